import JvmDerived
import JvmDerived.Pilot.@@N@@Statement
import JvmDerived.Pilot.@@N@@Code
set_option linter.unusedVariables false
set_option linter.unusedSimpArgs false

namespace Jvm.Pilot.@@N@@
open Jvm Jvm.ClassFile Sem Op Lib Jvm.Free Jvm.Stand Jvm.LawKit Jvm.RoadKit Bundle Jvm.Pilot.@@N@@.Jvm.D
/-- from the state S the invocation runs to its end and Q holds there -/
def Ends (p : Program) (e : Env) (below : List Frame) (s : State) (Q : Option Value → Heap → List Loc → Prop) (K N : Nat) (S : State) : Prop :=
  ∃ s₂ o, Steps p.tables e below S s₂ ∧ s₂.status = .running ∧ Ended s₂ below o ∧ ∃ v L, o = .returned v ∧ Q v s₂.heap L ∧ FrameEnd s o s₂ L K N
/-- a method's contract at given arguments and heap -/
def Con (l : Launch) (Z : State) (y : MethodName) (bytes : ByteArray) (maxL : Nat) (rt : Option FieldType) (rm : Room) (as' : Array Value) (h0 : Heap) (Q : Option Value → Heap → List Loc → Prop) : Prop :=
  ∀ ws, MetFree l y (head1 (Jvm.Cond.code y bytes maxL rt :: ws) rm) (fun a U => a = as' ∧ Z.Warmed39 U.vm ∧ U.heap = h0) (fun _ _ _ _ _ => True) (fun _ U o U' => ∃ v L, o = .returned v ∧ Q v U'.heap L ∧ FrameEnd U o U' L rm.cells rm.slots)
section Own
variable {p : Program} {l : Launch} {e : Env} {R : Room} {s : State} {m : MethodId} {args : Array Value} {below : List Frame} {meth : Method} {c : Code} {T : State} {locs : List Loc} {cells slots : Nat} {Q : Option Value → Heap → List Loc → Prop} {K N : Nat} {pc pc' : Nat} {Ls Ls' : Array Slot} {st : List Value} {Z : State} {a0 : Array Value} {h : Heap}
theorem Ends.go {S S' : State} (g : ∀ t, Steps p.tables e below S' t → Steps p.tables e below S t) (E : Ends p e below s Q K N S') : Ends p e below s Q K N S := by
  obtain ⟨s2, o, h1, r⟩ := E; exact ⟨s2, o, g _ h1, r⟩
theorem Con.ofP {y : MethodName} {bytes : ByteArray} {maxL : Nat} {rt : Option FieldType} {rm : Room} {as' : Array Value} {h0 : Heap} (hn : plainFor y = true)
    (body : ∀ (p : Program) (e : Env) (s : State) (m : MethodId) (below : List Frame) (meth : Method) (c : Code) (T : State), Stand p l e rm s m as' below meth c T [] 0 0 → p.tables.exec = Jvm.exec → c.code = bytes → c.maxLocals = maxL → meth.sig.returnType = rt → meth.locks = false → s.vm.findClass y.cls = some m.cls → meth.name = y.name → Z.Warmed39 s.vm → T.heap = h0 →
      Ends p e below s Q rm.cells rm.slots (T.setTop (entryFrame m as' maxL))) : Con l Z y bytes maxL rt rm as' h0 Q := by
  intro ws
  refine MetFree.of_bodySF hn hisR ?_
  intro p e s m args below meth c s₁ Bd hml0 hP hK
  obtain ⟨ha, hZ, hh⟩ := hP
  subst ha
  have X0 : Stand p l e rm s m _ below meth c s₁ [] 0 0 := Stand.of_body Bd
  have e0 : s₁.heap = h0 := by rw [← hh, Bd.state]; rfl
  exact body p e s m below meth c s₁ X0 Bd.exec Bd.bytes hml0 Bd.returns (BodyLoose.notSynchronized Bd) (findClass_of_methodNamed Bd.named) (name_of_methodNamed Bd.named Bd.method).1 hZ e0
theorem Con.of {y : MethodName} {bytes : ByteArray} {maxL : Nat} {rt : Option FieldType} {rm : Room} {as' : Array Value} {h0 : Heap} (hn : plainName y.cls = true)
    (body : ∀ (p : Program) (e : Env) (s : State) (m : MethodId) (below : List Frame) (meth : Method) (c : Code) (T : State), Stand p l e rm s m as' below meth c T [] 0 0 → p.tables.exec = Jvm.exec → c.code = bytes → c.maxLocals = maxL → meth.sig.returnType = rt → meth.locks = false → s.vm.findClass y.cls = some m.cls → meth.name = y.name → Z.Warmed39 s.vm → T.heap = h0 →
      Ends p e below s Q rm.cells rm.slots (T.setTop (entryFrame m as' maxL))) : Con l Z y bytes maxL rt rm as' h0 Q := Con.ofP (plainFor_of_name hn) body
theorem o_iloadN (X : Stand p l e R s m args below meth c T locs cells slots) (hx : p.tables.exec = Jvm.exec) {k : Fin 4} {v : Int32} (hd : decode c.code pc = .ok (.iload_n k, 1)) (hl : Ls[k.val]? = some (.val (.int v))) (hp : pc + 1 = pc') (E : Ends p e below s Q K N (T.setTop (mkF m pc' Ls (.int v :: st)))) : Ends p e below s Q K N (T.setTop (mkF m pc Ls st)) := by
  subst hp; exact Ends.go (fun t q => XS.iloadN X.here hx rfl hd hl q) E
theorem o_iload (X : Stand p l e R s m args below meth c T locs cells slots) (hx : p.tables.exec = Jvm.exec) {k : Nat} {v : Int32} (hd : decode c.code pc = .ok (.iload k, 2)) (hl : Ls[k]? = some (.val (.int v))) (hp : pc + 2 = pc') (E : Ends p e below s Q K N (T.setTop (mkF m pc' Ls (.int v :: st)))) : Ends p e below s Q K N (T.setTop (mkF m pc Ls st)) := by
  subst hp; exact Ends.go (fun t q => XS.iload X.here hx rfl hd hl q) E
theorem o_istoreN (X : Stand p l e R s m args below meth c T locs cells slots) (hx : p.tables.exec = Jvm.exec) {k : Fin 4} {v : Int32} (hd : decode c.code pc = .ok (.istore_n k, 1)) (hl : storeLocals Ls k.val (.int v) = some Ls') (hp : pc + 1 = pc') (E : Ends p e below s Q K N (T.setTop (mkF m pc' Ls' st))) : Ends p e below s Q K N (T.setTop (mkF m pc Ls (.int v :: st))) := by
  subst hp; exact Ends.go (fun t q => XS.istoreN X.here hx rfl hd rfl hl q) E
theorem o_istore (X : Stand p l e R s m args below meth c T locs cells slots) (hx : p.tables.exec = Jvm.exec) {k : Nat} {v : Int32} (hd : decode c.code pc = .ok (.istore k, 2)) (hl : storeLocals Ls k (.int v) = some Ls') (hp : pc + 2 = pc') (E : Ends p e below s Q K N (T.setTop (mkF m pc' Ls' st))) : Ends p e below s Q K N (T.setTop (mkF m pc Ls (.int v :: st))) := by
  subst hp; exact Ends.go (fun t q => XS.istore X.here hx rfl hd rfl hl q) E
theorem o_iconst (X : Stand p l e R s m args below meth c T locs cells slots) (hx : p.tables.exec = Jvm.exec) {i : Int} {v : Int32} (hd : decode c.code pc = .ok (.iconst i, 1)) (hv : Int32.ofInt i = v) (hp : pc + 1 = pc') (E : Ends p e below s Q K N (T.setTop (mkF m pc' Ls (.int v :: st)))) : Ends p e below s Q K N (T.setTop (mkF m pc Ls st)) := by
  subst hp; exact Ends.go (fun t q => XS.iconst X.here hx rfl hd  (by rw [hv]; exact q)) E
theorem o_bipush (X : Stand p l e R s m args below meth c T locs cells slots) (hx : p.tables.exec = Jvm.exec) {i : Int} {v : Int32} (hd : decode c.code pc = .ok (.bipush i, 2)) (hv : (Int8.ofInt i).toInt32 = v) (hp : pc + 2 = pc') (E : Ends p e below s Q K N (T.setTop (mkF m pc' Ls (.int v :: st)))) : Ends p e below s Q K N (T.setTop (mkF m pc Ls st)) := by
  subst hp; exact Ends.go (fun t q => XS.bipush X.here hx rfl hd  (by rw [hv]; exact q)) E
theorem o_sipush (X : Stand p l e R s m args below meth c T locs cells slots) (hx : p.tables.exec = Jvm.exec) {i : Int} {v : Int32} (hd : decode c.code pc = .ok (.sipush i, 3)) (hv : (Int16.ofInt i).toInt32 = v) (hp : pc + 3 = pc') (E : Ends p e below s Q K N (T.setTop (mkF m pc' Ls (.int v :: st)))) : Ends p e below s Q K N (T.setTop (mkF m pc Ls st)) := by
  subst hp; exact Ends.go (fun t q => XS.sipush X.here hx rfl hd  (by rw [hv]; exact q)) E
theorem o_iand (X : Stand p l e R s m args below meth c T locs cells slots) (hx : p.tables.exec = Jvm.exec) {x y : Int32} (hd : decode c.code pc = .ok (.iand, 1))  (hp : pc + 1 = pc') (E : Ends p e below s Q K N (T.setTop (mkF m pc' Ls (.int (x &&& y) :: st)))) : Ends p e below s Q K N (T.setTop (mkF m pc Ls (.int y :: .int x :: st))) := by
  subst hp; exact Ends.go (fun t q => XS.iand X.here hx rfl hd rfl q) E
theorem o_iushr (X : Stand p l e R s m args below meth c T locs cells slots) (hx : p.tables.exec = Jvm.exec) {x y : Int32} (hd : decode c.code pc = .ok (.iushr, 1))  (hp : pc + 1 = pc') (E : Ends p e below s Q K N (T.setTop (mkF m pc' Ls (.int ((x.toUInt32 >>> (y &&& 31).toUInt32).toInt32) :: st)))) : Ends p e below s Q K N (T.setTop (mkF m pc Ls (.int y :: .int x :: st))) := by
  subst hp; exact Ends.go (fun t q => XS.iushr X.here hx rfl hd rfl q) E
theorem o_ldc (X : Stand p l e R s m args below meth c T locs cells slots) (hx : p.tables.exec = Jvm.exec) {own : String} {index : Nat} {v : Int32} (hd : decode c.code pc = .ok (.ldc index, 2)) (hZ : Z.Warmed39 s.vm) (hown : s.vm.findClass own = some m.cls) (w : (Jvm.Cond.constant own index v).before a0 Z = true) (hp : pc + 2 = pc') (E : Ends p e below s Q K N (T.setTop (mkF m pc' Ls (.int v :: st)))) : Ends p e below s Q K N (T.setTop (mkF m pc Ls st)) := by
  subst hp; exact Ends.go (fun t q => X.ldcInt hx hown (mvT hZ w) (g := mkF m pc Ls st) rfl hd t q) E
theorem o_goto (X : Stand p l e R s m args below meth c T locs cells slots) (hx : p.tables.exec = Jvm.exec) {o : Int} (hd : decode c.code pc = .ok (.goto o, 3)) (ho : 0 ≤ (pc : Int) + o) (hp : ((pc : Int) + o).toNat = pc') (E : Ends p e below s Q K N (T.setTop (mkF m pc' Ls st))) : Ends p e below s Q K N (T.setTop (mkF m pc Ls st)) :=
  Ends.go (fun t q => XS.goto X.here hx rfl (pc0 := pc) rfl hd ho hp q) E
theorem o_icmp_eq (X : Stand p l e R s m args below meth c T locs cells slots) (hx : p.tables.exec = Jvm.exec) {x y : Int32} {o : Int} {p1 p2 : Nat} (hd : decode c.code pc = .ok (.if_icmp .eq o, 3)) (hp : pc + 3 = p1) (ho : 0 ≤ (pc : Int) + o) (hp2 : ((pc : Int) + o).toNat = p2) (E1 : x = y → Ends p e below s Q K N (T.setTop (mkF m p2 Ls st))) (E2 : ¬ x = y → Ends p e below s Q K N (T.setTop (mkF m p1 Ls st))) : Ends p e below s Q K N (T.setTop (mkF m pc Ls (.int y :: .int x :: st))) := by
  subst hp
  by_cases hc : x = y
  · exact Ends.go (fun t q => XS.icmpYes X.here hx rfl (pc0 := pc) rfl hd rfl ((teq hc).1) ho hp2 q) (E1 hc)
  · exact Ends.go (fun t q => XS.icmpNo X.here hx rfl hd rfl ((feq hc).1) q) (E2 hc)
theorem o_icmp_ne (X : Stand p l e R s m args below meth c T locs cells slots) (hx : p.tables.exec = Jvm.exec) {x y : Int32} {o : Int} {p1 p2 : Nat} (hd : decode c.code pc = .ok (.if_icmp .ne o, 3)) (hp : pc + 3 = p1) (ho : 0 ≤ (pc : Int) + o) (hp2 : ((pc : Int) + o).toNat = p2) (E1 : ¬ x = y → Ends p e below s Q K N (T.setTop (mkF m p2 Ls st))) (E2 : x = y → Ends p e below s Q K N (T.setTop (mkF m p1 Ls st))) : Ends p e below s Q K N (T.setTop (mkF m pc Ls (.int y :: .int x :: st))) := by
  subst hp
  by_cases hc : x = y
  · exact Ends.go (fun t q => XS.icmpNo X.here hx rfl hd rfl ((teq hc).2) q) (E2 hc)
  · exact Ends.go (fun t q => XS.icmpYes X.here hx rfl (pc0 := pc) rfl hd rfl ((feq hc).2) ho hp2 q) (E1 hc)
theorem o_icmp_lt (X : Stand p l e R s m args below meth c T locs cells slots) (hx : p.tables.exec = Jvm.exec) {x y : Int32} {o : Int} {p1 p2 : Nat} (hd : decode c.code pc = .ok (.if_icmp .lt o, 3)) (hp : pc + 3 = p1) (ho : 0 ≤ (pc : Int) + o) (hp2 : ((pc : Int) + o).toNat = p2) (E1 : x < y → Ends p e below s Q K N (T.setTop (mkF m p2 Ls st))) (E2 : ¬ x < y → Ends p e below s Q K N (T.setTop (mkF m p1 Ls st))) : Ends p e below s Q K N (T.setTop (mkF m pc Ls (.int y :: .int x :: st))) := by
  subst hp
  by_cases hc : x < y
  · exact Ends.go (fun t q => XS.icmpYes X.here hx rfl (pc0 := pc) rfl hd rfl ((tlt hc).1) ho hp2 q) (E1 hc)
  · exact Ends.go (fun t q => XS.icmpNo X.here hx rfl hd rfl ((flt hc).1) q) (E2 hc)
theorem o_icmp_ge (X : Stand p l e R s m args below meth c T locs cells slots) (hx : p.tables.exec = Jvm.exec) {x y : Int32} {o : Int} {p1 p2 : Nat} (hd : decode c.code pc = .ok (.if_icmp .ge o, 3)) (hp : pc + 3 = p1) (ho : 0 ≤ (pc : Int) + o) (hp2 : ((pc : Int) + o).toNat = p2) (E1 : ¬ x < y → Ends p e below s Q K N (T.setTop (mkF m p2 Ls st))) (E2 : x < y → Ends p e below s Q K N (T.setTop (mkF m p1 Ls st))) : Ends p e below s Q K N (T.setTop (mkF m pc Ls (.int y :: .int x :: st))) := by
  subst hp
  by_cases hc : x < y
  · exact Ends.go (fun t q => XS.icmpNo X.here hx rfl hd rfl ((tlt hc).2.1) q) (E2 hc)
  · exact Ends.go (fun t q => XS.icmpYes X.here hx rfl (pc0 := pc) rfl hd rfl ((flt hc).2.1) ho hp2 q) (E1 hc)
theorem o_icmp_le (X : Stand p l e R s m args below meth c T locs cells slots) (hx : p.tables.exec = Jvm.exec) {x y : Int32} {o : Int} {p1 p2 : Nat} (hd : decode c.code pc = .ok (.if_icmp .le o, 3)) (hp : pc + 3 = p1) (ho : 0 ≤ (pc : Int) + o) (hp2 : ((pc : Int) + o).toNat = p2) (E1 : ¬ y < x → Ends p e below s Q K N (T.setTop (mkF m p2 Ls st))) (E2 : y < x → Ends p e below s Q K N (T.setTop (mkF m p1 Ls st))) : Ends p e below s Q K N (T.setTop (mkF m pc Ls (.int y :: .int x :: st))) := by
  subst hp
  by_cases hc : y < x
  · exact Ends.go (fun t q => XS.icmpNo X.here hx rfl hd rfl ((tlt hc).2.2.2) q) (E2 hc)
  · exact Ends.go (fun t q => XS.icmpYes X.here hx rfl (pc0 := pc) rfl hd rfl ((flt hc).2.2.2) ho hp2 q) (E1 hc)
theorem o_if_eq (X : Stand p l e R s m args below meth c T locs cells slots) (hx : p.tables.exec = Jvm.exec) {x : Int32} {o : Int} {p1 p2 : Nat} (hd : decode c.code pc = .ok (.ifCond .eq o, 3)) (hp : pc + 3 = p1) (ho : 0 ≤ (pc : Int) + o) (hp2 : ((pc : Int) + o).toNat = p2) (E1 : x = 0 → Ends p e below s Q K N (T.setTop (mkF m p2 Ls st))) (E2 : ¬ x = 0 → Ends p e below s Q K N (T.setTop (mkF m p1 Ls st))) : Ends p e below s Q K N (T.setTop (mkF m pc Ls (.int x :: st))) := by
  subst hp
  by_cases hc : x = 0
  · exact Ends.go (fun t q => XS.ifYes X.here hx rfl (pc0 := pc) rfl hd rfl ((if0 _ _).trans ((teq hc).1)) ho hp2 q) (E1 hc)
  · exact Ends.go (fun t q => XS.ifNo X.here hx rfl hd rfl ((if0 _ _).trans ((feq hc).1)) q) (E2 hc)
theorem o_ret (X : Stand p l e R s m args below meth c T locs cells slots) (hx : p.tables.exec = Jvm.exec) {w : Value} {t : FieldType} {i : Instr} (hlk : meth.locks = false) (hret : meth.sig.returnType = some t) (hd : decode c.code pc = .ok (i, 1)) (hn : narrow t w = w)
    (hi : (i = .ireturn ∧ (t = .int ∨ t = .boolean ∨ t = .byte ∨ t = .char ∨ t = .short) ∧ ∃ z, w = .int z) ∨ (i = .lreturn ∧ t = .long ∧ ∃ z, w = .long z) ∨ (i = .dreturn ∧ t = .double ∧ ∃ z, w = .double z) ∨ (i = .freturn ∧ t = .float ∧ ∃ z, w = .float z) ∨ (i = .areturn ∧ t.isReference = true ∧ w.isRef = true))
    (hq : Q (some w) T.heap locs) (hk : cells ≤ K) (hs : slots ≤ N) : Ends p e below s Q K N (T.setTop (mkF m pc Ls (w :: st))) := by
  obtain ⟨fs, hr, hrun, hended, hW, hsame⟩ := X.leave (v := some w) (fun h => by rw [hret] at h; cases h) hlk
  exact ⟨_, _, retOut X hx hret hn hi hd hr, hrun, hended, _, _, rfl, hq, ⟨_, rfl⟩, hW, hsame.mono hk hs⟩
theorem o_retZ (X : Stand p l e R s m args below meth c T locs cells slots) (hx : p.tables.exec = Jvm.exec) {z : Int32} (hlk : meth.locks = false) (hret : meth.sig.returnType = some .boolean) (hd : decode c.code pc = .ok (.ireturn, 1)) (hz : z &&& 1 = z) (hq : Q (some (.int z)) T.heap locs) (hk : cells ≤ K) (hs : slots ≤ N) : Ends p e below s Q K N (T.setTop (mkF m pc Ls (.int z :: st))) :=
  o_ret X hx hlk hret hd (by show Value.int (z &&& 1) = _; rw [hz]) (Or.inl ⟨rfl, Or.inr (Or.inl rfl), _, rfl⟩) hq hk hs
theorem o_callS (X : Stand p l e R s m args below meth c T locs cells slots) (hx : p.tables.exec = Jvm.exec) (hZ : Z.Warmed39 s.vm) {own : String} {index : Nat} {y : MethodName} {bytes : ByteArray} {maxL : Nat} {rt : Option FieldType} {rm : Room} {argsL rest : List Value} {Q' : Option Value → Heap → List Loc → Prop} {ps : List FieldType} {pr : Option FieldType} (hown : s.vm.findClass own = some m.cls) (w1 : (Jvm.Cond.methodLink own index y).before a0 Z = true) (w2 : (Jvm.Cond.static y).before a0 Z = true) (w3 : (Jvm.Cond.initialized y.cls).before a0 Z = true) (w4 : (Jvm.Cond.code y bytes maxL rt).before a0 Z = true)
    (hy : y.cls ≠ "java/lang/invoke/MethodHandle" ∧ y.cls ≠ "java/lang/invoke/VarHandle") (eT : T.heap = h) (hM : Con l Z y bytes maxL rt rm argsL.toArray h Q') (hsz : Ls.size = c.maxLocals) (hpd : parseMethodDescriptor y.desc = some ⟨ps, pr⟩) (hlen : argsL.length = ps.length) (hst : st = argsL.reverse ++ rest) (hd : decode c.code pc = .ok (.invokestatic index, 3)) (hp : pc + 3 = pc')
    {W : Nat} (hf : rm.frames + 1 ≤ R.frames) (hW : (rest.map fun v => v.category).sum = W) (hl : W + (maxL + 11) + rm.locals ≤ R.locals) (hc : cells + rm.cells ≤ R.cells) (hs : slots + rm.slots ≤ R.slots)
    (E : ∀ (v : Option Value) (T' : State) (L : List Loc), Q' v T'.heap L → Stand p l e R s m args below meth c T' (locs ++ L) (cells + rm.cells) (slots + rm.slots) → Ends p e below s Q K N (T'.setTop (mkF m pc' Ls (v.toList ++ rest)))) : Ends p e below s Q K N (T.setTop (mkF m pc Ls st)) := by
  subst hp hst
  obtain ⟨v, _, ⟨T2, L2, k2, n2⟩, -, X2, ⟨Lc2, hQ2, l2, y2, z2⟩, st2⟩ := Jvm.LawKit.callS X hx (y := y) hown (mvT hZ w1) (mvT hZ w2) (mvT hZ w3) (mvT hZ w4) hy (backOf (W := W) (hM []) hZ w4 w3 hf hl) (g := mkF m pc Ls (argsL.reverse ++ rest)) rfl hsz (argsL := argsL) (rest := rest) (lenOf hpd hlen) rfl (by show 2 * 0 + _ ≤ _; omega) hd (fun _ _ => ⟨rfl, eT, hc, hs⟩)
  dsimp only [Pt.U, Pt.locs, Pt.cells, Pt.slots] at X2 l2 y2 z2 st2 hQ2
  subst l2 y2 z2
  exact Ends.go st2 (E v T2 Lc2 hQ2 X2)
theorem o_getS (X : Stand p l e R s m args below meth c T locs cells slots) (hx : p.tables.exec = Jvm.exec) (hZ : Z.Warmed39 s.vm) {own R0 O n d : String} {index : Nat} {v : Value} (hown : s.vm.findClass own = some m.cls) (w : (Jvm.Cond.fieldLink own index R0 n d).before a0 Z = true) (via : Via Z R0 O n d) (eT : T.heap = h) (F : Sta Z h O n d v) (hd : decode c.code pc = .ok (.getstatic index, 3)) (hp : pc + 3 = pc')
    (E : ∀ T', T'.heap = h → Stand p l e R s m args below meth c T' locs cells slots → Ends p e below s Q K N (T'.setTop (mkF m pc' Ls (v :: st)))) : Ends p e below s Q K N (T.setTop (mkF m pc Ls st)) := by
  subst hp
  obtain ⟨T1, X1, e1, s1⟩ := getS X hx hZ hown (host := "") w via eT F (g := mkF m pc Ls st) rfl hd
  exact Ends.go s1 (E T1 e1 X1)
theorem o_len (X : Stand p l e R s m args below meth c T locs cells slots) (hx : p.tables.exec = Jvm.exec) (hZ : Z.Warmed39 s.vm) {a : Addr} {cl : Cell} {ty : FieldType} {n : Int32} (eT : T.heap = h) (A : Arr Z h a cl ty) (hn : cl.slots.size.toInt32 = n) (hd : decode c.code pc = .ok (.arraylength, 1)) (hp : pc + 1 = pc') (E : Ends p e below s Q K N (T.setTop (mkF m pc' Ls (.int n :: st)))) : Ends p e below s Q K N (T.setTop (mkF m pc Ls (.ref a :: st))) := by
  subst hp hn
  exact Ends.go (fun t q => X.arraylength hx (by rw [eT]; exact A.1) (State.isArrayOf_alike hZ.alike A.2.1) (g := mkF m pc Ls (.ref a :: st)) rfl rfl hd _ q) E
theorem o_baloadZ (X : Stand p l e R s m args below meth c T locs cells slots) (hx : p.tables.exec = Jvm.exec) (hZ : Z.Warmed39 s.vm) {a : Addr} {cl : Cell} {j : Int32} {v : Value} (eT : T.heap = h) (A : Arr Z h a cl .boolean) (hj : ¬ (j < 0 ∨ cl.slots.size ≤ j.toNatClampNeg)) (hv : cl.slots[j.toNatClampNeg]? = some v) (hd : decode c.code pc = .ok (.baload, 1)) (hp : pc + 1 = pc') (E : Ends p e below s Q K N (T.setTop (mkF m pc' Ls (v :: st)))) : Ends p e below s Q K N (T.setTop (mkF m pc Ls (.int j :: .ref a :: st))) := by
  subst hp
  exact Ends.go (fun t q => X.baloadBooleans hx (by rw [eT]; exact A.1) (State.isArrayOf_alike hZ.alike A.2.1) A.2.2 hj hv (g := mkF m pc Ls (.int j :: .ref a :: st)) rfl rfl hd _ q) E
theorem own_eqI {idx : List Nat} {t : Term} {k : Int32} (h : (Jvm.Cond.eq t (.int k)).value args s none s idx = some true) : t.eval args s none idx s = some (.int k) := by
  obtain ⟨x, y, e1, e2, -, k2⟩ := cmp_v (Or.inl h)
  have hy : y = .int k := (Option.some.inj ((Term.int_eval k).symm.trans e2)).symm
  subst hy
  obtain ⟨z, rfl⟩ := k2
  have hz : z = k := gotT (Cond.eq_ints e1 e2) h
  rw [e1, hz]
def Cont (cl : Cell) (n : Nat) (g : Nat → Value) : Prop := cl.slots.size = n ∧ ∀ k, k < n → cl.slots[k]? = some (g k)
theorem Cont.at {cl : Cell} {n : Nat} {g : Nat → Value} (C : Cont cl n g) {j : Int32} (h0 : 0 ≤ j.toInt) (h1 : j.toInt < n) : cl.slots[j.toNatClampNeg]? = some (g j.toNatClampNeg) := C.2 _ (by simp only [Int32.toNatClampNeg]; omega)
end Own
end Jvm.Pilot.@@N@@
namespace Jvm.Pilot.@@N@@
open Jvm Jvm.ClassFile Sem Op Lib Jvm.Free Jvm.Stand Jvm.LawKit Jvm.RoadKit Bundle Jvm.Pilot.@@N@@.Jvm.D
theorem pn_0 : plainName "com/example/burst/burst/RequestTargetMayHoldPinLaw" = true := by first | (simp [plainName, overriddenIn]; done) | decide +kernel
theorem pd_0 : parseMethodDescriptor "(I)Z" = some ⟨[.int], some .boolean⟩ := by decide +kernel
theorem d1_0 : decode prog_35_method_2_code 0 = .ok (.iload_n 0, 1) := by decide +kernel
theorem d1_1 : decode prog_35_method_2_code 1 = .ok (.getstatic 16, 3) := by decide +kernel
theorem d1_4 : decode prog_35_method_2_code 4 = .ok (.arraylength, 1) := by decide +kernel
theorem d1_5 : decode prog_35_method_2_code 5 = .ok (.if_icmp .ge 15, 3) := by decide +kernel
theorem d1_8 : decode prog_35_method_2_code 8 = .ok (.getstatic 16, 3) := by decide +kernel
theorem d1_11 : decode prog_35_method_2_code 11 = .ok (.iload_n 0, 1) := by decide +kernel
theorem d1_12 : decode prog_35_method_2_code 12 = .ok (.baload, 1) := by decide +kernel
theorem d1_13 : decode prog_35_method_2_code 13 = .ok (.ifCond .eq 7, 3) := by decide +kernel
theorem d1_16 : decode prog_35_method_2_code 16 = .ok (.iconst 1, 1) := by decide +kernel
theorem d1_17 : decode prog_35_method_2_code 17 = .ok (.goto 4, 3) := by decide +kernel
theorem d1_20 : decode prog_35_method_2_code 20 = .ok (.iconst 0, 1) := by decide +kernel
theorem d1_21 : decode prog_35_method_2_code 21 = .ok (.ireturn, 1) := by decide +kernel
theorem pn_1 : plainName "com/example/burst/burst/RequestTarget" = true := by first | (simp [plainName, overriddenIn]; done) | decide +kernel
theorem pd_1 : parseMethodDescriptor "(I)Z" = some ⟨[.int], some .boolean⟩ := by decide +kernel
theorem d2_0 : decode method_2_code 0 = .ok (.iload_n 0, 1) := by decide +kernel
theorem d2_1 : decode method_2_code 1 = .ok (.bipush 33, 2) := by decide +kernel
theorem d2_3 : decode method_2_code 3 = .ok (.if_icmp .lt 9, 3) := by decide +kernel
theorem d2_6 : decode method_2_code 6 = .ok (.iload_n 0, 1) := by decide +kernel
theorem d2_7 : decode method_2_code 7 = .ok (.bipush 126, 2) := by decide +kernel
theorem d2_9 : decode method_2_code 9 = .ok (.if_icmp .le 5, 3) := by decide +kernel
theorem d2_12 : decode method_2_code 12 = .ok (.iconst 0, 1) := by decide +kernel
theorem d2_13 : decode method_2_code 13 = .ok (.ireturn, 1) := by decide +kernel
theorem d2_14 : decode method_2_code 14 = .ok (.iload_n 0, 1) := by decide +kernel
theorem d2_15 : decode method_2_code 15 = .ok (.bipush 34, 2) := by decide +kernel
theorem d2_17 : decode method_2_code 17 = .ok (.if_icmp .eq 61, 3) := by decide +kernel
theorem d2_20 : decode method_2_code 20 = .ok (.iload_n 0, 1) := by decide +kernel
theorem d2_21 : decode method_2_code 21 = .ok (.bipush 35, 2) := by decide +kernel
theorem d2_23 : decode method_2_code 23 = .ok (.if_icmp .eq 55, 3) := by decide +kernel
theorem d2_26 : decode method_2_code 26 = .ok (.iload_n 0, 1) := by decide +kernel
theorem d2_27 : decode method_2_code 27 = .ok (.bipush 60, 2) := by decide +kernel
theorem d2_29 : decode method_2_code 29 = .ok (.if_icmp .eq 49, 3) := by decide +kernel
theorem d2_32 : decode method_2_code 32 = .ok (.iload_n 0, 1) := by decide +kernel
theorem d2_33 : decode method_2_code 33 = .ok (.bipush 62, 2) := by decide +kernel
theorem d2_35 : decode method_2_code 35 = .ok (.if_icmp .eq 43, 3) := by decide +kernel
theorem d2_38 : decode method_2_code 38 = .ok (.iload_n 0, 1) := by decide +kernel
theorem d2_39 : decode method_2_code 39 = .ok (.bipush 92, 2) := by decide +kernel
theorem d2_41 : decode method_2_code 41 = .ok (.if_icmp .eq 37, 3) := by decide +kernel
theorem d2_44 : decode method_2_code 44 = .ok (.iload_n 0, 1) := by decide +kernel
theorem d2_45 : decode method_2_code 45 = .ok (.bipush 94, 2) := by decide +kernel
theorem d2_47 : decode method_2_code 47 = .ok (.if_icmp .eq 31, 3) := by decide +kernel
theorem d2_50 : decode method_2_code 50 = .ok (.iload_n 0, 1) := by decide +kernel
theorem d2_51 : decode method_2_code 51 = .ok (.bipush 96, 2) := by decide +kernel
theorem d2_53 : decode method_2_code 53 = .ok (.if_icmp .eq 25, 3) := by decide +kernel
theorem d2_56 : decode method_2_code 56 = .ok (.iload_n 0, 1) := by decide +kernel
theorem d2_57 : decode method_2_code 57 = .ok (.bipush 123, 2) := by decide +kernel
theorem d2_59 : decode method_2_code 59 = .ok (.if_icmp .eq 19, 3) := by decide +kernel
theorem d2_62 : decode method_2_code 62 = .ok (.iload_n 0, 1) := by decide +kernel
theorem d2_63 : decode method_2_code 63 = .ok (.bipush 124, 2) := by decide +kernel
theorem d2_65 : decode method_2_code 65 = .ok (.if_icmp .eq 13, 3) := by decide +kernel
theorem d2_68 : decode method_2_code 68 = .ok (.iload_n 0, 1) := by decide +kernel
theorem d2_69 : decode method_2_code 69 = .ok (.bipush 125, 2) := by decide +kernel
theorem d2_71 : decode method_2_code 71 = .ok (.if_icmp .eq 7, 3) := by decide +kernel
theorem d2_74 : decode method_2_code 74 = .ok (.iconst 1, 1) := by decide +kernel
theorem d2_75 : decode method_2_code 75 = .ok (.goto 4, 3) := by decide +kernel
theorem d2_78 : decode method_2_code 78 = .ok (.iconst 0, 1) := by decide +kernel
theorem d2_79 : decode method_2_code 79 = .ok (.ireturn, 1) := by decide +kernel
theorem pn_2 : plainName "com/example/burst/burst/RequestTargetMayHoldPinLaw" = true := by first | (simp [plainName, overriddenIn]; done) | decide +kernel
theorem pd_2 : parseMethodDescriptor "(I)Z" = some ⟨[.int], some .boolean⟩ := by decide +kernel

theorem own_mask31 (x : Int32) : 0 ≤ (x &&& 2147483647).toInt := by
  have := c_mask x 2147483647 31 (by decide) (by decide)
  omega
theorem own_rem (x k : Int32) (n : Int) (hn : 0 < n) (hk : k.toInt = n) (hx : 0 ≤ x.toInt) : 0 ≤ (x % k).toInt ∧ (x % k).toInt < n := by
  have := (c_irem x k n hk).1 hx
  rw [this]
  exact ⟨Int.emod_nonneg _ (by omega), Int.emod_lt_of_pos _ hn⟩
theorem own_is {v : Int32} {k : Int} (h : v.toInt = k) : v = Int32.ofInt k := by rw [← h, Int32.ofInt_toInt]
def f2 (p1 : Int32) : Int32 := (if p1 < (33 : Int32) then (0 : Int32) else (if (126 : Int32) < p1 then (0 : Int32) else (if p1 = (34 : Int32) then (0 : Int32) else (if p1 = (35 : Int32) then (0 : Int32) else (if p1 = (60 : Int32) then (0 : Int32) else (if p1 = (62 : Int32) then (0 : Int32) else (if p1 = (92 : Int32) then (0 : Int32) else (if p1 = (94 : Int32) then (0 : Int32) else (if p1 = (96 : Int32) then (0 : Int32) else (if p1 = (123 : Int32) then (0 : Int32) else (if p1 = (124 : Int32) then (0 : Int32) else (if p1 = (125 : Int32) then (0 : Int32) else (1 : Int32)))))))))))))
abbrev Q2 (Z : State) (p1 : Int32) (h0 : Heap) (v : Option Value) (h : Heap) (L : List Loc) : Prop := v = some (.int (f2 p1)) ∧ L = [] ∧ h = h0
set_option maxRecDepth 65536 in
set_option maxHeartbeats 40000000 in
theorem rm2 (l : Launch) (Z : State) (a0 : Array Value) (hw : ∀ d ∈ tables_1, d.before a0 Z = true) (p1 : Int32) (h0 : Heap)  :
    Con l Z (⟨"com/example/burst/burst/RequestTargetMayHoldPinLaw", "expected", "(I)Z"⟩ : MethodName) method_2_code 1 (some .boolean) ({ frames := 0, cells := 0, slots := 0, locals := 0 } : Room) #[(.int p1)] h0 (Q2 Z p1 h0) := by
  refine Con.of pn_2 (fun p e s m below meth c T0 X0 hx hby hml hret hlk hown hnm hZ e0 => ?_)
  replace hown : s.vm.findClass "com/example/burst/burst/RequestTargetMayHoldPinLaw" = some m.cls := hown
  have ef : entryFrame m #[(.int p1)] 1 = mkF m 0 #[.val (.int p1)] [] := by first | (simp [entryFrame, mkF, argsToLocals, Value.category]; done) | rfl
  rw [ef]
  refine o_iloadN (pc' := 1) X0 hx (hb hby d2_0) rfl rfl ?_
  refine o_bipush (v := (33 : Int32)) (pc' := 3) X0 hx (hb hby d2_1) (by decide) rfl ?_
  refine o_icmp_lt (p1 := 6) (p2 := 12) X0 hx (hb hby d2_3) rfl (by decide) (by decide) (fun hc3 => ?_) (fun hc3 => ?_)
  · refine o_iconst (v := (0 : Int32)) (pc' := 13) X0 hx (hb hby d2_12) (by decide) rfl ?_
    exact o_retZ X0 hx hlk hret (hb hby d2_13) (by decide) ⟨by simp only [f2, if_pos hc3], rfl, e0⟩ (by decide) (by decide)
  · refine o_iloadN (pc' := 7) X0 hx (hb hby d2_6) rfl rfl ?_
    refine o_bipush (v := (126 : Int32)) (pc' := 9) X0 hx (hb hby d2_7) (by decide) rfl ?_
    refine o_icmp_le (p1 := 12) (p2 := 14) X0 hx (hb hby d2_9) rfl (by decide) (by decide) (fun hc9 => ?_) (fun hc9 => ?_)
    · refine o_iloadN (pc' := 15) X0 hx (hb hby d2_14) rfl rfl ?_
      refine o_bipush (v := (34 : Int32)) (pc' := 17) X0 hx (hb hby d2_15) (by decide) rfl ?_
      refine o_icmp_eq (p1 := 20) (p2 := 78) X0 hx (hb hby d2_17) rfl (by decide) (by decide) (fun hc17 => ?_) (fun hc17 => ?_)
      · refine o_iconst (v := (0 : Int32)) (pc' := 79) X0 hx (hb hby d2_78) (by decide) rfl ?_
        exact o_retZ X0 hx hlk hret (hb hby d2_79) (by decide) ⟨by simp only [f2, if_neg hc3, if_neg hc9, if_pos hc17], rfl, e0⟩ (by decide) (by decide)
      · refine o_iloadN (pc' := 21) X0 hx (hb hby d2_20) rfl rfl ?_
        refine o_bipush (v := (35 : Int32)) (pc' := 23) X0 hx (hb hby d2_21) (by decide) rfl ?_
        refine o_icmp_eq (p1 := 26) (p2 := 78) X0 hx (hb hby d2_23) rfl (by decide) (by decide) (fun hc23 => ?_) (fun hc23 => ?_)
        · refine o_iconst (v := (0 : Int32)) (pc' := 79) X0 hx (hb hby d2_78) (by decide) rfl ?_
          exact o_retZ X0 hx hlk hret (hb hby d2_79) (by decide) ⟨by simp only [f2, if_neg hc3, if_neg hc9, if_neg hc17, if_pos hc23], rfl, e0⟩ (by decide) (by decide)
        · refine o_iloadN (pc' := 27) X0 hx (hb hby d2_26) rfl rfl ?_
          refine o_bipush (v := (60 : Int32)) (pc' := 29) X0 hx (hb hby d2_27) (by decide) rfl ?_
          refine o_icmp_eq (p1 := 32) (p2 := 78) X0 hx (hb hby d2_29) rfl (by decide) (by decide) (fun hc29 => ?_) (fun hc29 => ?_)
          · refine o_iconst (v := (0 : Int32)) (pc' := 79) X0 hx (hb hby d2_78) (by decide) rfl ?_
            exact o_retZ X0 hx hlk hret (hb hby d2_79) (by decide) ⟨by simp only [f2, if_neg hc3, if_neg hc9, if_neg hc17, if_neg hc23, if_pos hc29], rfl, e0⟩ (by decide) (by decide)
          · refine o_iloadN (pc' := 33) X0 hx (hb hby d2_32) rfl rfl ?_
            refine o_bipush (v := (62 : Int32)) (pc' := 35) X0 hx (hb hby d2_33) (by decide) rfl ?_
            refine o_icmp_eq (p1 := 38) (p2 := 78) X0 hx (hb hby d2_35) rfl (by decide) (by decide) (fun hc35 => ?_) (fun hc35 => ?_)
            · refine o_iconst (v := (0 : Int32)) (pc' := 79) X0 hx (hb hby d2_78) (by decide) rfl ?_
              exact o_retZ X0 hx hlk hret (hb hby d2_79) (by decide) ⟨by simp only [f2, if_neg hc3, if_neg hc9, if_neg hc17, if_neg hc23, if_neg hc29, if_pos hc35], rfl, e0⟩ (by decide) (by decide)
            · refine o_iloadN (pc' := 39) X0 hx (hb hby d2_38) rfl rfl ?_
              refine o_bipush (v := (92 : Int32)) (pc' := 41) X0 hx (hb hby d2_39) (by decide) rfl ?_
              refine o_icmp_eq (p1 := 44) (p2 := 78) X0 hx (hb hby d2_41) rfl (by decide) (by decide) (fun hc41 => ?_) (fun hc41 => ?_)
              · refine o_iconst (v := (0 : Int32)) (pc' := 79) X0 hx (hb hby d2_78) (by decide) rfl ?_
                exact o_retZ X0 hx hlk hret (hb hby d2_79) (by decide) ⟨by simp only [f2, if_neg hc3, if_neg hc9, if_neg hc17, if_neg hc23, if_neg hc29, if_neg hc35, if_pos hc41], rfl, e0⟩ (by decide) (by decide)
              · refine o_iloadN (pc' := 45) X0 hx (hb hby d2_44) rfl rfl ?_
                refine o_bipush (v := (94 : Int32)) (pc' := 47) X0 hx (hb hby d2_45) (by decide) rfl ?_
                refine o_icmp_eq (p1 := 50) (p2 := 78) X0 hx (hb hby d2_47) rfl (by decide) (by decide) (fun hc47 => ?_) (fun hc47 => ?_)
                · refine o_iconst (v := (0 : Int32)) (pc' := 79) X0 hx (hb hby d2_78) (by decide) rfl ?_
                  exact o_retZ X0 hx hlk hret (hb hby d2_79) (by decide) ⟨by simp only [f2, if_neg hc3, if_neg hc9, if_neg hc17, if_neg hc23, if_neg hc29, if_neg hc35, if_neg hc41, if_pos hc47], rfl, e0⟩ (by decide) (by decide)
                · refine o_iloadN (pc' := 51) X0 hx (hb hby d2_50) rfl rfl ?_
                  refine o_bipush (v := (96 : Int32)) (pc' := 53) X0 hx (hb hby d2_51) (by decide) rfl ?_
                  refine o_icmp_eq (p1 := 56) (p2 := 78) X0 hx (hb hby d2_53) rfl (by decide) (by decide) (fun hc53 => ?_) (fun hc53 => ?_)
                  · refine o_iconst (v := (0 : Int32)) (pc' := 79) X0 hx (hb hby d2_78) (by decide) rfl ?_
                    exact o_retZ X0 hx hlk hret (hb hby d2_79) (by decide) ⟨by simp only [f2, if_neg hc3, if_neg hc9, if_neg hc17, if_neg hc23, if_neg hc29, if_neg hc35, if_neg hc41, if_neg hc47, if_pos hc53], rfl, e0⟩ (by decide) (by decide)
                  · refine o_iloadN (pc' := 57) X0 hx (hb hby d2_56) rfl rfl ?_
                    refine o_bipush (v := (123 : Int32)) (pc' := 59) X0 hx (hb hby d2_57) (by decide) rfl ?_
                    refine o_icmp_eq (p1 := 62) (p2 := 78) X0 hx (hb hby d2_59) rfl (by decide) (by decide) (fun hc59 => ?_) (fun hc59 => ?_)
                    · refine o_iconst (v := (0 : Int32)) (pc' := 79) X0 hx (hb hby d2_78) (by decide) rfl ?_
                      exact o_retZ X0 hx hlk hret (hb hby d2_79) (by decide) ⟨by simp only [f2, if_neg hc3, if_neg hc9, if_neg hc17, if_neg hc23, if_neg hc29, if_neg hc35, if_neg hc41, if_neg hc47, if_neg hc53, if_pos hc59], rfl, e0⟩ (by decide) (by decide)
                    · refine o_iloadN (pc' := 63) X0 hx (hb hby d2_62) rfl rfl ?_
                      refine o_bipush (v := (124 : Int32)) (pc' := 65) X0 hx (hb hby d2_63) (by decide) rfl ?_
                      refine o_icmp_eq (p1 := 68) (p2 := 78) X0 hx (hb hby d2_65) rfl (by decide) (by decide) (fun hc65 => ?_) (fun hc65 => ?_)
                      · refine o_iconst (v := (0 : Int32)) (pc' := 79) X0 hx (hb hby d2_78) (by decide) rfl ?_
                        exact o_retZ X0 hx hlk hret (hb hby d2_79) (by decide) ⟨by simp only [f2, if_neg hc3, if_neg hc9, if_neg hc17, if_neg hc23, if_neg hc29, if_neg hc35, if_neg hc41, if_neg hc47, if_neg hc53, if_neg hc59, if_pos hc65], rfl, e0⟩ (by decide) (by decide)
                      · refine o_iloadN (pc' := 69) X0 hx (hb hby d2_68) rfl rfl ?_
                        refine o_bipush (v := (125 : Int32)) (pc' := 71) X0 hx (hb hby d2_69) (by decide) rfl ?_
                        refine o_icmp_eq (p1 := 74) (p2 := 78) X0 hx (hb hby d2_71) rfl (by decide) (by decide) (fun hc71 => ?_) (fun hc71 => ?_)
                        · refine o_iconst (v := (0 : Int32)) (pc' := 79) X0 hx (hb hby d2_78) (by decide) rfl ?_
                          exact o_retZ X0 hx hlk hret (hb hby d2_79) (by decide) ⟨by simp only [f2, if_neg hc3, if_neg hc9, if_neg hc17, if_neg hc23, if_neg hc29, if_neg hc35, if_neg hc41, if_neg hc47, if_neg hc53, if_neg hc59, if_neg hc65, if_pos hc71], rfl, e0⟩ (by decide) (by decide)
                        · refine o_iconst (v := (1 : Int32)) (pc' := 75) X0 hx (hb hby d2_74) (by decide) rfl ?_
                          refine o_goto (pc' := 79) X0 hx (hb hby d2_75) (by decide) (by decide) ?_
                          exact o_retZ X0 hx hlk hret (hb hby d2_79) (by decide) ⟨by simp only [f2, if_neg hc3, if_neg hc9, if_neg hc17, if_neg hc23, if_neg hc29, if_neg hc35, if_neg hc41, if_neg hc47, if_neg hc53, if_neg hc59, if_neg hc65, if_neg hc71], rfl, e0⟩ (by decide) (by decide)
    · refine o_iconst (v := (0 : Int32)) (pc' := 13) X0 hx (hb hby d2_12) (by decide) rfl ?_
      exact o_retZ X0 hx hlk hret (hb hby d2_13) (by decide) ⟨by simp only [f2, if_neg hc3, if_pos hc9], rfl, e0⟩ (by decide) (by decide)
def fm (p1 : Int32) : Int32 := if p1 < (128 : Int32) then (if f2 p1 = (0 : Int32) then (0 : Int32) else (1 : Int32)) else (0 : Int32)
abbrev Q1 (Z : State) (p1 : Int32) (t : Addr) (cl : Cell) (h0 : Heap) (v : Option Value) (h : Heap) (L : List Loc) : Prop := v = some (.int (fm p1)) ∧ L = [] ∧ h = h0
set_option maxRecDepth 65536 in
set_option maxHeartbeats 40000000 in
theorem rm1 (l : Launch) (Z : State) (a0 : Array Value) (hw : ∀ d ∈ tables_1, d.before a0 Z = true) (p1 : Int32) (t : Addr) (cl : Cell) (h0 : Heap) (SP : Sta Z h0 "com/example/burst/burst/RequestTarget" "TARGET_BYTES" "[Z" (.ref t)) (A : Arr Z h0 t cl .boolean) (hs : cl.slots.size = 128) (HT : ∀ k : Int32, 0 ≤ k.toInt → k.toInt < 128 → cl.slots[k.toNatClampNeg]? = some (.int (f2 k))) (q0 : 0 ≤ p1.toInt) :
    Con l Z (⟨"com/example/burst/burst/RequestTarget", "mayHold", "(I)Z"⟩ : MethodName) prog_35_method_2_code 1 (some .boolean) ({ frames := 0, cells := 0, slots := 0, locals := 0 } : Room) #[(.int p1)] h0 (Q1 Z p1 t cl h0) := by
  refine Con.of pn_1 (fun p e s m below meth c T0 X0 hx hby hml hret hlk hown hnm hZ e0 => ?_)
  replace hown : s.vm.findClass "com/example/burst/burst/RequestTarget" = some m.cls := hown
  have ef : entryFrame m #[(.int p1)] 1 = mkF m 0 #[.val (.int p1)] [] := by first | (simp [entryFrame, mkF, argsToLocals, Value.category]; done) | rfl
  rw [ef]
  refine o_iloadN (pc' := 1) X0 hx (hb hby d1_0) rfl rfl ?_
  refine o_getS (pc' := 4) X0 hx hZ hown (hw _ (List.mem_of_getElem? (i := 5) rfl)) Via.refl e0 SP (hb hby d1_1) rfl ?_
  intro T1 e1 X1
  refine o_len (pc' := 5) (n := (128 : Int32)) X1 hx hZ e1 A (by rw [hs]; decide) (hb hby d1_4) rfl ?_
  refine o_icmp_ge (p1 := 8) (p2 := 20) X1 hx (hb hby d1_5) rfl (by decide) (by decide) (fun hc5 => ?_) (fun hc5 => ?_)
  · refine o_iconst (v := (0 : Int32)) (pc' := 21) X1 hx (hb hby d1_20) (by decide) rfl ?_
    exact o_retZ X1 hx hlk hret (hb hby d1_21) (by decide) ⟨by simp only [fm, if_neg hc5], rfl, e1⟩ (by decide) (by decide)
  · refine o_getS (pc' := 11) X1 hx hZ hown (hw _ (List.mem_of_getElem? (i := 5) rfl)) Via.refl e1 SP (hb hby d1_8) rfl ?_
    intro T8 e8 X8
    refine o_iloadN (pc' := 12) X8 hx (hb hby d1_11) rfl rfl ?_
    have q1 : p1.toInt < 128 := Int32.lt_iff_toInt_lt.mp hc5
    refine o_baloadZ (pc' := 13) X8 hx hZ e8 A (by rw [hs]; simp only [Int32.lt_iff_toInt_lt, Int32.toNatClampNeg, Int32.reduceToInt]; omega) (HT p1 q0 q1) (hb hby d1_12) rfl ?_
    refine o_if_eq (p1 := 16) (p2 := 20) X8 hx (hb hby d1_13) rfl (by decide) (by decide) (fun hc13 => ?_) (fun hc13 => ?_)
    · refine o_iconst (v := (0 : Int32)) (pc' := 21) X8 hx (hb hby d1_20) (by decide) rfl ?_
      exact o_retZ X8 hx hlk hret (hb hby d1_21) (by decide) ⟨by simp only [fm, if_pos hc5, if_pos hc13], rfl, e8⟩ (by decide) (by decide)
    · refine o_iconst (v := (1 : Int32)) (pc' := 17) X8 hx (hb hby d1_16) (by decide) rfl ?_
      refine o_goto (pc' := 21) X8 hx (hb hby d1_17) (by decide) (by decide) ?_
      exact o_retZ X8 hx hlk hret (hb hby d1_21) (by decide) ⟨by simp only [fm, if_pos hc5, if_neg hc13], rfl, e8⟩ (by decide) (by decide)
def tab (z : Int) : Int32 := if z < 33 then 0 else (if z < 34 then 1 else (if z < 36 then 0 else (if z < 60 then 1 else (if z < 61 then 0 else (if z < 62 then 1 else (if z < 63 then 0 else (if z < 92 then 1 else (if z < 93 then 0 else (if z < 94 then 1 else (if z < 95 then 0 else (if z < 96 then 1 else (if z < 97 then 0 else (if z < 123 then 1 else (if z < 126 then 0 else (if z < 127 then 1 else (0))))))))))))))))

theorem own_tab (v : Int32) (h0 : 0 ≤ v.toInt) (h1 : v.toInt < 128) : f2 v = tab v.toInt ∧ fm v = f2 v := by
  have key : ∀ n : Fin 128, f2 (Int32.ofInt (n.val : Int)) = tab (n.val : Int) ∧ fm (Int32.ofInt (n.val : Int)) = f2 (Int32.ofInt (n.val : Int)) := by decide +kernel
  have hk := key ⟨v.toInt.toNat, by omega⟩
  rw [show ((⟨v.toInt.toNat, by omega⟩ : Fin 128).val : Int) = v.toInt from Int.toNat_of_nonneg h0, Int32.ofInt_toInt] at hk
  exact hk
theorem own_mh (v : Int32) (h0 : 0 ≤ v.toInt) : fm v = f2 v := by
  by_cases hb : v.toInt < 128
  · exact (own_tab v h0 hb).2
  · have c1 : ¬ v < (128 : Int32) := fun q => hb (Int32.lt_iff_toInt_lt.mp q)
    have c2 : ¬ v < (33 : Int32) := fun q => by have := Int32.lt_iff_toInt_lt.mp q; simp only [Int32.reduceToInt] at this; omega
    have c3 : (126 : Int32) < v := Int32.lt_iff_toInt_lt.mpr (by simp only [Int32.reduceToInt]; omega)
    simp only [fm, f2, if_neg c1, if_neg c2, if_pos c3]
theorem own_u8 (p1 v : Int32) (h : p1 &&& 255 = v) : 0 ≤ v.toInt := by rw [← h]; exact (c_and p1 255 (by decide)).1
theorem own_u16 (p1 v : Int32) (h : p1 &&& 65535 = v) : 0 ≤ v.toInt := by rw [← h]; exact (c_and p1 65535 (by decide)).1
abbrev Q0 (Z : State) (p1 : Int32) (t : Addr) (cl : Cell) (h0 : Heap) (v : Option Value) (h : Heap) (L : List Loc) : Prop := v = some (.int (1 : Int32)) ∧ Fr h0.size L
set_option maxRecDepth 65536 in
set_option maxHeartbeats 40000000 in
theorem rm0 (l : Launch) (Z : State) (a0 : Array Value) (hw : ∀ d ∈ tables_1, d.before a0 Z = true) (p1 : Int32) (t : Addr) (cl : Cell) (h0 : Heap) (SP : Sta Z h0 "com/example/burst/burst/RequestTarget" "TARGET_BYTES" "[Z" (.ref t)) (A : Arr Z h0 t cl .boolean) (hs : cl.slots.size = 128) (HT : ∀ k : Int32, 0 ≤ k.toInt → k.toInt < 128 → cl.slots[k.toNatClampNeg]? = some (.int (f2 k))) :
    Con l Z x code maxLocals ret room_1 #[(.int p1)] h0 (Q0 Z p1 t cl h0) := by
  refine Con.of pn_0 (fun p e s m below meth c T0 X0 hx hby hml hret hlk hown hnm hZ e0 => ?_)
  replace hown : s.vm.findClass "com/example/burst/burst/RequestTargetMayHoldPinLaw" = some m.cls := hown
  have ef : entryFrame m #[(.int p1)] maxLocals = mkF m 0 #[.val (.int p1), .unset, .unset, .unset, .unset] [] := by first | (simp [entryFrame, mkF, argsToLocals, Value.category, maxLocals]; done) | rfl
  rw [ef]
  refine o_iloadN (pc' := 1) X0 hx (hb hby at_0) rfl rfl ?_
  refine o_sipush (v := (255 : Int32)) (pc' := 4) X0 hx (hb hby at_1) (by decide) rfl ?_
  refine o_iand (pc' := 5) X0 hx (hb hby at_4) rfl ?_
  generalize ha : p1 &&& (255 : Int32) = a
  refine o_istoreN (Ls' := #[.val (.int p1), .val (.int a), .unset, .unset, .unset]) (pc' := 6) X0 hx (hb hby at_5) rfl rfl ?_
  refine o_iloadN (pc' := 7) X0 hx (hb hby at_6) rfl rfl ?_
  refine o_bipush (v := (8 : Int32)) (pc' := 9) X0 hx (hb hby at_7) (by decide) rfl ?_
  refine o_iushr (pc' := 10) X0 hx (hb hby at_9) rfl ?_
  refine o_ldc (pc' := 12) (v := (65535 : Int32)) X0 hx (hb hby at_10) hZ hown (hw _ (List.mem_of_getElem? (i := 0) rfl)) rfl ?_
  refine o_iand (pc' := 13) X0 hx (hb hby at_12) rfl ?_
  generalize ((p1.toUInt32 >>> ((8 : Int32) &&& 31).toUInt32).toInt32) = w
  generalize hbb : w &&& (65535 : Int32) = b
  refine o_istoreN (Ls' := #[.val (.int p1), .val (.int a), .val (.int b), .unset, .unset]) (pc' := 14) X0 hx (hb hby at_13) rfl rfl ?_
  refine o_iloadN (pc' := 15) X0 hx (hb hby at_14) rfl rfl ?_
  refine o_callS (W := 0) (pc' := 18) (rm := ({ frames := 0, cells := 0, slots := 0, locals := 0 } : Room)) (argsL := [(.int a)]) (rest := []) X0 hx hZ hown (hw _ (List.mem_of_getElem? (i := 1) rfl)) (hw _ (List.mem_of_getElem? (i := 2) rfl)) (hw _ (List.mem_of_getElem? (i := 3) rfl)) (hw _ (List.mem_of_getElem? (i := 4) rfl)) (by decide) e0 (rm1 l Z a0 hw a t cl h0 SP A hs HT (own_u8 p1 a ha)) (by rw [hml]; rfl) pd_1 rfl rfl (hb hby at_15) rfl (by decide) rfl (by decide) (by decide) (by decide) ?_
  rintro _ T15 L15 ⟨rfl, rfl, e15⟩ X15
  show Ends p e below s (Q0 Z p1 t cl h0) room_1.cells room_1.slots (T15.setTop (mkF m 18 #[.val (.int p1), .val (.int a), .val (.int b), .unset, .unset] [(.int (fm a))]))
  refine o_iloadN (pc' := 19) X15 hx (hb hby at_18) rfl rfl ?_
  refine o_callS (W := 1) (pc' := 22) (rm := ({ frames := 0, cells := 0, slots := 0, locals := 0 } : Room)) (argsL := [(.int a)]) (rest := [(.int (fm a))]) X15 hx hZ hown (hw _ (List.mem_of_getElem? (i := 7) rfl)) (hw _ (List.mem_of_getElem? (i := 8) rfl)) (hw _ (List.mem_of_getElem? (i := 9) rfl)) (hw _ (List.mem_of_getElem? (i := 10) rfl)) (by decide) e15 (rm2 l Z a0 hw a h0) (by rw [hml]; rfl) pd_2 rfl rfl (hb hby at_19) rfl (by decide) rfl (by decide) (by decide) (by decide) ?_
  rintro _ T19 L19 ⟨rfl, rfl, e19⟩ X19
  show Ends p e below s (Q0 Z p1 t cl h0) room_1.cells room_1.slots (T19.setTop (mkF m 22 #[.val (.int p1), .val (.int a), .val (.int b), .unset, .unset] [(.int (f2 a)), (.int (fm a))]))
  refine o_icmp_ne (p1 := 25) (p2 := 29) X19 hx (hb hby at_22) rfl (by decide) (by decide) (fun hc22 => absurd (own_mh a (own_u8 p1 a ha)) hc22) (fun hc22 => ?_)
  refine o_iconst (v := (1 : Int32)) (pc' := 26) X19 hx (hb hby at_25) (by decide) rfl ?_
  refine o_goto (pc' := 30) X19 hx (hb hby at_26) (by decide) (by decide) ?_
  refine o_istoreN (Ls' := #[.val (.int p1), .val (.int a), .val (.int b), .val (.int (1 : Int32)), .unset]) (pc' := 31) X19 hx (hb hby at_30) rfl rfl ?_
  refine o_iloadN (pc' := 32) X19 hx (hb hby at_31) rfl rfl ?_
  refine o_callS (W := 0) (pc' := 35) (rm := ({ frames := 0, cells := 0, slots := 0, locals := 0 } : Room)) (argsL := [(.int b)]) (rest := []) X19 hx hZ hown (hw _ (List.mem_of_getElem? (i := 1) rfl)) (hw _ (List.mem_of_getElem? (i := 2) rfl)) (hw _ (List.mem_of_getElem? (i := 3) rfl)) (hw _ (List.mem_of_getElem? (i := 4) rfl)) (by decide) e19 (rm1 l Z a0 hw b t cl h0 SP A hs HT (own_u16 w b hbb)) (by rw [hml]; rfl) pd_1 rfl rfl (hb hby at_32) rfl (by decide) rfl (by decide) (by decide) (by decide) ?_
  rintro _ T32 L32 ⟨rfl, rfl, e32⟩ X32
  show Ends p e below s (Q0 Z p1 t cl h0) room_1.cells room_1.slots (T32.setTop (mkF m 35 #[.val (.int p1), .val (.int a), .val (.int b), .val (.int (1 : Int32)), .unset] [(.int (fm b))]))
  refine o_iloadN (pc' := 36) X32 hx (hb hby at_35) rfl rfl ?_
  refine o_callS (W := 1) (pc' := 39) (rm := ({ frames := 0, cells := 0, slots := 0, locals := 0 } : Room)) (argsL := [(.int b)]) (rest := [(.int (fm b))]) X32 hx hZ hown (hw _ (List.mem_of_getElem? (i := 7) rfl)) (hw _ (List.mem_of_getElem? (i := 8) rfl)) (hw _ (List.mem_of_getElem? (i := 9) rfl)) (hw _ (List.mem_of_getElem? (i := 10) rfl)) (by decide) e32 (rm2 l Z a0 hw b h0) (by rw [hml]; rfl) pd_2 rfl rfl (hb hby at_36) rfl (by decide) rfl (by decide) (by decide) (by decide) ?_
  rintro _ T36 L36 ⟨rfl, rfl, e36⟩ X36
  show Ends p e below s (Q0 Z p1 t cl h0) room_1.cells room_1.slots (T36.setTop (mkF m 39 #[.val (.int p1), .val (.int a), .val (.int b), .val (.int (1 : Int32)), .unset] [(.int (f2 b)), (.int (fm b))]))
  refine o_icmp_ne (p1 := 42) (p2 := 46) X36 hx (hb hby at_39) rfl (by decide) (by decide) (fun hc39 => absurd (own_mh b (own_u16 w b hbb)) hc39) (fun hc39 => ?_)
  refine o_iconst (v := (1 : Int32)) (pc' := 43) X36 hx (hb hby at_42) (by decide) rfl ?_
  refine o_goto (pc' := 47) X36 hx (hb hby at_43) (by decide) (by decide) ?_
  refine o_istore (Ls' := #[.val (.int p1), .val (.int a), .val (.int b), .val (.int (1 : Int32)), .val (.int (1 : Int32))]) (pc' := 49) X36 hx (hb hby at_47) rfl rfl ?_
  refine o_iloadN (pc' := 50) X36 hx (hb hby at_49) rfl rfl ?_
  refine o_if_eq (p1 := 53) (p2 := 62) X36 hx (hb hby at_50) rfl (by decide) (by decide) (fun hc50 => absurd hc50 (by decide)) (fun hc50 => ?_)
  refine o_iload (pc' := 55) X36 hx (hb hby at_53) rfl rfl ?_
  refine o_if_eq (p1 := 58) (p2 := 62) X36 hx (hb hby at_55) rfl (by decide) (by decide) (fun hc55 => absurd hc55 (by decide)) (fun hc55 => ?_)
  refine o_iconst (v := (1 : Int32)) (pc' := 59) X36 hx (hb hby at_58) (by decide) rfl ?_
  refine o_goto (pc' := 63) X36 hx (hb hby at_59) (by decide) (by decide) ?_
  exact o_retZ X36 hx hlk hret (hb hby at_63) (by decide) ⟨rfl, Fr.nil _⟩ (by decide) (by decide)

theorem own_len {args : Array Value} {s : State} {t : Term} {a : Addr} {cl : Cell} {n : Int32} (ht : t.eval args s none [] s = some (.ref a)) (ha : s.arrayAt? a = some cl) (h : (Term.length t).eval args s none [] s = some (.int n)) : cl.slots.size = n.toNatClampNeg := by
  by_cases hl : cl.slots.size < 2 ^ 31
  · have q := (len_f ht ha hl).symm.trans h
    have q2 : cl.slots.size.toInt32 = n := by simpa using q
    rw [← q2]; simp only [Int32.toNatClampNeg]; rw [len_toInt hl]; rfl
  · have e1 : (Term.length t).eval args s none [] s = none := by
      simp only [Term.eval, ht, Option.bind_eq_bind, ha, Option.bind_some]
      exact if_neg hl
    rw [e1] at h; cases h
theorem own_all1 {args : Array Value} {s : State} {t : Term} {a : Addr} {cl : Cell} {hi v : Int32} (et : t.eval args s none [] s = some (.ref a)) (et' : ∀ idx, t.eval args s none idx s = some (.ref a)) (ha : s.arrayAt? a = some cl) (hsz : cl.slots.size = 128)
    (h : (Jvm.Cond.all t (.or (.le (.int hi) (.index 0)) (.eq (.elem t (.index 0)) (.int v)))).value args s none s [] = some true) (k : Int32) (h0 : 0 ≤ k.toInt) (h1 : k.toInt < 128) (h2 : k.toInt < hi.toInt) : cl.slots[k.toNatClampNeg]? = some (.int v) := by
  have nk : ¬ k < 0 := fun q => by have := Int32.lt_iff_toInt_lt.mp q; simp only [Int32.reduceToInt] at this; omega
  have q := Cond.all_elim et ha h k.toNatClampNeg (by rw [hsz]; simp only [Int32.toNatClampNeg]; omega)
  rw [Cond.or_of_right (nay (Cond.le_ints (Term.int_eval hi) (idx_at nk)) (by rw [Int32.le_iff_toInt_le]; omega))] at q
  exact (elem_f (et' _) (idx_at nk) ha nk).symm.trans (own_eqI q)
theorem own_all2 {args : Array Value} {s : State} {t : Term} {a : Addr} {cl : Cell} {lo hi v : Int32} (et : t.eval args s none [] s = some (.ref a)) (et' : ∀ idx, t.eval args s none idx s = some (.ref a)) (ha : s.arrayAt? a = some cl) (hsz : cl.slots.size = 128)
    (h : (Jvm.Cond.all t (.or (.lt (.index 0) (.int lo)) (.or (.le (.int hi) (.index 0)) (.eq (.elem t (.index 0)) (.int v))))).value args s none s [] = some true) (k : Int32) (h0 : 0 ≤ k.toInt) (h1 : k.toInt < 128) (h3 : lo.toInt ≤ k.toInt) (h2 : k.toInt < hi.toInt) : cl.slots[k.toNatClampNeg]? = some (.int v) := by
  have nk : ¬ k < 0 := fun q => by have := Int32.lt_iff_toInt_lt.mp q; simp only [Int32.reduceToInt] at this; omega
  have q := Cond.all_elim et ha h k.toNatClampNeg (by rw [hsz]; simp only [Int32.toNatClampNeg]; omega)
  rw [Cond.or_of_right (nay (Cond.lt_ints (idx_at nk) (Term.int_eval lo)) (by rw [Int32.lt_iff_toInt_lt]; omega)), Cond.or_of_right (nay (Cond.le_ints (Term.int_eval hi) (idx_at nk)) (by rw [Int32.le_iff_toInt_le]; omega))] at q
  exact (elem_f (et' _) (idx_at nk) ha nk).symm.trans (own_eqI q)
theorem own_lit {args : Array Value} {s : State} {t : Term} {a : Addr} {cl : Cell} {k v : Int32} (et : t.eval args s none [] s = some (.ref a)) (ha : s.arrayAt? a = some cl) (nk : ¬ k < 0) (h : (Jvm.Cond.eq (.elem t (.int k)) (.int v)).value args s none s [] = some true) : cl.slots[k.toNatClampNeg]? = some (.int v) :=
  (elem_f et (Term.int_eval k) ha nk).symm.trans (own_eqI h)
set_option maxRecDepth 65536 in
set_option maxHeartbeats 40000000 in
theorem comes_1 {Post : Tables → Env → Array Value → State → Outcome → State → Prop} (hpost : ∀ tb e args s v u, (limb_1_1.after args s (.returned v) u = true ∧ limb_1_2.after args s (.returned v) u = true ∧ True) → FrameEnd s (.returned v) u (Jvm.fieldLocs frame_1_writes args s ++ Jvm.arrayLocs frame_1_arrays args s ++ Jvm.staticLocs frame_1_statics s) 0 0 → Post tb e args s (.returned v) u) :
    ArmFor flags0 classFile x code maxLocals ret World_1 tables_1 room_1 Calls_1 rest_1 Pre_1 Post := by
  intro l hfl _ _ p e ha hc hk s m args below hf hA hF happ hP
  obtain ⟨hcalls, hrest, hpre⟩ := hP
  obtain ⟨-, -, -, hnamed, -, -, -, hat⟩ := (Spec.applies_iff hf).mp happ
  obtain ⟨hg, hn⟩ := and_e (Cond.before_iff.mp (show (Jvm.Cond.and given_1 narrow_1).before args s = true from hpre))
  obtain ⟨g0, gr0⟩ := and_e hg
  obtain ⟨w0, rfl⟩ : ∃ w0 : Value, args = #[w0] := by
    have hs : args.size = 1 := by simpa [Cond.value, given_1] using g0
    obtain ⟨L⟩ := args
    match L, hs with
    | [w0], _ => exact ⟨w0, rfl⟩
  have hw := fun d (hd : d ∈ tables_1) => atoms_spec (ws := Jvm.Cond.code x code maxLocals ret :: tables_1) hat d (List.mem_cons_of_mem _ hd)
  have hfit : Fit s := fun {y c} hc i hi => by
    obtain ⟨ha, rfl⟩ := Array.getElem?_eq_some_iff.mp hc
    have q := List.all_eq_true.mp ((Array.all_eq_true_iff_forall_mem.mp hF) _ (Array.getElem_mem ha)) i (List.mem_range.mpr hi)
    simpa [Array.getElem?_eq_getElem hi] using q
  obtain ⟨i0, ei0⟩ := is_v gr0
  obtain rfl : w0 = (.int i0) := Option.some.inj ei0
  obtain ⟨n0, hr_n⟩ := and_e hn
  obtain ⟨n1, hr_n⟩ := and_e hr_n
  obtain ⟨n2, hr_n⟩ := and_e hr_n
  obtain ⟨n3, hr_n⟩ := and_e hr_n
  obtain ⟨n4, hr_n⟩ := and_e hr_n
  obtain ⟨n5, hr_n⟩ := and_e hr_n
  obtain ⟨n6, hr_n⟩ := and_e hr_n
  obtain ⟨n7, hr_n⟩ := and_e hr_n
  obtain ⟨n8, hr_n⟩ := and_e hr_n
  obtain ⟨n9, hr_n⟩ := and_e hr_n
  obtain ⟨n10, hr_n⟩ := and_e hr_n
  obtain ⟨n11, hr_n⟩ := and_e hr_n
  obtain ⟨n12, hr_n⟩ := and_e hr_n
  obtain ⟨n13, hr_n⟩ := and_e hr_n
  obtain ⟨n14, hr_n⟩ := and_e hr_n
  obtain ⟨n15, hr_n⟩ := and_e hr_n
  obtain ⟨n16, hr_n⟩ := and_e hr_n
  obtain ⟨n17, hr_n⟩ := and_e hr_n
  obtain ⟨n18, hr_n⟩ := and_e hr_n
  obtain ⟨n19, hr_n⟩ := and_e hr_n
  obtain ⟨n20, n21⟩ := and_e hr_n
  obtain ⟨t, et⟩ := arr_v n0
  obtain ⟨cl, A⟩ := Arr.start et n0
  have hA := A.fin (Vm.Alike.refl s.vm)
  have hl0 := own_eqI n1
  have hsz : cl.slots.size = 128 := own_len et hA hl0
  have HT : ∀ k : Int32, 0 ≤ k.toInt → k.toInt < 128 → cl.slots[k.toNatClampNeg]? = some (.int (f2 k)) := by
    intro k h0 h1
    rw [(own_tab k h0 h1).1]
    by_cases c33 : k.toInt < 33
    · rw [show tab k.toInt = 0 by simp only [tab, if_pos c33]]
      exact own_all1 et (fun _ => et) hA hsz n2 k h0 h1 c33
    by_cases c34 : k.toInt < 34
    · rw [show tab k.toInt = 1 by simp only [tab, if_neg c33, if_pos c34]]
      obtain rfl : k = (33 : Int32) := own_is (k := 33) (by omega)
      exact own_lit et hA (by decide) n3
    by_cases c36 : k.toInt < 36
    · rw [show tab k.toInt = 0 by simp only [tab, if_neg c33, if_neg c34, if_pos c36]]
      have hh : k.toInt = 34 ∨ k.toInt = 35 := by omega
      rcases hh with hh | hh
      · obtain rfl : k = (34 : Int32) := own_is hh
        exact own_lit et hA (by decide) n4
      · obtain rfl : k = (35 : Int32) := own_is hh
        exact own_lit et hA (by decide) n5
    by_cases c60 : k.toInt < 60
    · rw [show tab k.toInt = 1 by simp only [tab, if_neg c33, if_neg c34, if_neg c36, if_pos c60]]
      exact own_all2 et (fun _ => et) hA hsz n6 k h0 h1 (by simp only [Int32.reduceToInt]; omega) c60
    by_cases c61 : k.toInt < 61
    · rw [show tab k.toInt = 0 by simp only [tab, if_neg c33, if_neg c34, if_neg c36, if_neg c60, if_pos c61]]
      obtain rfl : k = (60 : Int32) := own_is (k := 60) (by omega)
      exact own_lit et hA (by decide) n7
    by_cases c62 : k.toInt < 62
    · rw [show tab k.toInt = 1 by simp only [tab, if_neg c33, if_neg c34, if_neg c36, if_neg c60, if_neg c61, if_pos c62]]
      obtain rfl : k = (61 : Int32) := own_is (k := 61) (by omega)
      exact own_lit et hA (by decide) n8
    by_cases c63 : k.toInt < 63
    · rw [show tab k.toInt = 0 by simp only [tab, if_neg c33, if_neg c34, if_neg c36, if_neg c60, if_neg c61, if_neg c62, if_pos c63]]
      obtain rfl : k = (62 : Int32) := own_is (k := 62) (by omega)
      exact own_lit et hA (by decide) n9
    by_cases c92 : k.toInt < 92
    · rw [show tab k.toInt = 1 by simp only [tab, if_neg c33, if_neg c34, if_neg c36, if_neg c60, if_neg c61, if_neg c62, if_neg c63, if_pos c92]]
      exact own_all2 et (fun _ => et) hA hsz n10 k h0 h1 (by simp only [Int32.reduceToInt]; omega) c92
    by_cases c93 : k.toInt < 93
    · rw [show tab k.toInt = 0 by simp only [tab, if_neg c33, if_neg c34, if_neg c36, if_neg c60, if_neg c61, if_neg c62, if_neg c63, if_neg c92, if_pos c93]]
      obtain rfl : k = (92 : Int32) := own_is (k := 92) (by omega)
      exact own_lit et hA (by decide) n11
    by_cases c94 : k.toInt < 94
    · rw [show tab k.toInt = 1 by simp only [tab, if_neg c33, if_neg c34, if_neg c36, if_neg c60, if_neg c61, if_neg c62, if_neg c63, if_neg c92, if_neg c93, if_pos c94]]
      obtain rfl : k = (93 : Int32) := own_is (k := 93) (by omega)
      exact own_lit et hA (by decide) n12
    by_cases c95 : k.toInt < 95
    · rw [show tab k.toInt = 0 by simp only [tab, if_neg c33, if_neg c34, if_neg c36, if_neg c60, if_neg c61, if_neg c62, if_neg c63, if_neg c92, if_neg c93, if_neg c94, if_pos c95]]
      obtain rfl : k = (94 : Int32) := own_is (k := 94) (by omega)
      exact own_lit et hA (by decide) n13
    by_cases c96 : k.toInt < 96
    · rw [show tab k.toInt = 1 by simp only [tab, if_neg c33, if_neg c34, if_neg c36, if_neg c60, if_neg c61, if_neg c62, if_neg c63, if_neg c92, if_neg c93, if_neg c94, if_neg c95, if_pos c96]]
      obtain rfl : k = (95 : Int32) := own_is (k := 95) (by omega)
      exact own_lit et hA (by decide) n14
    by_cases c97 : k.toInt < 97
    · rw [show tab k.toInt = 0 by simp only [tab, if_neg c33, if_neg c34, if_neg c36, if_neg c60, if_neg c61, if_neg c62, if_neg c63, if_neg c92, if_neg c93, if_neg c94, if_neg c95, if_neg c96, if_pos c97]]
      obtain rfl : k = (96 : Int32) := own_is (k := 96) (by omega)
      exact own_lit et hA (by decide) n15
    by_cases c123 : k.toInt < 123
    · rw [show tab k.toInt = 1 by simp only [tab, if_neg c33, if_neg c34, if_neg c36, if_neg c60, if_neg c61, if_neg c62, if_neg c63, if_neg c92, if_neg c93, if_neg c94, if_neg c95, if_neg c96, if_neg c97, if_pos c123]]
      exact own_all2 et (fun _ => et) hA hsz n16 k h0 h1 (by simp only [Int32.reduceToInt]; omega) c123
    by_cases c126 : k.toInt < 126
    · rw [show tab k.toInt = 0 by simp only [tab, if_neg c33, if_neg c34, if_neg c36, if_neg c60, if_neg c61, if_neg c62, if_neg c63, if_neg c92, if_neg c93, if_neg c94, if_neg c95, if_neg c96, if_neg c97, if_neg c123, if_pos c126]]
      have hh : k.toInt = 123 ∨ k.toInt = 124 ∨ k.toInt = 125 := by omega
      rcases hh with hh | hh | hh
      · obtain rfl : k = (123 : Int32) := own_is hh
        exact own_lit et hA (by decide) n17
      · obtain rfl : k = (124 : Int32) := own_is hh
        exact own_lit et hA (by decide) n18
      · obtain rfl : k = (125 : Int32) := own_is hh
        exact own_lit et hA (by decide) n19
    by_cases c127 : k.toInt < 127
    · rw [show tab k.toInt = 1 by simp only [tab, if_neg c33, if_neg c34, if_neg c36, if_neg c60, if_neg c61, if_neg c62, if_neg c63, if_neg c92, if_neg c93, if_neg c94, if_neg c95, if_neg c96, if_neg c97, if_neg c123, if_neg c126, if_pos c127]]
      obtain rfl : k = (126 : Int32) := own_is (k := 126) (by omega)
      exact own_lit et hA (by decide) n20
    rw [show tab k.toInt = 0 by simp only [tab, if_neg c33, if_neg c34, if_neg c36, if_neg c60, if_neg c61, if_neg c62, if_neg c63, if_neg c92, if_neg c93, if_neg c94, if_neg c95, if_neg c96, if_neg c97, if_neg c123, if_neg c126, if_neg c127]]
    obtain rfl : k = (127 : Int32) := own_is (k := 127) (by omega)
    exact own_lit et hA (by decide) n21
  obtain ⟨n, o, h1, h2, h3, _, L, rfl, ⟨rfl, N⟩, hq⟩ := rm0 l s _ hw i0 t cl s.heap (Sta.start et (Or.inr ⟨(hw _ (List.mem_of_getElem? (i := 3) rfl)), (hw _ (List.mem_of_getElem? (i := 6) rfl))⟩)) A hsz HT tables_1 p e ha hc hk s m _ below hf ((Spec.applies_iff_loose hf).mp happ).1 ⟨rfl, State.Warmed39.refl s, rfl⟩ trivial
  refine ⟨n, _, h1, h2, h3, hpost _ _ _ _ _ _ ⟨Cond.after_iff.mpr rfl, Cond.after_iff.mpr (eq_i res_at (Term.int_eval (1)) rfl), trivial⟩ ⟨hq.1, hq.2.1, (hq.2.2.sift fun y hy => Or.inr (N y hy)).mono (by decide) (by decide)⟩⟩
theorem main_1_1 : Claimed_1_1 := comes_1 fun _ _ _ _ _ _ h hF => ⟨h.1, hF⟩
theorem main_1_2 : Claimed_1_2 := comes_1 fun _ _ _ _ _ _ h hF => ⟨h.2.1, hF⟩
end Jvm.Pilot.@@N@@
namespace Jvm.Pilot.@@N@@
open Jvm Jvm.ClassFile Sem Op Lib Jvm.Free Jvm.Stand Jvm.Pilot.@@N@@.Jvm.D
/-! MADE BY PROGRAM (witnessworld.py) out of the Statement's table words and the real class files: 11 classes; the members and pool entries that the words name. The judged class is class 1, her method 2. -/
namespace start1
open Jvm.ClassFile
def u (s : String) : CpInfo := .utf8 (stringToUtf16 s)
/-- a pool by its gaps: so many unusable entries, then the entry; so many at the end -/
def gap : Nat → List CpInfo → List CpInfo
  | 0, r => r
  | n + 1, r => .unusable :: gap n r
def poolList (es : List (Nat × CpInfo)) (last : Nat) : List CpInfo := es.foldr (fun e r => gap e.1 (e.2 :: r)) (gap last [])
def pool (es : List (Nat × CpInfo)) (last : Nat) : Array CpInfo := ⟨poolList es last⟩
def fileOf (pool : Array CpInfo) (this : Nat) (attrs : Array Attribute := #[]) (ms : Array MethodInfo := #[]) (fl : Nat := 33) (sup : Nat := 0) (ifs : Array Nat := #[]) (fds : Array FieldInfo := #[]) : ClassFile where
  minorVersion := 0
  majorVersion := 65
  constantPool := pool
  accessFlags := fl
  thisClass := this
  superClass := sup
  interfaces := ifs
  fields := fds
  methods := ms
  attributes := attrs
def plain (name : String) (sup : Option ClassId) : Class where
  name := name
  kind := .ordinary
  loader := none
  accessFlags := 33
  super := sup
  interfaces := #[]
  cf := none
  fields := #[]
  methods := #[]
  instanceTypes := #[]
  staticTypes := #[]
  resolved := #[]
  callSites := []
  init := .initialized
  statics := none
  mirror := none

def pool0 : Array CpInfo := pool [(5, u "<init>"), (0, u "()V"), (1, .class_ 10), (1, u "java/lang/Object")] 113

def k0m0 : Method := { name := "<init>", desc := "()V", sig := { parameters := [], returnType := none }, accessFlags := 1, code := none }
/-- java/lang/Object -/
def k0 : Class := { plain "java/lang/Object" none with
  accessFlags := 33
  interfaces := #[]
  cf := some (fileOf pool0 8 #[] #[{ accessFlags := 1, nameIndex := 5, descriptorIndex := 6, attributes := #[] }] 33 0 #[] #[])
  fields := #[]
  methods := #[k0m0]
  instanceTypes := #[]
  staticTypes := #[]
  resolved := Array.replicate 124 none
  statics := none }

def pool1 : Array CpInfo := pool [(2, .class_ 4), (1, u "java/lang/Object"), (0, u "<init>"), (0, u "()V"), (0, .integer 65535), (0, .methodref 9 10), (0, .class_ 11), (0, .nameAndType 12 13), (0, u "com/example/burst/burst/RequestTarget"), (0, u "mayHold"), (0, u "(I)Z"), (0, .methodref 15 16), (0, .class_ 17), (0, .nameAndType 18 13), (0, u "com/example/burst/burst/RequestTargetMayHoldPinLaw"), (0, u "expected"), (3, u "law")] 2

def k1m0 : Method := { name := "<init>", desc := "()V", sig := { parameters := [], returnType := none }, accessFlags := 2, code := none }
def k1c1 : Code := { maxStack := 2, maxLocals := 1, code := method_2_code, exceptionTable := #[], attributes := #[] }
def k1m1 : Method := { name := "expected", desc := "(I)Z", sig := { parameters := [.int], returnType := some .boolean }, accessFlags := 10, code := some k1c1 }
def k1c2 : Code := { maxStack := 2, maxLocals := 5, code := code, exceptionTable := #[], attributes := #[] }
def k1m2 : Method := { name := "law", desc := "(I)Z", sig := { parameters := [.int], returnType := some .boolean }, accessFlags := 9, code := some k1c2 }
/-- com/example/burst/burst/RequestTargetMayHoldPinLaw -/
def k1 : Class := { plain "com/example/burst/burst/RequestTargetMayHoldPinLaw" (some 0) with
  accessFlags := 49
  interfaces := #[]
  cf := some (fileOf pool1 15 #[] #[{ accessFlags := 2, nameIndex := 5, descriptorIndex := 6, attributes := #[] }, { accessFlags := 10, nameIndex := 18, descriptorIndex := 13, attributes := #[] }, { accessFlags := 9, nameIndex := 22, descriptorIndex := 13, attributes := #[] }] 49 2 #[] #[])
  fields := #[]
  methods := #[k1m0, k1m1, k1m2]
  instanceTypes := #[]
  staticTypes := #[]
  resolved := Array.replicate 25 none
  statics := none }

def pool2 : Array CpInfo := pool [(2, .class_ 4), (1, u "java/lang/Object"), (3, .class_ 10), (1, u "com/example/burst/burst/RequestTarget"), (0, u "path"), (0, u "Ljava/lang/String;"), (2, u "query"), (0, .fieldref 8 17), (0, .nameAndType 18 19), (0, u "TARGET_BYTES"), (0, u "[Z"), (18, u "mayHold"), (0, u "(I)Z")] 151

def k2c0 : Code := { maxStack := 2, maxLocals := 1, code := prog_35_method_2_code, exceptionTable := #[], attributes := #[] }
def k2m0 : Method := { name := "mayHold", desc := "(I)Z", sig := { parameters := [.int], returnType := some .boolean }, accessFlags := 8, code := some k2c0 }
/-- com/example/burst/burst/RequestTarget -/
def k2 : Class := { plain "com/example/burst/burst/RequestTarget" (some 0) with
  accessFlags := 48
  interfaces := #[]
  cf := some (fileOf pool2 8 #[] #[{ accessFlags := 8, nameIndex := 38, descriptorIndex := 39, attributes := #[] }] 48 2 #[] #[{ accessFlags := 26, nameIndex := 18, descriptorIndex := 19, attributes := #[] }, { accessFlags := 18, nameIndex := 11, descriptorIndex := 12, attributes := #[] }, { accessFlags := 18, nameIndex := 15, descriptorIndex := 12, attributes := #[] }])
  fields := #[{ name := "TARGET_BYTES", type := (.array .boolean), accessFlags := 26, slot := 0, constantValue := 0 }, { name := "path", type := (.object "java/lang/String"), accessFlags := 18, slot := 0, constantValue := 0 }, { name := "query", type := (.object "java/lang/String"), accessFlags := 18, slot := 1, constantValue := 0 }]
  methods := #[k2m0]
  instanceTypes := #[(.object "java/lang/String"), (.object "java/lang/String")]
  staticTypes := #[(.array .boolean)]
  resolved := Array.replicate 191 none
  statics := some 0 }

def pool3 : Array CpInfo := pool [(1, u "java/lang/Cloneable"), (0, .class_ 1), (0, u "java/lang/Object"), (0, .class_ 3)] 3

/-- java/lang/Cloneable -/
def k3 : Class := { plain "java/lang/Cloneable" (some 0) with
  accessFlags := 1537
  interfaces := #[]
  cf := some (fileOf pool3 2 #[] #[] 1537 4 #[] #[])
  fields := #[]
  methods := #[]
  instanceTypes := #[]
  staticTypes := #[]
  resolved := Array.replicate 8 none
  statics := none }

def pool4 : Array CpInfo := pool [(1, u "java/io/Serializable"), (0, .class_ 1), (0, u "java/lang/Object"), (0, .class_ 3)] 3

/-- java/io/Serializable -/
def k4 : Class := { plain "java/io/Serializable" (some 0) with
  accessFlags := 1537
  interfaces := #[]
  cf := some (fileOf pool4 2 #[] #[] 1537 4 #[] #[])
  fields := #[]
  methods := #[]
  instanceTypes := #[]
  staticTypes := #[]
  resolved := Array.replicate 8 none
  statics := none }

/-- the primitive boolean -/
def k5 : Class := { plain "boolean" none with kind := .primitive 'Z', accessFlags := 0x411 }
/-- [Z -/
def k6 : Class := { plain "[Z" (some 0) with kind := .array 5 .boolean, interfaces := #[3, 4], accessFlags := 1041 }

/-- the primitive byte -/
def k7 : Class := { plain "byte" none with kind := .primitive 'B', accessFlags := 0x411 }
/-- [B -/
def k8 : Class := { plain "[B" (some 0) with kind := .array 7 .byte, interfaces := #[3, 4], accessFlags := 1041 }

/-- the primitive int -/
def k9 : Class := { plain "int" none with kind := .primitive 'I', accessFlags := 0x411 }
/-- [I -/
def k10 : Class := { plain "[I" (some 0) with kind := .array 9 .int, interfaces := #[3, 4], accessFlags := 1041 }

def heap : Heap := #[{ cls := 2, slots := #[.ref 1], vm := .statics 2 },
  { cls := 6, slots := #[.int 0, .int 0, .int 0, .int 0, .int 0, .int 0, .int 0, .int 0, .int 0, .int 0, .int 0, .int 0, .int 0, .int 0, .int 0, .int 0, .int 0, .int 0, .int 0, .int 0, .int 0, .int 0, .int 0, .int 0, .int 0, .int 0, .int 0, .int 0, .int 0, .int 0, .int 0, .int 0, .int 0, .int 1, .int 0, .int 0, .int 1, .int 1, .int 1, .int 1, .int 1, .int 1, .int 1, .int 1, .int 1, .int 1, .int 1, .int 1, .int 1, .int 1, .int 1, .int 1, .int 1, .int 1, .int 1, .int 1, .int 1, .int 1, .int 1, .int 1, .int 0, .int 1, .int 0, .int 1, .int 1, .int 1, .int 1, .int 1, .int 1, .int 1, .int 1, .int 1, .int 1, .int 1, .int 1, .int 1, .int 1, .int 1, .int 1, .int 1, .int 1, .int 1, .int 1, .int 1, .int 1, .int 1, .int 1, .int 1, .int 1, .int 1, .int 1, .int 1, .int 0, .int 1, .int 0, .int 1, .int 0, .int 1, .int 1, .int 1, .int 1, .int 1, .int 1, .int 1, .int 1, .int 1, .int 1, .int 1, .int 1, .int 1, .int 1, .int 1, .int 1, .int 1, .int 1, .int 1, .int 1, .int 1, .int 1, .int 1, .int 1, .int 1, .int 1, .int 0, .int 0, .int 0, .int 1, .int 0], vm := .none }]
def classes : Array Class := #[k0, k1, k2, k3, k4, k5, k6, k7, k8, k9, k10]
def interned : List (Array UInt16 × Addr) := []
def slotsUsed : Nat := 129
def theMethod : MethodId := ⟨1, 2⟩
def args0 : Array Value := #[.int 5]
def aboutOver (below : List Frame) : State where
  vm := { classes := classes, interned := interned.toArray }
  heap := heap
  slotsUsed := slotsUsed
  threads := #[{ frames := .invoking theMethod args0 :: below }]
def below0 : List Frame := [.native { method := ⟨0, 0⟩, args := #[] }]
def about1 : State := aboutOver below0
def p0 : Program := .bare "" "" ""
def e0 : Env := launch0.env 0 0 0
theorem w_frames : about1.frames = Frame.invoking theMethod args0 :: below0 := rfl
set_option maxRecDepth 65536 in
theorem w_args : argsFit about1.vm theMethod args0 = true := by decide +kernel
set_option maxRecDepth 65536 in
theorem w_heap : heapFits about1 = true := by decide +kernel
set_option maxRecDepth 65536 in
theorem w_runnable : about1.curStatus? = some .runnable := by decide +kernel
set_option maxRecDepth 65536 in
theorem w_alone : about1.alone = true := by decide +kernel
set_option maxRecDepth 65536 in
theorem w_named : about1.methodNamed? x = some theMethod := by decide +kernel
set_option maxRecDepth 65536 in
theorem w_hears : about1.hears theMethod below0 = true := by decide +kernel
set_option maxRecDepth 65536 in
theorem w_ripe : about1.ripe theMethod args0 below0 = true := by decide +kernel
theorem w_running : about1.status = .running := rfl
set_option maxRecDepth 65536 in
theorem w_room : about1.hasRoom e0.platform room_1 = true :=
  launch0.hasRoom_least _ room_1 (by decide +kernel) (by decide +kernel) (by decide +kernel) (by decide +kernel) (by decide +kernel) (by decide +kernel)
theorem allAtoms_all (ts : List Jvm.Cond) (a : Array Jvm.Value) (st : Jvm.State) : (allAtoms ts).before a st = ts.all (fun c => c.before a st) := by
  induction ts with
  | nil => rfl
  | cons c t ih =>
    show (Jvm.Cond.and c (allAtoms t)).before a st = _
    rw [Jvm.Cond.before_and, ih, List.all_cons]
def words1 : List Jvm.Cond := Jvm.Cond.code x code maxLocals ret :: tables_1
/-- a 'code' word, met by the world's own term for the bytes: nothing is compared byte by byte -/
theorem code_word {y : MethodName} {bytes : ByteArray} {mx : Nat} {rt : Option FieldType} {a : Array Value} {s : State} {m : MethodId} {meth : Method} {c : Code} (h1 : s.methodNamed? y = some m) (h2 : s.vm.method? m = some meth) (h3 : meth.code = some c) (h4 : c.code = bytes)
    (h5 : (c.maxLocals == mx && c.exceptionTable.isEmpty && decide (c.maxStack ≤ mostOperands) && decide (meth.sig.returnType = rt) && !meth.locks && decide (parseMethodDescriptor y.desc = some meth.sig)) = true) : (Jvm.Cond.code y bytes mx rt).before a s = true := by
  simp only [Bool.and_eq_true, beq_iff_eq, Bool.not_eq_true', decide_eq_true_eq] at h5
  obtain ⟨⟨⟨⟨⟨g1, g2⟩, g3⟩, g4⟩, g5⟩, g6⟩ := h5
  simp [Cond.before, Cond.holds, Cond.value, h1, h2, h3, h4, g1, g2, g3, g4, g5, g6]
def isCode : Jvm.Cond → Bool
  | .code _ _ _ _ => true
  | _ => false
theorem all_split {L : List Jvm.Cond} {P : Jvm.Cond → Bool} (h1 : L.all (fun c => isCode c || P c) = true) (h2 : ∀ c ∈ L.filter isCode, P c = true) : L.all P = true := by
  refine List.all_eq_true.mpr fun c hc => ?_
  have h := List.all_eq_true.mp h1 c hc
  rcases Bool.eq_false_or_eq_true (isCode c) with hi | hi
  · exact h2 c (List.mem_filter.mpr ⟨hc, hi⟩)
  · simpa [hi] using h
set_option maxRecDepth 65536 in
theorem w_c0 : (Jvm.Cond.code x code maxLocals ret).before args0 about1 = true := code_word (m := ⟨1, 2⟩) (meth := k1m2) (c := k1c2) (by decide +kernel) rfl rfl rfl (by decide +kernel)
set_option maxRecDepth 65536 in
theorem w_c1 : (Jvm.Cond.code ({ cls := "com/example/burst/burst/RequestTarget", name := "mayHold", desc := "(I)Z" } : Jvm.MethodName) prog_35_method_2_code (1 : Nat) (Option.some Jvm.ClassFile.FieldType.boolean)).before args0 about1 = true := code_word (m := ⟨2, 0⟩) (meth := k2m0) (c := k2c0) (by decide +kernel) rfl rfl rfl (by decide +kernel)
set_option maxRecDepth 65536 in
theorem w_c2 : (Jvm.Cond.code ({ cls := "com/example/burst/burst/RequestTargetMayHoldPinLaw", name := "expected", desc := "(I)Z" } : Jvm.MethodName) method_2_code (1 : Nat) (Option.some Jvm.ClassFile.FieldType.boolean)).before args0 about1 = true := code_word (m := ⟨1, 1⟩) (meth := k1m1) (c := k1c1) (by decide +kernel) rfl rfl rfl (by decide +kernel)
def codes1 : List Jvm.Cond := [Jvm.Cond.code x code maxLocals ret, Jvm.Cond.code ({ cls := "com/example/burst/burst/RequestTarget", name := "mayHold", desc := "(I)Z" } : Jvm.MethodName) prog_35_method_2_code (1 : Nat) (Option.some Jvm.ClassFile.FieldType.boolean), Jvm.Cond.code ({ cls := "com/example/burst/burst/RequestTargetMayHoldPinLaw", name := "expected", desc := "(I)Z" } : Jvm.MethodName) method_2_code (1 : Nat) (Option.some Jvm.ClassFile.FieldType.boolean)]
set_option maxRecDepth 65536 in
theorem codes_eq : words1.filter isCode = codes1 := rfl
theorem w_codes : ∀ c ∈ words1.filter isCode, c.before args0 about1 = true := by
  rw [codes_eq]
  intro c hc
  simp only [codes1, List.mem_cons, List.not_mem_nil, or_false] at hc
  rcases hc with rfl | rfl | rfl
  · exact w_c0
  · exact w_c1
  · exact w_c2
set_option maxRecDepth 65536 in
theorem w_t1 : words1.all (fun c => isCode c || c.before args0 about1) = true := by decide +kernel
theorem w_tables : (allAtoms (Jvm.Cond.code x code maxLocals ret :: tables_1)).before args0 about1 = true := by
  rw [allAtoms_all]
  show words1.all (fun c => c.before args0 about1) = true
  refine all_split ?_ w_codes
  rw [w_t1]
set_option maxRecDepth 65536 in
theorem w_case : (Jvm.Cond.and given_1 narrow_1).before args0 about1 = true := by decide +kernel
theorem w_applies : (headSpec (Jvm.Cond.code x code maxLocals ret :: tables_1) room_1).applies x e0.platform about1 = true :=
  (Spec.applies_iff w_frames).mpr ⟨w_running, w_runnable, w_alone, w_named, w_hears, w_ripe, w_room, w_tables⟩
theorem atStart : AtStart classFile x code maxLocals ret World_1 tables_1 room_1 Calls_1 rest_1 Pre_1 launch0 p0 e0 about1 theMethod args0 below0 :=
  ⟨lists_1, trivial, launch0.admits_env _ _ _, launch0.least_env, fairChoices_fair.cas, fairChoices_fair.clock, w_frames, w_args, w_heap, w_applies, trivial, trivial, w_case⟩
end start1
theorem witness_1 : WitnessClaimed_1 := ⟨start1.p0, start1.e0, start1.about1, start1.theMethod, start1.args0, start1.below0, start1.atStart⟩
end Jvm.Pilot.@@N@@
