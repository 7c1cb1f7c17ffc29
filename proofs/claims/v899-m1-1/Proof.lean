import JvmDerived
import JvmDerived.Pilot.@@N@@Statement
import JvmDerived.Pilot.@@N@@Code
set_option linter.unusedVariables false
set_option linter.unusedSimpArgs false

namespace Jvm.Pilot.@@N@@
open Jvm Jvm.ClassFile Sem Op Lib Jvm.Free Jvm.Stand Jvm.LawKit Jvm.RoadKit Bundle Jvm.Pilot.@@N@@.Jvm.D
/-- from the state S the invocation runs to its end and Q holds there -/
def Ends (p : Program) (e : Env) (below : List Frame) (s : State) (Q : Option Value → Heap → List Loc → Prop) (K N : Nat) (S : State) : Prop :=
  ∃ s₂ o, Steps p.tables e below S s₂ ∧ s₂.status = .running ∧ Ended s₂ below o ∧ ∃ v L, o = .returned v ∧ Q v s₂.heap L ∧ FrameEnd s o s₂ L K N
/-- a method's contract at given arguments and heap -/
def Con (l : Launch) (Z : State) (y : MethodName) (bytes : ByteArray) (maxL : Nat) (rt : Option FieldType) (rm : Room) (as' : Array Value) (h0 : Heap) (Q : Option Value → Heap → List Loc → Prop) : Prop :=
  ∀ ws, MetFree l y (head1 (Jvm.Cond.code y bytes maxL rt :: ws) rm) (fun a U => a = as' ∧ Z.Warmed39 U.vm ∧ U.heap = h0) (fun _ _ _ _ _ => True) (fun _ U o U' => ∃ v L, o = .returned v ∧ Q v U'.heap L ∧ FrameEnd U o U' L rm.cells rm.slots)
section Own
variable {p : Program} {l : Launch} {e : Env} {R : Room} {s : State} {m : MethodId} {args : Array Value} {below : List Frame} {meth : Method} {c : Code} {T : State} {locs : List Loc} {cells slots : Nat} {Q : Option Value → Heap → List Loc → Prop} {K N : Nat} {pc pc' : Nat} {Ls Ls' : Array Slot} {st : List Value} {Z : State} {a0 : Array Value} {h : Heap}
theorem Ends.go {S S' : State} (g : ∀ t, Steps p.tables e below S' t → Steps p.tables e below S t) (E : Ends p e below s Q K N S') : Ends p e below s Q K N S := by
  obtain ⟨s2, o, h1, r⟩ := E; exact ⟨s2, o, g _ h1, r⟩
theorem Con.ofP {y : MethodName} {bytes : ByteArray} {maxL : Nat} {rt : Option FieldType} {rm : Room} {as' : Array Value} {h0 : Heap} (hn : plainFor y = true)
    (body : ∀ (p : Program) (e : Env) (s : State) (m : MethodId) (below : List Frame) (meth : Method) (c : Code) (T : State), Stand p l e rm s m as' below meth c T [] 0 0 → p.tables.exec = Jvm.exec → c.code = bytes → c.maxLocals = maxL → meth.sig.returnType = rt → meth.locks = false → s.vm.findClass y.cls = some m.cls → meth.name = y.name → Z.Warmed39 s.vm → T.heap = h0 →
      Ends p e below s Q rm.cells rm.slots (T.setTop (entryFrame m as' maxL))) : Con l Z y bytes maxL rt rm as' h0 Q := by
  intro ws
  refine MetFree.of_bodySF hn hisR ?_
  intro p e s m args below meth c s₁ Bd hml0 hP hK
  obtain ⟨ha, hZ, hh⟩ := hP
  subst ha
  have X0 : Stand p l e rm s m _ below meth c s₁ [] 0 0 := Stand.of_body Bd
  have e0 : s₁.heap = h0 := by rw [← hh, Bd.state]; rfl
  exact body p e s m below meth c s₁ X0 Bd.exec Bd.bytes hml0 Bd.returns (BodyLoose.notSynchronized Bd) (findClass_of_methodNamed Bd.named) (name_of_methodNamed Bd.named Bd.method).1 hZ e0
theorem Con.of {y : MethodName} {bytes : ByteArray} {maxL : Nat} {rt : Option FieldType} {rm : Room} {as' : Array Value} {h0 : Heap} (hn : plainName y.cls = true)
    (body : ∀ (p : Program) (e : Env) (s : State) (m : MethodId) (below : List Frame) (meth : Method) (c : Code) (T : State), Stand p l e rm s m as' below meth c T [] 0 0 → p.tables.exec = Jvm.exec → c.code = bytes → c.maxLocals = maxL → meth.sig.returnType = rt → meth.locks = false → s.vm.findClass y.cls = some m.cls → meth.name = y.name → Z.Warmed39 s.vm → T.heap = h0 →
      Ends p e below s Q rm.cells rm.slots (T.setTop (entryFrame m as' maxL))) : Con l Z y bytes maxL rt rm as' h0 Q := Con.ofP (plainFor_of_name hn) body
theorem o_iloadN (X : Stand p l e R s m args below meth c T locs cells slots) (hx : p.tables.exec = Jvm.exec) {k : Fin 4} {v : Int32} (hd : decode c.code pc = .ok (.iload_n k, 1)) (hl : Ls[k.val]? = some (.val (.int v))) (hp : pc + 1 = pc') (E : Ends p e below s Q K N (T.setTop (mkF m pc' Ls (.int v :: st)))) : Ends p e below s Q K N (T.setTop (mkF m pc Ls st)) := by
  subst hp; exact Ends.go (fun t q => XS.iloadN X.here hx rfl hd hl q) E
theorem o_istoreN (X : Stand p l e R s m args below meth c T locs cells slots) (hx : p.tables.exec = Jvm.exec) {k : Fin 4} {v : Int32} (hd : decode c.code pc = .ok (.istore_n k, 1)) (hl : storeLocals Ls k.val (.int v) = some Ls') (hp : pc + 1 = pc') (E : Ends p e below s Q K N (T.setTop (mkF m pc' Ls' st))) : Ends p e below s Q K N (T.setTop (mkF m pc Ls (.int v :: st))) := by
  subst hp; exact Ends.go (fun t q => XS.istoreN X.here hx rfl hd rfl hl q) E
theorem o_iconst (X : Stand p l e R s m args below meth c T locs cells slots) (hx : p.tables.exec = Jvm.exec) {i : Int} {v : Int32} (hd : decode c.code pc = .ok (.iconst i, 1)) (hv : Int32.ofInt i = v) (hp : pc + 1 = pc') (E : Ends p e below s Q K N (T.setTop (mkF m pc' Ls (.int v :: st)))) : Ends p e below s Q K N (T.setTop (mkF m pc Ls st)) := by
  subst hp; exact Ends.go (fun t q => XS.iconst X.here hx rfl hd  (by rw [hv]; exact q)) E
theorem o_bipush (X : Stand p l e R s m args below meth c T locs cells slots) (hx : p.tables.exec = Jvm.exec) {i : Int} {v : Int32} (hd : decode c.code pc = .ok (.bipush i, 2)) (hv : (Int8.ofInt i).toInt32 = v) (hp : pc + 2 = pc') (E : Ends p e below s Q K N (T.setTop (mkF m pc' Ls (.int v :: st)))) : Ends p e below s Q K N (T.setTop (mkF m pc Ls st)) := by
  subst hp; exact Ends.go (fun t q => XS.bipush X.here hx rfl hd  (by rw [hv]; exact q)) E
theorem o_sipush (X : Stand p l e R s m args below meth c T locs cells slots) (hx : p.tables.exec = Jvm.exec) {i : Int} {v : Int32} (hd : decode c.code pc = .ok (.sipush i, 3)) (hv : (Int16.ofInt i).toInt32 = v) (hp : pc + 3 = pc') (E : Ends p e below s Q K N (T.setTop (mkF m pc' Ls (.int v :: st)))) : Ends p e below s Q K N (T.setTop (mkF m pc Ls st)) := by
  subst hp; exact Ends.go (fun t q => XS.sipush X.here hx rfl hd  (by rw [hv]; exact q)) E
theorem o_lconst (X : Stand p l e R s m args below meth c T locs cells slots) (hx : p.tables.exec = Jvm.exec) {k : Fin 2} {v : Int64} (hd : decode c.code pc = .ok (.lconst k, 1)) (hv : Int64.ofNat k = v) (hp : pc + 1 = pc') (E : Ends p e below s Q K N (T.setTop (mkF m pc' Ls (.long v :: st)))) : Ends p e below s Q K N (T.setTop (mkF m pc Ls st)) := by
  subst hp; exact Ends.go (fun t q => XS.lconst X.here hx rfl hd  (by rw [hv]; exact q)) E
theorem o_isub (X : Stand p l e R s m args below meth c T locs cells slots) (hx : p.tables.exec = Jvm.exec) {x y : Int32} (hd : decode c.code pc = .ok (.isub, 1))  (hp : pc + 1 = pc') (E : Ends p e below s Q K N (T.setTop (mkF m pc' Ls (.int (x - y) :: st)))) : Ends p e below s Q K N (T.setTop (mkF m pc Ls (.int y :: .int x :: st))) := by
  subst hp; exact Ends.go (fun t q => XS.isub X.here hx rfl hd rfl q) E
theorem o_land (X : Stand p l e R s m args below meth c T locs cells slots) (hx : p.tables.exec = Jvm.exec) {x y : Int64} (hd : decode c.code pc = .ok (.land, 1))  (hp : pc + 1 = pc') (E : Ends p e below s Q K N (T.setTop (mkF m pc' Ls (.long (x &&& y) :: st)))) : Ends p e below s Q K N (T.setTop (mkF m pc Ls (.long y :: .long x :: st))) := by
  subst hp; exact Ends.go (fun t q => XS.land X.here hx rfl hd rfl q) E
theorem o_lushr (X : Stand p l e R s m args below meth c T locs cells slots) (hx : p.tables.exec = Jvm.exec) {x : Int64} {y : Int32} (hd : decode c.code pc = .ok (.lushr, 1))  (hp : pc + 1 = pc') (E : Ends p e below s Q K N (T.setTop (mkF m pc' Ls (.long ((x.toUInt64 >>> (y &&& 0x3f).toInt64.toUInt64).toInt64) :: st)))) : Ends p e below s Q K N (T.setTop (mkF m pc Ls (.int y :: .long x :: st))) := by
  subst hp; exact Ends.go (fun t q => XS.lushr X.here hx rfl hd rfl q) E
theorem o_i2c (X : Stand p l e R s m args below meth c T locs cells slots) (hx : p.tables.exec = Jvm.exec) {v : Int32} (hd : decode c.code pc = .ok (.i2c, 1))  (hp : pc + 1 = pc') (E : Ends p e below s Q K N (T.setTop (mkF m pc' Ls (.int (v.toUInt32.toUInt16.toUInt32.toInt32) :: st)))) : Ends p e below s Q K N (T.setTop (mkF m pc Ls (.int v :: st))) := by
  subst hp; exact Ends.go (fun t q => XS.i2c X.here hx rfl hd rfl q) E
theorem o_ldc2 (X : Stand p l e R s m args below meth c T locs cells slots) (hx : p.tables.exec = Jvm.exec) {own : String} {index : Nat} {v : Int64} (hd : decode c.code pc = .ok (.ldc2_w index, 3)) (hZ : Z.Warmed39 s.vm) (hown : s.vm.findClass own = some m.cls) (w : (Jvm.Cond.constantLong own index v).before a0 Z = true) (hp : pc + 3 = pc') (E : Ends p e below s Q K N (T.setTop (mkF m pc' Ls (.long v :: st)))) : Ends p e below s Q K N (T.setTop (mkF m pc Ls st)) := by
  subst hp; exact Ends.go (fun t q => X.ldc2Long hx hown (mvT hZ w) (g := mkF m pc Ls st) rfl hd t q) E
theorem o_goto (X : Stand p l e R s m args below meth c T locs cells slots) (hx : p.tables.exec = Jvm.exec) {o : Int} (hd : decode c.code pc = .ok (.goto o, 3)) (ho : 0 ≤ (pc : Int) + o) (hp : ((pc : Int) + o).toNat = pc') (E : Ends p e below s Q K N (T.setTop (mkF m pc' Ls st))) : Ends p e below s Q K N (T.setTop (mkF m pc Ls st)) :=
  Ends.go (fun t q => XS.goto X.here hx rfl (pc0 := pc) rfl hd ho hp q) E
theorem o_icmp_eq (X : Stand p l e R s m args below meth c T locs cells slots) (hx : p.tables.exec = Jvm.exec) {x y : Int32} {o : Int} {p1 p2 : Nat} (hd : decode c.code pc = .ok (.if_icmp .eq o, 3)) (hp : pc + 3 = p1) (ho : 0 ≤ (pc : Int) + o) (hp2 : ((pc : Int) + o).toNat = p2) (E1 : x = y → Ends p e below s Q K N (T.setTop (mkF m p2 Ls st))) (E2 : ¬ x = y → Ends p e below s Q K N (T.setTop (mkF m p1 Ls st))) : Ends p e below s Q K N (T.setTop (mkF m pc Ls (.int y :: .int x :: st))) := by
  subst hp
  by_cases hc : x = y
  · exact Ends.go (fun t q => XS.icmpYes X.here hx rfl (pc0 := pc) rfl hd rfl ((teq hc).1) ho hp2 q) (E1 hc)
  · exact Ends.go (fun t q => XS.icmpNo X.here hx rfl hd rfl ((feq hc).1) q) (E2 hc)
theorem o_icmp_ne (X : Stand p l e R s m args below meth c T locs cells slots) (hx : p.tables.exec = Jvm.exec) {x y : Int32} {o : Int} {p1 p2 : Nat} (hd : decode c.code pc = .ok (.if_icmp .ne o, 3)) (hp : pc + 3 = p1) (ho : 0 ≤ (pc : Int) + o) (hp2 : ((pc : Int) + o).toNat = p2) (E1 : ¬ x = y → Ends p e below s Q K N (T.setTop (mkF m p2 Ls st))) (E2 : x = y → Ends p e below s Q K N (T.setTop (mkF m p1 Ls st))) : Ends p e below s Q K N (T.setTop (mkF m pc Ls (.int y :: .int x :: st))) := by
  subst hp
  by_cases hc : x = y
  · exact Ends.go (fun t q => XS.icmpNo X.here hx rfl hd rfl ((teq hc).2) q) (E2 hc)
  · exact Ends.go (fun t q => XS.icmpYes X.here hx rfl (pc0 := pc) rfl hd rfl ((feq hc).2) ho hp2 q) (E1 hc)
theorem o_icmp_lt (X : Stand p l e R s m args below meth c T locs cells slots) (hx : p.tables.exec = Jvm.exec) {x y : Int32} {o : Int} {p1 p2 : Nat} (hd : decode c.code pc = .ok (.if_icmp .lt o, 3)) (hp : pc + 3 = p1) (ho : 0 ≤ (pc : Int) + o) (hp2 : ((pc : Int) + o).toNat = p2) (E1 : x < y → Ends p e below s Q K N (T.setTop (mkF m p2 Ls st))) (E2 : ¬ x < y → Ends p e below s Q K N (T.setTop (mkF m p1 Ls st))) : Ends p e below s Q K N (T.setTop (mkF m pc Ls (.int y :: .int x :: st))) := by
  subst hp
  by_cases hc : x < y
  · exact Ends.go (fun t q => XS.icmpYes X.here hx rfl (pc0 := pc) rfl hd rfl ((tlt hc).1) ho hp2 q) (E1 hc)
  · exact Ends.go (fun t q => XS.icmpNo X.here hx rfl hd rfl ((flt hc).1) q) (E2 hc)
theorem o_icmp_ge (X : Stand p l e R s m args below meth c T locs cells slots) (hx : p.tables.exec = Jvm.exec) {x y : Int32} {o : Int} {p1 p2 : Nat} (hd : decode c.code pc = .ok (.if_icmp .ge o, 3)) (hp : pc + 3 = p1) (ho : 0 ≤ (pc : Int) + o) (hp2 : ((pc : Int) + o).toNat = p2) (E1 : ¬ x < y → Ends p e below s Q K N (T.setTop (mkF m p2 Ls st))) (E2 : x < y → Ends p e below s Q K N (T.setTop (mkF m p1 Ls st))) : Ends p e below s Q K N (T.setTop (mkF m pc Ls (.int y :: .int x :: st))) := by
  subst hp
  by_cases hc : x < y
  · exact Ends.go (fun t q => XS.icmpNo X.here hx rfl hd rfl ((tlt hc).2.1) q) (E2 hc)
  · exact Ends.go (fun t q => XS.icmpYes X.here hx rfl (pc0 := pc) rfl hd rfl ((flt hc).2.1) ho hp2 q) (E1 hc)
theorem o_icmp_le (X : Stand p l e R s m args below meth c T locs cells slots) (hx : p.tables.exec = Jvm.exec) {x y : Int32} {o : Int} {p1 p2 : Nat} (hd : decode c.code pc = .ok (.if_icmp .le o, 3)) (hp : pc + 3 = p1) (ho : 0 ≤ (pc : Int) + o) (hp2 : ((pc : Int) + o).toNat = p2) (E1 : ¬ y < x → Ends p e below s Q K N (T.setTop (mkF m p2 Ls st))) (E2 : y < x → Ends p e below s Q K N (T.setTop (mkF m p1 Ls st))) : Ends p e below s Q K N (T.setTop (mkF m pc Ls (.int y :: .int x :: st))) := by
  subst hp
  by_cases hc : y < x
  · exact Ends.go (fun t q => XS.icmpNo X.here hx rfl hd rfl ((tlt hc).2.2.2) q) (E2 hc)
  · exact Ends.go (fun t q => XS.icmpYes X.here hx rfl (pc0 := pc) rfl hd rfl ((flt hc).2.2.2) ho hp2 q) (E1 hc)
theorem o_if_eq (X : Stand p l e R s m args below meth c T locs cells slots) (hx : p.tables.exec = Jvm.exec) {x : Int32} {o : Int} {p1 p2 : Nat} (hd : decode c.code pc = .ok (.ifCond .eq o, 3)) (hp : pc + 3 = p1) (ho : 0 ≤ (pc : Int) + o) (hp2 : ((pc : Int) + o).toNat = p2) (E1 : x = 0 → Ends p e below s Q K N (T.setTop (mkF m p2 Ls st))) (E2 : ¬ x = 0 → Ends p e below s Q K N (T.setTop (mkF m p1 Ls st))) : Ends p e below s Q K N (T.setTop (mkF m pc Ls (.int x :: st))) := by
  subst hp
  by_cases hc : x = 0
  · exact Ends.go (fun t q => XS.ifYes X.here hx rfl (pc0 := pc) rfl hd rfl ((if0 _ _).trans ((teq hc).1)) ho hp2 q) (E1 hc)
  · exact Ends.go (fun t q => XS.ifNo X.here hx rfl hd rfl ((if0 _ _).trans ((feq hc).1)) q) (E2 hc)
theorem o_lcmp_eq (X : Stand p l e R s m args below meth c T locs cells slots) (hx : p.tables.exec = Jvm.exec) {x y : Int64} {o : Int} {p1 p2 : Nat} (hd : decode c.code pc = .ok (.lcmp, 1)) (hd2 : decode c.code (pc + 1) = .ok (.ifCond .eq o, 3)) (hp : pc + 1 + 3 = p1) (ho : 0 ≤ ((pc + 1 : Nat) : Int) + o) (hp2 : (((pc + 1 : Nat) : Int) + o).toNat = p2) (E1 : x = y → Ends p e below s Q K N (T.setTop (mkF m p2 Ls st))) (E2 : ¬ x = y → Ends p e below s Q K N (T.setTop (mkF m p1 Ls st))) : Ends p e below s Q K N (T.setTop (mkF m pc Ls (.long y :: .long x :: st))) := by
  refine Ends.go (fun t q => XS.lcmp X.here hx rfl hd rfl q) ?_
  show Ends p e below s Q K N (T.setTop (mkF m (pc + 1) Ls (.int (lcmpW x y) :: st)))
  exact o_if_eq X hx hd2 hp ho hp2 (fun q => E1 ((lw_eq x y).mp q)) (fun q => E2 (fun r => q ((lw_eq x y).mpr r)))
theorem o_ret (X : Stand p l e R s m args below meth c T locs cells slots) (hx : p.tables.exec = Jvm.exec) {w : Value} {t : FieldType} {i : Instr} (hlk : meth.locks = false) (hret : meth.sig.returnType = some t) (hd : decode c.code pc = .ok (i, 1)) (hn : narrow t w = w)
    (hi : (i = .ireturn ∧ (t = .int ∨ t = .boolean ∨ t = .byte ∨ t = .char ∨ t = .short) ∧ ∃ z, w = .int z) ∨ (i = .lreturn ∧ t = .long ∧ ∃ z, w = .long z) ∨ (i = .dreturn ∧ t = .double ∧ ∃ z, w = .double z) ∨ (i = .freturn ∧ t = .float ∧ ∃ z, w = .float z) ∨ (i = .areturn ∧ t.isReference = true ∧ w.isRef = true))
    (hq : Q (some w) T.heap locs) (hk : cells ≤ K) (hs : slots ≤ N) : Ends p e below s Q K N (T.setTop (mkF m pc Ls (w :: st))) := by
  obtain ⟨fs, hr, hrun, hended, hW, hsame⟩ := X.leave (v := some w) (fun h => by rw [hret] at h; cases h) hlk
  exact ⟨_, _, retOut X hx hret hn hi hd hr, hrun, hended, _, _, rfl, hq, ⟨_, rfl⟩, hW, hsame.mono hk hs⟩
theorem o_retZ (X : Stand p l e R s m args below meth c T locs cells slots) (hx : p.tables.exec = Jvm.exec) {z : Int32} (hlk : meth.locks = false) (hret : meth.sig.returnType = some .boolean) (hd : decode c.code pc = .ok (.ireturn, 1)) (hz : z &&& 1 = z) (hq : Q (some (.int z)) T.heap locs) (hk : cells ≤ K) (hs : slots ≤ N) : Ends p e below s Q K N (T.setTop (mkF m pc Ls (.int z :: st))) :=
  o_ret X hx hlk hret hd (by show Value.int (z &&& 1) = _; rw [hz]) (Or.inl ⟨rfl, Or.inr (Or.inl rfl), _, rfl⟩) hq hk hs
theorem o_callS (X : Stand p l e R s m args below meth c T locs cells slots) (hx : p.tables.exec = Jvm.exec) (hZ : Z.Warmed39 s.vm) {own : String} {index : Nat} {y : MethodName} {bytes : ByteArray} {maxL : Nat} {rt : Option FieldType} {rm : Room} {argsL rest : List Value} {Q' : Option Value → Heap → List Loc → Prop} {ps : List FieldType} {pr : Option FieldType} (hown : s.vm.findClass own = some m.cls) (w1 : (Jvm.Cond.methodLink own index y).before a0 Z = true) (w2 : (Jvm.Cond.static y).before a0 Z = true) (w3 : (Jvm.Cond.initialized y.cls).before a0 Z = true) (w4 : (Jvm.Cond.code y bytes maxL rt).before a0 Z = true)
    (hy : y.cls ≠ "java/lang/invoke/MethodHandle" ∧ y.cls ≠ "java/lang/invoke/VarHandle") (eT : T.heap = h) (hM : Con l Z y bytes maxL rt rm argsL.toArray h Q') (hsz : Ls.size = c.maxLocals) (hpd : parseMethodDescriptor y.desc = some ⟨ps, pr⟩) (hlen : argsL.length = ps.length) (hst : st = argsL.reverse ++ rest) (hd : decode c.code pc = .ok (.invokestatic index, 3)) (hp : pc + 3 = pc')
    {W : Nat} (hf : rm.frames + 1 ≤ R.frames) (hW : (rest.map fun v => v.category).sum = W) (hl : W + (maxL + 11) + rm.locals ≤ R.locals) (hc : cells + rm.cells ≤ R.cells) (hs : slots + rm.slots ≤ R.slots)
    (E : ∀ (v : Option Value) (T' : State) (L : List Loc), Q' v T'.heap L → Stand p l e R s m args below meth c T' (locs ++ L) (cells + rm.cells) (slots + rm.slots) → Ends p e below s Q K N (T'.setTop (mkF m pc' Ls (v.toList ++ rest)))) : Ends p e below s Q K N (T.setTop (mkF m pc Ls st)) := by
  subst hp hst
  obtain ⟨v, _, ⟨T2, L2, k2, n2⟩, -, X2, ⟨Lc2, hQ2, l2, y2, z2⟩, st2⟩ := Jvm.LawKit.callS X hx (y := y) hown (mvT hZ w1) (mvT hZ w2) (mvT hZ w3) (mvT hZ w4) hy (backOf (W := W) (hM []) hZ w4 w3 hf hl) (g := mkF m pc Ls (argsL.reverse ++ rest)) rfl hsz (argsL := argsL) (rest := rest) (lenOf hpd hlen) rfl (by show 2 * 0 + _ ≤ _; omega) hd (fun _ _ => ⟨rfl, eT, hc, hs⟩)
  dsimp only [Pt.U, Pt.locs, Pt.cells, Pt.slots] at X2 l2 y2 z2 st2 hQ2
  subst l2 y2 z2
  exact Ends.go st2 (E v T2 Lc2 hQ2 X2)
def Cont (cl : Cell) (n : Nat) (g : Nat → Value) : Prop := cl.slots.size = n ∧ ∀ k, k < n → cl.slots[k]? = some (g k)
theorem Cont.at {cl : Cell} {n : Nat} {g : Nat → Value} (C : Cont cl n g) {j : Int32} (h0 : 0 ≤ j.toInt) (h1 : j.toInt < n) : cl.slots[j.toNatClampNeg]? = some (g j.toNatClampNeg) := C.2 _ (by simp only [Int32.toNatClampNeg]; omega)
end Own
end Jvm.Pilot.@@N@@
namespace Jvm.Pilot.@@N@@
open Jvm Jvm.ClassFile Sem Op Lib Jvm.Free Jvm.Stand Jvm.LawKit Jvm.RoadKit Bundle Jvm.Pilot.@@N@@.Jvm.D
theorem pn_0 : plainName "com/example/burst/burst/PercentEncodingIsUnreservedPinLaw" = true := by first | (simp [plainName, overriddenIn]; done) | decide +kernel
theorem pd_0 : parseMethodDescriptor "(I)Z" = some ⟨[.int], some .boolean⟩ := by decide +kernel
theorem d1_0 : decode prog_29_method_4_code 0 = .ok (.iload_n 0, 1) := by decide +kernel
theorem d1_1 : decode prog_29_method_4_code 1 = .ok (.bipush 97, 2) := by decide +kernel
theorem d1_3 : decode prog_29_method_4_code 3 = .ok (.if_icmp .lt 9, 3) := by decide +kernel
theorem d1_6 : decode prog_29_method_4_code 6 = .ok (.iload_n 0, 1) := by decide +kernel
theorem d1_7 : decode prog_29_method_4_code 7 = .ok (.bipush 122, 2) := by decide +kernel
theorem d1_9 : decode prog_29_method_4_code 9 = .ok (.if_icmp .le 51, 3) := by decide +kernel
theorem d1_12 : decode prog_29_method_4_code 12 = .ok (.iload_n 0, 1) := by decide +kernel
theorem d1_13 : decode prog_29_method_4_code 13 = .ok (.bipush 65, 2) := by decide +kernel
theorem d1_15 : decode prog_29_method_4_code 15 = .ok (.if_icmp .lt 9, 3) := by decide +kernel
theorem d1_18 : decode prog_29_method_4_code 18 = .ok (.iload_n 0, 1) := by decide +kernel
theorem d1_19 : decode prog_29_method_4_code 19 = .ok (.bipush 90, 2) := by decide +kernel
theorem d1_21 : decode prog_29_method_4_code 21 = .ok (.if_icmp .le 39, 3) := by decide +kernel
theorem d1_24 : decode prog_29_method_4_code 24 = .ok (.iload_n 0, 1) := by decide +kernel
theorem d1_25 : decode prog_29_method_4_code 25 = .ok (.bipush 48, 2) := by decide +kernel
theorem d1_27 : decode prog_29_method_4_code 27 = .ok (.if_icmp .lt 9, 3) := by decide +kernel
theorem d1_30 : decode prog_29_method_4_code 30 = .ok (.iload_n 0, 1) := by decide +kernel
theorem d1_31 : decode prog_29_method_4_code 31 = .ok (.bipush 57, 2) := by decide +kernel
theorem d1_33 : decode prog_29_method_4_code 33 = .ok (.if_icmp .le 27, 3) := by decide +kernel
theorem d1_36 : decode prog_29_method_4_code 36 = .ok (.iload_n 0, 1) := by decide +kernel
theorem d1_37 : decode prog_29_method_4_code 37 = .ok (.bipush 45, 2) := by decide +kernel
theorem d1_39 : decode prog_29_method_4_code 39 = .ok (.if_icmp .eq 21, 3) := by decide +kernel
theorem d1_42 : decode prog_29_method_4_code 42 = .ok (.iload_n 0, 1) := by decide +kernel
theorem d1_43 : decode prog_29_method_4_code 43 = .ok (.bipush 46, 2) := by decide +kernel
theorem d1_45 : decode prog_29_method_4_code 45 = .ok (.if_icmp .eq 15, 3) := by decide +kernel
theorem d1_48 : decode prog_29_method_4_code 48 = .ok (.iload_n 0, 1) := by decide +kernel
theorem d1_49 : decode prog_29_method_4_code 49 = .ok (.bipush 95, 2) := by decide +kernel
theorem d1_51 : decode prog_29_method_4_code 51 = .ok (.if_icmp .eq 9, 3) := by decide +kernel
theorem d1_54 : decode prog_29_method_4_code 54 = .ok (.iload_n 0, 1) := by decide +kernel
theorem d1_55 : decode prog_29_method_4_code 55 = .ok (.bipush 126, 2) := by decide +kernel
theorem d1_57 : decode prog_29_method_4_code 57 = .ok (.if_icmp .ne 7, 3) := by decide +kernel
theorem d1_60 : decode prog_29_method_4_code 60 = .ok (.iconst 1, 1) := by decide +kernel
theorem d1_61 : decode prog_29_method_4_code 61 = .ok (.goto 4, 3) := by decide +kernel
theorem d1_64 : decode prog_29_method_4_code 64 = .ok (.iconst 0, 1) := by decide +kernel
theorem d1_65 : decode prog_29_method_4_code 65 = .ok (.ireturn, 1) := by decide +kernel
theorem pn_1 : plainName "com/example/burst/burst/PercentEncoding" = true := by first | (simp [plainName, overriddenIn]; done) | decide +kernel
theorem pd_1 : parseMethodDescriptor "(C)Z" = some ⟨[.char], some .boolean⟩ := by decide +kernel
theorem d2_0 : decode method_2_code 0 = .ok (.iload_n 0, 1) := by decide +kernel
theorem d2_1 : decode method_2_code 1 = .ok (.bipush 64, 2) := by decide +kernel
theorem d2_3 : decode method_2_code 3 = .ok (.if_icmp .ge 21, 3) := by decide +kernel
theorem d2_6 : decode method_2_code 6 = .ok (.ldc2_w 9, 3) := by decide +kernel
theorem d2_9 : decode method_2_code 9 = .ok (.iload_n 0, 1) := by decide +kernel
theorem d2_10 : decode method_2_code 10 = .ok (.lushr, 1) := by decide +kernel
theorem d2_11 : decode method_2_code 11 = .ok (.lconst 1, 1) := by decide +kernel
theorem d2_12 : decode method_2_code 12 = .ok (.land, 1) := by decide +kernel
theorem d2_13 : decode method_2_code 13 = .ok (.lconst 0, 1) := by decide +kernel
theorem d2_14 : decode method_2_code 14 = .ok (.lcmp, 1) := by decide +kernel
theorem d2_15 : decode method_2_code 15 = .ok (.ifCond .eq 7, 3) := by decide +kernel
theorem d2_18 : decode method_2_code 18 = .ok (.iconst 1, 1) := by decide +kernel
theorem d2_19 : decode method_2_code 19 = .ok (.goto 4, 3) := by decide +kernel
theorem d2_22 : decode method_2_code 22 = .ok (.iconst 0, 1) := by decide +kernel
theorem d2_23 : decode method_2_code 23 = .ok (.ireturn, 1) := by decide +kernel
theorem d2_24 : decode method_2_code 24 = .ok (.iload_n 0, 1) := by decide +kernel
theorem d2_25 : decode method_2_code 25 = .ok (.sipush 128, 3) := by decide +kernel
theorem d2_28 : decode method_2_code 28 = .ok (.if_icmp .ge 24, 3) := by decide +kernel
theorem d2_31 : decode method_2_code 31 = .ok (.ldc2_w 11, 3) := by decide +kernel
theorem d2_34 : decode method_2_code 34 = .ok (.iload_n 0, 1) := by decide +kernel
theorem d2_35 : decode method_2_code 35 = .ok (.bipush 64, 2) := by decide +kernel
theorem d2_37 : decode method_2_code 37 = .ok (.isub, 1) := by decide +kernel
theorem d2_38 : decode method_2_code 38 = .ok (.lushr, 1) := by decide +kernel
theorem d2_39 : decode method_2_code 39 = .ok (.lconst 1, 1) := by decide +kernel
theorem d2_40 : decode method_2_code 40 = .ok (.land, 1) := by decide +kernel
theorem d2_41 : decode method_2_code 41 = .ok (.lconst 0, 1) := by decide +kernel
theorem d2_42 : decode method_2_code 42 = .ok (.lcmp, 1) := by decide +kernel
theorem d2_43 : decode method_2_code 43 = .ok (.ifCond .eq 7, 3) := by decide +kernel
theorem d2_46 : decode method_2_code 46 = .ok (.iconst 1, 1) := by decide +kernel
theorem d2_47 : decode method_2_code 47 = .ok (.goto 4, 3) := by decide +kernel
theorem d2_50 : decode method_2_code 50 = .ok (.iconst 0, 1) := by decide +kernel
theorem d2_51 : decode method_2_code 51 = .ok (.ireturn, 1) := by decide +kernel
theorem d2_52 : decode method_2_code 52 = .ok (.iconst 0, 1) := by decide +kernel
theorem d2_53 : decode method_2_code 53 = .ok (.ireturn, 1) := by decide +kernel
theorem pn_2 : plainName "com/example/burst/burst/PercentEncodingIsUnreservedPinLaw" = true := by first | (simp [plainName, overriddenIn]; done) | decide +kernel
theorem pd_2 : parseMethodDescriptor "(I)Z" = some ⟨[.int], some .boolean⟩ := by decide +kernel
def f1 (p1 : Int32) : Int32 := (if p1 < (97 : Int32) then (if p1 < (65 : Int32) then (if p1 < (48 : Int32) then (if p1 = (45 : Int32) then (1 : Int32) else (if p1 = (46 : Int32) then (1 : Int32) else (if p1 = (95 : Int32) then (1 : Int32) else (if p1 = (126 : Int32) then (1 : Int32) else (0 : Int32))))) else (if (57 : Int32) < p1 then (if p1 = (45 : Int32) then (1 : Int32) else (if p1 = (46 : Int32) then (1 : Int32) else (if p1 = (95 : Int32) then (1 : Int32) else (if p1 = (126 : Int32) then (1 : Int32) else (0 : Int32))))) else (1 : Int32))) else (if (90 : Int32) < p1 then (if p1 < (48 : Int32) then (if p1 = (45 : Int32) then (1 : Int32) else (if p1 = (46 : Int32) then (1 : Int32) else (if p1 = (95 : Int32) then (1 : Int32) else (if p1 = (126 : Int32) then (1 : Int32) else (0 : Int32))))) else (if (57 : Int32) < p1 then (if p1 = (45 : Int32) then (1 : Int32) else (if p1 = (46 : Int32) then (1 : Int32) else (if p1 = (95 : Int32) then (1 : Int32) else (if p1 = (126 : Int32) then (1 : Int32) else (0 : Int32))))) else (1 : Int32))) else (1 : Int32))) else (if (122 : Int32) < p1 then (if p1 < (65 : Int32) then (if p1 < (48 : Int32) then (if p1 = (45 : Int32) then (1 : Int32) else (if p1 = (46 : Int32) then (1 : Int32) else (if p1 = (95 : Int32) then (1 : Int32) else (if p1 = (126 : Int32) then (1 : Int32) else (0 : Int32))))) else (if (57 : Int32) < p1 then (if p1 = (45 : Int32) then (1 : Int32) else (if p1 = (46 : Int32) then (1 : Int32) else (if p1 = (95 : Int32) then (1 : Int32) else (if p1 = (126 : Int32) then (1 : Int32) else (0 : Int32))))) else (1 : Int32))) else (if (90 : Int32) < p1 then (if p1 < (48 : Int32) then (if p1 = (45 : Int32) then (1 : Int32) else (if p1 = (46 : Int32) then (1 : Int32) else (if p1 = (95 : Int32) then (1 : Int32) else (if p1 = (126 : Int32) then (1 : Int32) else (0 : Int32))))) else (if (57 : Int32) < p1 then (if p1 = (45 : Int32) then (1 : Int32) else (if p1 = (46 : Int32) then (1 : Int32) else (if p1 = (95 : Int32) then (1 : Int32) else (if p1 = (126 : Int32) then (1 : Int32) else (0 : Int32))))) else (1 : Int32))) else (1 : Int32))) else (1 : Int32)))
abbrev Q1 (Z : State) (p1 : Int32) (h0 : Heap) (v : Option Value) (h : Heap) (L : List Loc) : Prop := v = some (.int (f1 p1)) ∧ L = [] ∧ h = h0
set_option maxRecDepth 65536 in
set_option maxHeartbeats 40000000 in
theorem rm1 (l : Launch) (Z : State) (a0 : Array Value) (hw : ∀ d ∈ tables_1, d.before a0 Z = true) (p1 : Int32) (h0 : Heap)  :
    Con l Z (⟨"com/example/burst/burst/PercentEncoding", "isUnreserved", "(C)Z"⟩ : MethodName) prog_29_method_4_code 1 (some .boolean) ({ frames := 0, cells := 0, slots := 0, locals := 0 } : Room) #[(.int p1)] h0 (Q1 Z p1 h0) := by
  refine Con.of pn_1 (fun p e s m below meth c T0 X0 hx hby hml hret hlk hown hnm hZ e0 => ?_)
  replace hown : s.vm.findClass "com/example/burst/burst/PercentEncoding" = some m.cls := hown
  have ef : entryFrame m #[(.int p1)] 1 = mkF m 0 #[.val (.int p1)] [] := by first | (simp [entryFrame, mkF, argsToLocals, Value.category]; done) | rfl
  rw [ef]
  refine o_iloadN (pc' := 1) X0 hx (hb hby d1_0) rfl rfl ?_
  refine o_bipush (v := (97 : Int32)) (pc' := 3) X0 hx (hb hby d1_1) (by decide) rfl ?_
  refine o_icmp_lt (p1 := 6) (p2 := 12) X0 hx (hb hby d1_3) rfl (by decide) (by decide) (fun hc3 => ?_) (fun hc3 => ?_)
  · refine o_iloadN (pc' := 13) X0 hx (hb hby d1_12) rfl rfl ?_
    refine o_bipush (v := (65 : Int32)) (pc' := 15) X0 hx (hb hby d1_13) (by decide) rfl ?_
    refine o_icmp_lt (p1 := 18) (p2 := 24) X0 hx (hb hby d1_15) rfl (by decide) (by decide) (fun hc15 => ?_) (fun hc15 => ?_)
    · refine o_iloadN (pc' := 25) X0 hx (hb hby d1_24) rfl rfl ?_
      refine o_bipush (v := (48 : Int32)) (pc' := 27) X0 hx (hb hby d1_25) (by decide) rfl ?_
      refine o_icmp_lt (p1 := 30) (p2 := 36) X0 hx (hb hby d1_27) rfl (by decide) (by decide) (fun hc27 => ?_) (fun hc27 => ?_)
      · refine o_iloadN (pc' := 37) X0 hx (hb hby d1_36) rfl rfl ?_
        refine o_bipush (v := (45 : Int32)) (pc' := 39) X0 hx (hb hby d1_37) (by decide) rfl ?_
        refine o_icmp_eq (p1 := 42) (p2 := 60) X0 hx (hb hby d1_39) rfl (by decide) (by decide) (fun hc39 => ?_) (fun hc39 => ?_)
        · refine o_iconst (v := (1 : Int32)) (pc' := 61) X0 hx (hb hby d1_60) (by decide) rfl ?_
          refine o_goto (pc' := 65) X0 hx (hb hby d1_61) (by decide) (by decide) ?_
          exact o_retZ X0 hx hlk hret (hb hby d1_65) (by decide) ⟨by simp only [f1, if_pos hc3, if_pos hc15, if_pos hc27, if_pos hc39], rfl, e0⟩ (by decide) (by decide)
        · refine o_iloadN (pc' := 43) X0 hx (hb hby d1_42) rfl rfl ?_
          refine o_bipush (v := (46 : Int32)) (pc' := 45) X0 hx (hb hby d1_43) (by decide) rfl ?_
          refine o_icmp_eq (p1 := 48) (p2 := 60) X0 hx (hb hby d1_45) rfl (by decide) (by decide) (fun hc45 => ?_) (fun hc45 => ?_)
          · refine o_iconst (v := (1 : Int32)) (pc' := 61) X0 hx (hb hby d1_60) (by decide) rfl ?_
            refine o_goto (pc' := 65) X0 hx (hb hby d1_61) (by decide) (by decide) ?_
            exact o_retZ X0 hx hlk hret (hb hby d1_65) (by decide) ⟨by simp only [f1, if_pos hc3, if_pos hc15, if_pos hc27, if_neg hc39, if_pos hc45], rfl, e0⟩ (by decide) (by decide)
          · refine o_iloadN (pc' := 49) X0 hx (hb hby d1_48) rfl rfl ?_
            refine o_bipush (v := (95 : Int32)) (pc' := 51) X0 hx (hb hby d1_49) (by decide) rfl ?_
            refine o_icmp_eq (p1 := 54) (p2 := 60) X0 hx (hb hby d1_51) rfl (by decide) (by decide) (fun hc51 => ?_) (fun hc51 => ?_)
            · refine o_iconst (v := (1 : Int32)) (pc' := 61) X0 hx (hb hby d1_60) (by decide) rfl ?_
              refine o_goto (pc' := 65) X0 hx (hb hby d1_61) (by decide) (by decide) ?_
              exact o_retZ X0 hx hlk hret (hb hby d1_65) (by decide) ⟨by simp only [f1, if_pos hc3, if_pos hc15, if_pos hc27, if_neg hc39, if_neg hc45, if_pos hc51], rfl, e0⟩ (by decide) (by decide)
            · refine o_iloadN (pc' := 55) X0 hx (hb hby d1_54) rfl rfl ?_
              refine o_bipush (v := (126 : Int32)) (pc' := 57) X0 hx (hb hby d1_55) (by decide) rfl ?_
              refine o_icmp_ne (p1 := 60) (p2 := 64) X0 hx (hb hby d1_57) rfl (by decide) (by decide) (fun hc57 => ?_) (fun hc57 => ?_)
              · refine o_iconst (v := (0 : Int32)) (pc' := 65) X0 hx (hb hby d1_64) (by decide) rfl ?_
                exact o_retZ X0 hx hlk hret (hb hby d1_65) (by decide) ⟨by simp only [f1, if_pos hc3, if_pos hc15, if_pos hc27, if_neg hc39, if_neg hc45, if_neg hc51, if_neg hc57], rfl, e0⟩ (by decide) (by decide)
              · refine o_iconst (v := (1 : Int32)) (pc' := 61) X0 hx (hb hby d1_60) (by decide) rfl ?_
                refine o_goto (pc' := 65) X0 hx (hb hby d1_61) (by decide) (by decide) ?_
                exact o_retZ X0 hx hlk hret (hb hby d1_65) (by decide) ⟨by simp only [f1, if_pos hc3, if_pos hc15, if_pos hc27, if_neg hc39, if_neg hc45, if_neg hc51, if_pos hc57], rfl, e0⟩ (by decide) (by decide)
      · refine o_iloadN (pc' := 31) X0 hx (hb hby d1_30) rfl rfl ?_
        refine o_bipush (v := (57 : Int32)) (pc' := 33) X0 hx (hb hby d1_31) (by decide) rfl ?_
        refine o_icmp_le (p1 := 36) (p2 := 60) X0 hx (hb hby d1_33) rfl (by decide) (by decide) (fun hc33 => ?_) (fun hc33 => ?_)
        · refine o_iconst (v := (1 : Int32)) (pc' := 61) X0 hx (hb hby d1_60) (by decide) rfl ?_
          refine o_goto (pc' := 65) X0 hx (hb hby d1_61) (by decide) (by decide) ?_
          exact o_retZ X0 hx hlk hret (hb hby d1_65) (by decide) ⟨by simp only [f1, if_pos hc3, if_pos hc15, if_neg hc27, if_neg hc33], rfl, e0⟩ (by decide) (by decide)
        · refine o_iloadN (pc' := 37) X0 hx (hb hby d1_36) rfl rfl ?_
          refine o_bipush (v := (45 : Int32)) (pc' := 39) X0 hx (hb hby d1_37) (by decide) rfl ?_
          refine o_icmp_eq (p1 := 42) (p2 := 60) X0 hx (hb hby d1_39) rfl (by decide) (by decide) (fun hc39 => ?_) (fun hc39 => ?_)
          · refine o_iconst (v := (1 : Int32)) (pc' := 61) X0 hx (hb hby d1_60) (by decide) rfl ?_
            refine o_goto (pc' := 65) X0 hx (hb hby d1_61) (by decide) (by decide) ?_
            exact o_retZ X0 hx hlk hret (hb hby d1_65) (by decide) ⟨by simp only [f1, if_pos hc3, if_pos hc15, if_neg hc27, if_pos hc33, if_pos hc39], rfl, e0⟩ (by decide) (by decide)
          · refine o_iloadN (pc' := 43) X0 hx (hb hby d1_42) rfl rfl ?_
            refine o_bipush (v := (46 : Int32)) (pc' := 45) X0 hx (hb hby d1_43) (by decide) rfl ?_
            refine o_icmp_eq (p1 := 48) (p2 := 60) X0 hx (hb hby d1_45) rfl (by decide) (by decide) (fun hc45 => ?_) (fun hc45 => ?_)
            · refine o_iconst (v := (1 : Int32)) (pc' := 61) X0 hx (hb hby d1_60) (by decide) rfl ?_
              refine o_goto (pc' := 65) X0 hx (hb hby d1_61) (by decide) (by decide) ?_
              exact o_retZ X0 hx hlk hret (hb hby d1_65) (by decide) ⟨by simp only [f1, if_pos hc3, if_pos hc15, if_neg hc27, if_pos hc33, if_neg hc39, if_pos hc45], rfl, e0⟩ (by decide) (by decide)
            · refine o_iloadN (pc' := 49) X0 hx (hb hby d1_48) rfl rfl ?_
              refine o_bipush (v := (95 : Int32)) (pc' := 51) X0 hx (hb hby d1_49) (by decide) rfl ?_
              refine o_icmp_eq (p1 := 54) (p2 := 60) X0 hx (hb hby d1_51) rfl (by decide) (by decide) (fun hc51 => ?_) (fun hc51 => ?_)
              · refine o_iconst (v := (1 : Int32)) (pc' := 61) X0 hx (hb hby d1_60) (by decide) rfl ?_
                refine o_goto (pc' := 65) X0 hx (hb hby d1_61) (by decide) (by decide) ?_
                exact o_retZ X0 hx hlk hret (hb hby d1_65) (by decide) ⟨by simp only [f1, if_pos hc3, if_pos hc15, if_neg hc27, if_pos hc33, if_neg hc39, if_neg hc45, if_pos hc51], rfl, e0⟩ (by decide) (by decide)
              · refine o_iloadN (pc' := 55) X0 hx (hb hby d1_54) rfl rfl ?_
                refine o_bipush (v := (126 : Int32)) (pc' := 57) X0 hx (hb hby d1_55) (by decide) rfl ?_
                refine o_icmp_ne (p1 := 60) (p2 := 64) X0 hx (hb hby d1_57) rfl (by decide) (by decide) (fun hc57 => ?_) (fun hc57 => ?_)
                · refine o_iconst (v := (0 : Int32)) (pc' := 65) X0 hx (hb hby d1_64) (by decide) rfl ?_
                  exact o_retZ X0 hx hlk hret (hb hby d1_65) (by decide) ⟨by simp only [f1, if_pos hc3, if_pos hc15, if_neg hc27, if_pos hc33, if_neg hc39, if_neg hc45, if_neg hc51, if_neg hc57], rfl, e0⟩ (by decide) (by decide)
                · refine o_iconst (v := (1 : Int32)) (pc' := 61) X0 hx (hb hby d1_60) (by decide) rfl ?_
                  refine o_goto (pc' := 65) X0 hx (hb hby d1_61) (by decide) (by decide) ?_
                  exact o_retZ X0 hx hlk hret (hb hby d1_65) (by decide) ⟨by simp only [f1, if_pos hc3, if_pos hc15, if_neg hc27, if_pos hc33, if_neg hc39, if_neg hc45, if_neg hc51, if_pos hc57], rfl, e0⟩ (by decide) (by decide)
    · refine o_iloadN (pc' := 19) X0 hx (hb hby d1_18) rfl rfl ?_
      refine o_bipush (v := (90 : Int32)) (pc' := 21) X0 hx (hb hby d1_19) (by decide) rfl ?_
      refine o_icmp_le (p1 := 24) (p2 := 60) X0 hx (hb hby d1_21) rfl (by decide) (by decide) (fun hc21 => ?_) (fun hc21 => ?_)
      · refine o_iconst (v := (1 : Int32)) (pc' := 61) X0 hx (hb hby d1_60) (by decide) rfl ?_
        refine o_goto (pc' := 65) X0 hx (hb hby d1_61) (by decide) (by decide) ?_
        exact o_retZ X0 hx hlk hret (hb hby d1_65) (by decide) ⟨by simp only [f1, if_pos hc3, if_neg hc15, if_neg hc21], rfl, e0⟩ (by decide) (by decide)
      · refine o_iloadN (pc' := 25) X0 hx (hb hby d1_24) rfl rfl ?_
        refine o_bipush (v := (48 : Int32)) (pc' := 27) X0 hx (hb hby d1_25) (by decide) rfl ?_
        refine o_icmp_lt (p1 := 30) (p2 := 36) X0 hx (hb hby d1_27) rfl (by decide) (by decide) (fun hc27 => ?_) (fun hc27 => ?_)
        · refine o_iloadN (pc' := 37) X0 hx (hb hby d1_36) rfl rfl ?_
          refine o_bipush (v := (45 : Int32)) (pc' := 39) X0 hx (hb hby d1_37) (by decide) rfl ?_
          refine o_icmp_eq (p1 := 42) (p2 := 60) X0 hx (hb hby d1_39) rfl (by decide) (by decide) (fun hc39 => ?_) (fun hc39 => ?_)
          · refine o_iconst (v := (1 : Int32)) (pc' := 61) X0 hx (hb hby d1_60) (by decide) rfl ?_
            refine o_goto (pc' := 65) X0 hx (hb hby d1_61) (by decide) (by decide) ?_
            exact o_retZ X0 hx hlk hret (hb hby d1_65) (by decide) ⟨by simp only [f1, if_pos hc3, if_neg hc15, if_pos hc21, if_pos hc27, if_pos hc39], rfl, e0⟩ (by decide) (by decide)
          · refine o_iloadN (pc' := 43) X0 hx (hb hby d1_42) rfl rfl ?_
            refine o_bipush (v := (46 : Int32)) (pc' := 45) X0 hx (hb hby d1_43) (by decide) rfl ?_
            refine o_icmp_eq (p1 := 48) (p2 := 60) X0 hx (hb hby d1_45) rfl (by decide) (by decide) (fun hc45 => ?_) (fun hc45 => ?_)
            · refine o_iconst (v := (1 : Int32)) (pc' := 61) X0 hx (hb hby d1_60) (by decide) rfl ?_
              refine o_goto (pc' := 65) X0 hx (hb hby d1_61) (by decide) (by decide) ?_
              exact o_retZ X0 hx hlk hret (hb hby d1_65) (by decide) ⟨by simp only [f1, if_pos hc3, if_neg hc15, if_pos hc21, if_pos hc27, if_neg hc39, if_pos hc45], rfl, e0⟩ (by decide) (by decide)
            · refine o_iloadN (pc' := 49) X0 hx (hb hby d1_48) rfl rfl ?_
              refine o_bipush (v := (95 : Int32)) (pc' := 51) X0 hx (hb hby d1_49) (by decide) rfl ?_
              refine o_icmp_eq (p1 := 54) (p2 := 60) X0 hx (hb hby d1_51) rfl (by decide) (by decide) (fun hc51 => ?_) (fun hc51 => ?_)
              · refine o_iconst (v := (1 : Int32)) (pc' := 61) X0 hx (hb hby d1_60) (by decide) rfl ?_
                refine o_goto (pc' := 65) X0 hx (hb hby d1_61) (by decide) (by decide) ?_
                exact o_retZ X0 hx hlk hret (hb hby d1_65) (by decide) ⟨by simp only [f1, if_pos hc3, if_neg hc15, if_pos hc21, if_pos hc27, if_neg hc39, if_neg hc45, if_pos hc51], rfl, e0⟩ (by decide) (by decide)
              · refine o_iloadN (pc' := 55) X0 hx (hb hby d1_54) rfl rfl ?_
                refine o_bipush (v := (126 : Int32)) (pc' := 57) X0 hx (hb hby d1_55) (by decide) rfl ?_
                refine o_icmp_ne (p1 := 60) (p2 := 64) X0 hx (hb hby d1_57) rfl (by decide) (by decide) (fun hc57 => ?_) (fun hc57 => ?_)
                · refine o_iconst (v := (0 : Int32)) (pc' := 65) X0 hx (hb hby d1_64) (by decide) rfl ?_
                  exact o_retZ X0 hx hlk hret (hb hby d1_65) (by decide) ⟨by simp only [f1, if_pos hc3, if_neg hc15, if_pos hc21, if_pos hc27, if_neg hc39, if_neg hc45, if_neg hc51, if_neg hc57], rfl, e0⟩ (by decide) (by decide)
                · refine o_iconst (v := (1 : Int32)) (pc' := 61) X0 hx (hb hby d1_60) (by decide) rfl ?_
                  refine o_goto (pc' := 65) X0 hx (hb hby d1_61) (by decide) (by decide) ?_
                  exact o_retZ X0 hx hlk hret (hb hby d1_65) (by decide) ⟨by simp only [f1, if_pos hc3, if_neg hc15, if_pos hc21, if_pos hc27, if_neg hc39, if_neg hc45, if_neg hc51, if_pos hc57], rfl, e0⟩ (by decide) (by decide)
        · refine o_iloadN (pc' := 31) X0 hx (hb hby d1_30) rfl rfl ?_
          refine o_bipush (v := (57 : Int32)) (pc' := 33) X0 hx (hb hby d1_31) (by decide) rfl ?_
          refine o_icmp_le (p1 := 36) (p2 := 60) X0 hx (hb hby d1_33) rfl (by decide) (by decide) (fun hc33 => ?_) (fun hc33 => ?_)
          · refine o_iconst (v := (1 : Int32)) (pc' := 61) X0 hx (hb hby d1_60) (by decide) rfl ?_
            refine o_goto (pc' := 65) X0 hx (hb hby d1_61) (by decide) (by decide) ?_
            exact o_retZ X0 hx hlk hret (hb hby d1_65) (by decide) ⟨by simp only [f1, if_pos hc3, if_neg hc15, if_pos hc21, if_neg hc27, if_neg hc33], rfl, e0⟩ (by decide) (by decide)
          · refine o_iloadN (pc' := 37) X0 hx (hb hby d1_36) rfl rfl ?_
            refine o_bipush (v := (45 : Int32)) (pc' := 39) X0 hx (hb hby d1_37) (by decide) rfl ?_
            refine o_icmp_eq (p1 := 42) (p2 := 60) X0 hx (hb hby d1_39) rfl (by decide) (by decide) (fun hc39 => ?_) (fun hc39 => ?_)
            · refine o_iconst (v := (1 : Int32)) (pc' := 61) X0 hx (hb hby d1_60) (by decide) rfl ?_
              refine o_goto (pc' := 65) X0 hx (hb hby d1_61) (by decide) (by decide) ?_
              exact o_retZ X0 hx hlk hret (hb hby d1_65) (by decide) ⟨by simp only [f1, if_pos hc3, if_neg hc15, if_pos hc21, if_neg hc27, if_pos hc33, if_pos hc39], rfl, e0⟩ (by decide) (by decide)
            · refine o_iloadN (pc' := 43) X0 hx (hb hby d1_42) rfl rfl ?_
              refine o_bipush (v := (46 : Int32)) (pc' := 45) X0 hx (hb hby d1_43) (by decide) rfl ?_
              refine o_icmp_eq (p1 := 48) (p2 := 60) X0 hx (hb hby d1_45) rfl (by decide) (by decide) (fun hc45 => ?_) (fun hc45 => ?_)
              · refine o_iconst (v := (1 : Int32)) (pc' := 61) X0 hx (hb hby d1_60) (by decide) rfl ?_
                refine o_goto (pc' := 65) X0 hx (hb hby d1_61) (by decide) (by decide) ?_
                exact o_retZ X0 hx hlk hret (hb hby d1_65) (by decide) ⟨by simp only [f1, if_pos hc3, if_neg hc15, if_pos hc21, if_neg hc27, if_pos hc33, if_neg hc39, if_pos hc45], rfl, e0⟩ (by decide) (by decide)
              · refine o_iloadN (pc' := 49) X0 hx (hb hby d1_48) rfl rfl ?_
                refine o_bipush (v := (95 : Int32)) (pc' := 51) X0 hx (hb hby d1_49) (by decide) rfl ?_
                refine o_icmp_eq (p1 := 54) (p2 := 60) X0 hx (hb hby d1_51) rfl (by decide) (by decide) (fun hc51 => ?_) (fun hc51 => ?_)
                · refine o_iconst (v := (1 : Int32)) (pc' := 61) X0 hx (hb hby d1_60) (by decide) rfl ?_
                  refine o_goto (pc' := 65) X0 hx (hb hby d1_61) (by decide) (by decide) ?_
                  exact o_retZ X0 hx hlk hret (hb hby d1_65) (by decide) ⟨by simp only [f1, if_pos hc3, if_neg hc15, if_pos hc21, if_neg hc27, if_pos hc33, if_neg hc39, if_neg hc45, if_pos hc51], rfl, e0⟩ (by decide) (by decide)
                · refine o_iloadN (pc' := 55) X0 hx (hb hby d1_54) rfl rfl ?_
                  refine o_bipush (v := (126 : Int32)) (pc' := 57) X0 hx (hb hby d1_55) (by decide) rfl ?_
                  refine o_icmp_ne (p1 := 60) (p2 := 64) X0 hx (hb hby d1_57) rfl (by decide) (by decide) (fun hc57 => ?_) (fun hc57 => ?_)
                  · refine o_iconst (v := (0 : Int32)) (pc' := 65) X0 hx (hb hby d1_64) (by decide) rfl ?_
                    exact o_retZ X0 hx hlk hret (hb hby d1_65) (by decide) ⟨by simp only [f1, if_pos hc3, if_neg hc15, if_pos hc21, if_neg hc27, if_pos hc33, if_neg hc39, if_neg hc45, if_neg hc51, if_neg hc57], rfl, e0⟩ (by decide) (by decide)
                  · refine o_iconst (v := (1 : Int32)) (pc' := 61) X0 hx (hb hby d1_60) (by decide) rfl ?_
                    refine o_goto (pc' := 65) X0 hx (hb hby d1_61) (by decide) (by decide) ?_
                    exact o_retZ X0 hx hlk hret (hb hby d1_65) (by decide) ⟨by simp only [f1, if_pos hc3, if_neg hc15, if_pos hc21, if_neg hc27, if_pos hc33, if_neg hc39, if_neg hc45, if_neg hc51, if_pos hc57], rfl, e0⟩ (by decide) (by decide)
  · refine o_iloadN (pc' := 7) X0 hx (hb hby d1_6) rfl rfl ?_
    refine o_bipush (v := (122 : Int32)) (pc' := 9) X0 hx (hb hby d1_7) (by decide) rfl ?_
    refine o_icmp_le (p1 := 12) (p2 := 60) X0 hx (hb hby d1_9) rfl (by decide) (by decide) (fun hc9 => ?_) (fun hc9 => ?_)
    · refine o_iconst (v := (1 : Int32)) (pc' := 61) X0 hx (hb hby d1_60) (by decide) rfl ?_
      refine o_goto (pc' := 65) X0 hx (hb hby d1_61) (by decide) (by decide) ?_
      exact o_retZ X0 hx hlk hret (hb hby d1_65) (by decide) ⟨by simp only [f1, if_neg hc3, if_neg hc9], rfl, e0⟩ (by decide) (by decide)
    · refine o_iloadN (pc' := 13) X0 hx (hb hby d1_12) rfl rfl ?_
      refine o_bipush (v := (65 : Int32)) (pc' := 15) X0 hx (hb hby d1_13) (by decide) rfl ?_
      refine o_icmp_lt (p1 := 18) (p2 := 24) X0 hx (hb hby d1_15) rfl (by decide) (by decide) (fun hc15 => ?_) (fun hc15 => ?_)
      · refine o_iloadN (pc' := 25) X0 hx (hb hby d1_24) rfl rfl ?_
        refine o_bipush (v := (48 : Int32)) (pc' := 27) X0 hx (hb hby d1_25) (by decide) rfl ?_
        refine o_icmp_lt (p1 := 30) (p2 := 36) X0 hx (hb hby d1_27) rfl (by decide) (by decide) (fun hc27 => ?_) (fun hc27 => ?_)
        · refine o_iloadN (pc' := 37) X0 hx (hb hby d1_36) rfl rfl ?_
          refine o_bipush (v := (45 : Int32)) (pc' := 39) X0 hx (hb hby d1_37) (by decide) rfl ?_
          refine o_icmp_eq (p1 := 42) (p2 := 60) X0 hx (hb hby d1_39) rfl (by decide) (by decide) (fun hc39 => ?_) (fun hc39 => ?_)
          · refine o_iconst (v := (1 : Int32)) (pc' := 61) X0 hx (hb hby d1_60) (by decide) rfl ?_
            refine o_goto (pc' := 65) X0 hx (hb hby d1_61) (by decide) (by decide) ?_
            exact o_retZ X0 hx hlk hret (hb hby d1_65) (by decide) ⟨by simp only [f1, if_neg hc3, if_pos hc9, if_pos hc15, if_pos hc27, if_pos hc39], rfl, e0⟩ (by decide) (by decide)
          · refine o_iloadN (pc' := 43) X0 hx (hb hby d1_42) rfl rfl ?_
            refine o_bipush (v := (46 : Int32)) (pc' := 45) X0 hx (hb hby d1_43) (by decide) rfl ?_
            refine o_icmp_eq (p1 := 48) (p2 := 60) X0 hx (hb hby d1_45) rfl (by decide) (by decide) (fun hc45 => ?_) (fun hc45 => ?_)
            · refine o_iconst (v := (1 : Int32)) (pc' := 61) X0 hx (hb hby d1_60) (by decide) rfl ?_
              refine o_goto (pc' := 65) X0 hx (hb hby d1_61) (by decide) (by decide) ?_
              exact o_retZ X0 hx hlk hret (hb hby d1_65) (by decide) ⟨by simp only [f1, if_neg hc3, if_pos hc9, if_pos hc15, if_pos hc27, if_neg hc39, if_pos hc45], rfl, e0⟩ (by decide) (by decide)
            · refine o_iloadN (pc' := 49) X0 hx (hb hby d1_48) rfl rfl ?_
              refine o_bipush (v := (95 : Int32)) (pc' := 51) X0 hx (hb hby d1_49) (by decide) rfl ?_
              refine o_icmp_eq (p1 := 54) (p2 := 60) X0 hx (hb hby d1_51) rfl (by decide) (by decide) (fun hc51 => ?_) (fun hc51 => ?_)
              · refine o_iconst (v := (1 : Int32)) (pc' := 61) X0 hx (hb hby d1_60) (by decide) rfl ?_
                refine o_goto (pc' := 65) X0 hx (hb hby d1_61) (by decide) (by decide) ?_
                exact o_retZ X0 hx hlk hret (hb hby d1_65) (by decide) ⟨by simp only [f1, if_neg hc3, if_pos hc9, if_pos hc15, if_pos hc27, if_neg hc39, if_neg hc45, if_pos hc51], rfl, e0⟩ (by decide) (by decide)
              · refine o_iloadN (pc' := 55) X0 hx (hb hby d1_54) rfl rfl ?_
                refine o_bipush (v := (126 : Int32)) (pc' := 57) X0 hx (hb hby d1_55) (by decide) rfl ?_
                refine o_icmp_ne (p1 := 60) (p2 := 64) X0 hx (hb hby d1_57) rfl (by decide) (by decide) (fun hc57 => ?_) (fun hc57 => ?_)
                · refine o_iconst (v := (0 : Int32)) (pc' := 65) X0 hx (hb hby d1_64) (by decide) rfl ?_
                  exact o_retZ X0 hx hlk hret (hb hby d1_65) (by decide) ⟨by simp only [f1, if_neg hc3, if_pos hc9, if_pos hc15, if_pos hc27, if_neg hc39, if_neg hc45, if_neg hc51, if_neg hc57], rfl, e0⟩ (by decide) (by decide)
                · refine o_iconst (v := (1 : Int32)) (pc' := 61) X0 hx (hb hby d1_60) (by decide) rfl ?_
                  refine o_goto (pc' := 65) X0 hx (hb hby d1_61) (by decide) (by decide) ?_
                  exact o_retZ X0 hx hlk hret (hb hby d1_65) (by decide) ⟨by simp only [f1, if_neg hc3, if_pos hc9, if_pos hc15, if_pos hc27, if_neg hc39, if_neg hc45, if_neg hc51, if_pos hc57], rfl, e0⟩ (by decide) (by decide)
        · refine o_iloadN (pc' := 31) X0 hx (hb hby d1_30) rfl rfl ?_
          refine o_bipush (v := (57 : Int32)) (pc' := 33) X0 hx (hb hby d1_31) (by decide) rfl ?_
          refine o_icmp_le (p1 := 36) (p2 := 60) X0 hx (hb hby d1_33) rfl (by decide) (by decide) (fun hc33 => ?_) (fun hc33 => ?_)
          · refine o_iconst (v := (1 : Int32)) (pc' := 61) X0 hx (hb hby d1_60) (by decide) rfl ?_
            refine o_goto (pc' := 65) X0 hx (hb hby d1_61) (by decide) (by decide) ?_
            exact o_retZ X0 hx hlk hret (hb hby d1_65) (by decide) ⟨by simp only [f1, if_neg hc3, if_pos hc9, if_pos hc15, if_neg hc27, if_neg hc33], rfl, e0⟩ (by decide) (by decide)
          · refine o_iloadN (pc' := 37) X0 hx (hb hby d1_36) rfl rfl ?_
            refine o_bipush (v := (45 : Int32)) (pc' := 39) X0 hx (hb hby d1_37) (by decide) rfl ?_
            refine o_icmp_eq (p1 := 42) (p2 := 60) X0 hx (hb hby d1_39) rfl (by decide) (by decide) (fun hc39 => ?_) (fun hc39 => ?_)
            · refine o_iconst (v := (1 : Int32)) (pc' := 61) X0 hx (hb hby d1_60) (by decide) rfl ?_
              refine o_goto (pc' := 65) X0 hx (hb hby d1_61) (by decide) (by decide) ?_
              exact o_retZ X0 hx hlk hret (hb hby d1_65) (by decide) ⟨by simp only [f1, if_neg hc3, if_pos hc9, if_pos hc15, if_neg hc27, if_pos hc33, if_pos hc39], rfl, e0⟩ (by decide) (by decide)
            · refine o_iloadN (pc' := 43) X0 hx (hb hby d1_42) rfl rfl ?_
              refine o_bipush (v := (46 : Int32)) (pc' := 45) X0 hx (hb hby d1_43) (by decide) rfl ?_
              refine o_icmp_eq (p1 := 48) (p2 := 60) X0 hx (hb hby d1_45) rfl (by decide) (by decide) (fun hc45 => ?_) (fun hc45 => ?_)
              · refine o_iconst (v := (1 : Int32)) (pc' := 61) X0 hx (hb hby d1_60) (by decide) rfl ?_
                refine o_goto (pc' := 65) X0 hx (hb hby d1_61) (by decide) (by decide) ?_
                exact o_retZ X0 hx hlk hret (hb hby d1_65) (by decide) ⟨by simp only [f1, if_neg hc3, if_pos hc9, if_pos hc15, if_neg hc27, if_pos hc33, if_neg hc39, if_pos hc45], rfl, e0⟩ (by decide) (by decide)
              · refine o_iloadN (pc' := 49) X0 hx (hb hby d1_48) rfl rfl ?_
                refine o_bipush (v := (95 : Int32)) (pc' := 51) X0 hx (hb hby d1_49) (by decide) rfl ?_
                refine o_icmp_eq (p1 := 54) (p2 := 60) X0 hx (hb hby d1_51) rfl (by decide) (by decide) (fun hc51 => ?_) (fun hc51 => ?_)
                · refine o_iconst (v := (1 : Int32)) (pc' := 61) X0 hx (hb hby d1_60) (by decide) rfl ?_
                  refine o_goto (pc' := 65) X0 hx (hb hby d1_61) (by decide) (by decide) ?_
                  exact o_retZ X0 hx hlk hret (hb hby d1_65) (by decide) ⟨by simp only [f1, if_neg hc3, if_pos hc9, if_pos hc15, if_neg hc27, if_pos hc33, if_neg hc39, if_neg hc45, if_pos hc51], rfl, e0⟩ (by decide) (by decide)
                · refine o_iloadN (pc' := 55) X0 hx (hb hby d1_54) rfl rfl ?_
                  refine o_bipush (v := (126 : Int32)) (pc' := 57) X0 hx (hb hby d1_55) (by decide) rfl ?_
                  refine o_icmp_ne (p1 := 60) (p2 := 64) X0 hx (hb hby d1_57) rfl (by decide) (by decide) (fun hc57 => ?_) (fun hc57 => ?_)
                  · refine o_iconst (v := (0 : Int32)) (pc' := 65) X0 hx (hb hby d1_64) (by decide) rfl ?_
                    exact o_retZ X0 hx hlk hret (hb hby d1_65) (by decide) ⟨by simp only [f1, if_neg hc3, if_pos hc9, if_pos hc15, if_neg hc27, if_pos hc33, if_neg hc39, if_neg hc45, if_neg hc51, if_neg hc57], rfl, e0⟩ (by decide) (by decide)
                  · refine o_iconst (v := (1 : Int32)) (pc' := 61) X0 hx (hb hby d1_60) (by decide) rfl ?_
                    refine o_goto (pc' := 65) X0 hx (hb hby d1_61) (by decide) (by decide) ?_
                    exact o_retZ X0 hx hlk hret (hb hby d1_65) (by decide) ⟨by simp only [f1, if_neg hc3, if_pos hc9, if_pos hc15, if_neg hc27, if_pos hc33, if_neg hc39, if_neg hc45, if_neg hc51, if_pos hc57], rfl, e0⟩ (by decide) (by decide)
      · refine o_iloadN (pc' := 19) X0 hx (hb hby d1_18) rfl rfl ?_
        refine o_bipush (v := (90 : Int32)) (pc' := 21) X0 hx (hb hby d1_19) (by decide) rfl ?_
        refine o_icmp_le (p1 := 24) (p2 := 60) X0 hx (hb hby d1_21) rfl (by decide) (by decide) (fun hc21 => ?_) (fun hc21 => ?_)
        · refine o_iconst (v := (1 : Int32)) (pc' := 61) X0 hx (hb hby d1_60) (by decide) rfl ?_
          refine o_goto (pc' := 65) X0 hx (hb hby d1_61) (by decide) (by decide) ?_
          exact o_retZ X0 hx hlk hret (hb hby d1_65) (by decide) ⟨by simp only [f1, if_neg hc3, if_pos hc9, if_neg hc15, if_neg hc21], rfl, e0⟩ (by decide) (by decide)
        · refine o_iloadN (pc' := 25) X0 hx (hb hby d1_24) rfl rfl ?_
          refine o_bipush (v := (48 : Int32)) (pc' := 27) X0 hx (hb hby d1_25) (by decide) rfl ?_
          refine o_icmp_lt (p1 := 30) (p2 := 36) X0 hx (hb hby d1_27) rfl (by decide) (by decide) (fun hc27 => ?_) (fun hc27 => ?_)
          · refine o_iloadN (pc' := 37) X0 hx (hb hby d1_36) rfl rfl ?_
            refine o_bipush (v := (45 : Int32)) (pc' := 39) X0 hx (hb hby d1_37) (by decide) rfl ?_
            refine o_icmp_eq (p1 := 42) (p2 := 60) X0 hx (hb hby d1_39) rfl (by decide) (by decide) (fun hc39 => ?_) (fun hc39 => ?_)
            · refine o_iconst (v := (1 : Int32)) (pc' := 61) X0 hx (hb hby d1_60) (by decide) rfl ?_
              refine o_goto (pc' := 65) X0 hx (hb hby d1_61) (by decide) (by decide) ?_
              exact o_retZ X0 hx hlk hret (hb hby d1_65) (by decide) ⟨by simp only [f1, if_neg hc3, if_pos hc9, if_neg hc15, if_pos hc21, if_pos hc27, if_pos hc39], rfl, e0⟩ (by decide) (by decide)
            · refine o_iloadN (pc' := 43) X0 hx (hb hby d1_42) rfl rfl ?_
              refine o_bipush (v := (46 : Int32)) (pc' := 45) X0 hx (hb hby d1_43) (by decide) rfl ?_
              refine o_icmp_eq (p1 := 48) (p2 := 60) X0 hx (hb hby d1_45) rfl (by decide) (by decide) (fun hc45 => ?_) (fun hc45 => ?_)
              · refine o_iconst (v := (1 : Int32)) (pc' := 61) X0 hx (hb hby d1_60) (by decide) rfl ?_
                refine o_goto (pc' := 65) X0 hx (hb hby d1_61) (by decide) (by decide) ?_
                exact o_retZ X0 hx hlk hret (hb hby d1_65) (by decide) ⟨by simp only [f1, if_neg hc3, if_pos hc9, if_neg hc15, if_pos hc21, if_pos hc27, if_neg hc39, if_pos hc45], rfl, e0⟩ (by decide) (by decide)
              · refine o_iloadN (pc' := 49) X0 hx (hb hby d1_48) rfl rfl ?_
                refine o_bipush (v := (95 : Int32)) (pc' := 51) X0 hx (hb hby d1_49) (by decide) rfl ?_
                refine o_icmp_eq (p1 := 54) (p2 := 60) X0 hx (hb hby d1_51) rfl (by decide) (by decide) (fun hc51 => ?_) (fun hc51 => ?_)
                · refine o_iconst (v := (1 : Int32)) (pc' := 61) X0 hx (hb hby d1_60) (by decide) rfl ?_
                  refine o_goto (pc' := 65) X0 hx (hb hby d1_61) (by decide) (by decide) ?_
                  exact o_retZ X0 hx hlk hret (hb hby d1_65) (by decide) ⟨by simp only [f1, if_neg hc3, if_pos hc9, if_neg hc15, if_pos hc21, if_pos hc27, if_neg hc39, if_neg hc45, if_pos hc51], rfl, e0⟩ (by decide) (by decide)
                · refine o_iloadN (pc' := 55) X0 hx (hb hby d1_54) rfl rfl ?_
                  refine o_bipush (v := (126 : Int32)) (pc' := 57) X0 hx (hb hby d1_55) (by decide) rfl ?_
                  refine o_icmp_ne (p1 := 60) (p2 := 64) X0 hx (hb hby d1_57) rfl (by decide) (by decide) (fun hc57 => ?_) (fun hc57 => ?_)
                  · refine o_iconst (v := (0 : Int32)) (pc' := 65) X0 hx (hb hby d1_64) (by decide) rfl ?_
                    exact o_retZ X0 hx hlk hret (hb hby d1_65) (by decide) ⟨by simp only [f1, if_neg hc3, if_pos hc9, if_neg hc15, if_pos hc21, if_pos hc27, if_neg hc39, if_neg hc45, if_neg hc51, if_neg hc57], rfl, e0⟩ (by decide) (by decide)
                  · refine o_iconst (v := (1 : Int32)) (pc' := 61) X0 hx (hb hby d1_60) (by decide) rfl ?_
                    refine o_goto (pc' := 65) X0 hx (hb hby d1_61) (by decide) (by decide) ?_
                    exact o_retZ X0 hx hlk hret (hb hby d1_65) (by decide) ⟨by simp only [f1, if_neg hc3, if_pos hc9, if_neg hc15, if_pos hc21, if_pos hc27, if_neg hc39, if_neg hc45, if_neg hc51, if_pos hc57], rfl, e0⟩ (by decide) (by decide)
          · refine o_iloadN (pc' := 31) X0 hx (hb hby d1_30) rfl rfl ?_
            refine o_bipush (v := (57 : Int32)) (pc' := 33) X0 hx (hb hby d1_31) (by decide) rfl ?_
            refine o_icmp_le (p1 := 36) (p2 := 60) X0 hx (hb hby d1_33) rfl (by decide) (by decide) (fun hc33 => ?_) (fun hc33 => ?_)
            · refine o_iconst (v := (1 : Int32)) (pc' := 61) X0 hx (hb hby d1_60) (by decide) rfl ?_
              refine o_goto (pc' := 65) X0 hx (hb hby d1_61) (by decide) (by decide) ?_
              exact o_retZ X0 hx hlk hret (hb hby d1_65) (by decide) ⟨by simp only [f1, if_neg hc3, if_pos hc9, if_neg hc15, if_pos hc21, if_neg hc27, if_neg hc33], rfl, e0⟩ (by decide) (by decide)
            · refine o_iloadN (pc' := 37) X0 hx (hb hby d1_36) rfl rfl ?_
              refine o_bipush (v := (45 : Int32)) (pc' := 39) X0 hx (hb hby d1_37) (by decide) rfl ?_
              refine o_icmp_eq (p1 := 42) (p2 := 60) X0 hx (hb hby d1_39) rfl (by decide) (by decide) (fun hc39 => ?_) (fun hc39 => ?_)
              · refine o_iconst (v := (1 : Int32)) (pc' := 61) X0 hx (hb hby d1_60) (by decide) rfl ?_
                refine o_goto (pc' := 65) X0 hx (hb hby d1_61) (by decide) (by decide) ?_
                exact o_retZ X0 hx hlk hret (hb hby d1_65) (by decide) ⟨by simp only [f1, if_neg hc3, if_pos hc9, if_neg hc15, if_pos hc21, if_neg hc27, if_pos hc33, if_pos hc39], rfl, e0⟩ (by decide) (by decide)
              · refine o_iloadN (pc' := 43) X0 hx (hb hby d1_42) rfl rfl ?_
                refine o_bipush (v := (46 : Int32)) (pc' := 45) X0 hx (hb hby d1_43) (by decide) rfl ?_
                refine o_icmp_eq (p1 := 48) (p2 := 60) X0 hx (hb hby d1_45) rfl (by decide) (by decide) (fun hc45 => ?_) (fun hc45 => ?_)
                · refine o_iconst (v := (1 : Int32)) (pc' := 61) X0 hx (hb hby d1_60) (by decide) rfl ?_
                  refine o_goto (pc' := 65) X0 hx (hb hby d1_61) (by decide) (by decide) ?_
                  exact o_retZ X0 hx hlk hret (hb hby d1_65) (by decide) ⟨by simp only [f1, if_neg hc3, if_pos hc9, if_neg hc15, if_pos hc21, if_neg hc27, if_pos hc33, if_neg hc39, if_pos hc45], rfl, e0⟩ (by decide) (by decide)
                · refine o_iloadN (pc' := 49) X0 hx (hb hby d1_48) rfl rfl ?_
                  refine o_bipush (v := (95 : Int32)) (pc' := 51) X0 hx (hb hby d1_49) (by decide) rfl ?_
                  refine o_icmp_eq (p1 := 54) (p2 := 60) X0 hx (hb hby d1_51) rfl (by decide) (by decide) (fun hc51 => ?_) (fun hc51 => ?_)
                  · refine o_iconst (v := (1 : Int32)) (pc' := 61) X0 hx (hb hby d1_60) (by decide) rfl ?_
                    refine o_goto (pc' := 65) X0 hx (hb hby d1_61) (by decide) (by decide) ?_
                    exact o_retZ X0 hx hlk hret (hb hby d1_65) (by decide) ⟨by simp only [f1, if_neg hc3, if_pos hc9, if_neg hc15, if_pos hc21, if_neg hc27, if_pos hc33, if_neg hc39, if_neg hc45, if_pos hc51], rfl, e0⟩ (by decide) (by decide)
                  · refine o_iloadN (pc' := 55) X0 hx (hb hby d1_54) rfl rfl ?_
                    refine o_bipush (v := (126 : Int32)) (pc' := 57) X0 hx (hb hby d1_55) (by decide) rfl ?_
                    refine o_icmp_ne (p1 := 60) (p2 := 64) X0 hx (hb hby d1_57) rfl (by decide) (by decide) (fun hc57 => ?_) (fun hc57 => ?_)
                    · refine o_iconst (v := (0 : Int32)) (pc' := 65) X0 hx (hb hby d1_64) (by decide) rfl ?_
                      exact o_retZ X0 hx hlk hret (hb hby d1_65) (by decide) ⟨by simp only [f1, if_neg hc3, if_pos hc9, if_neg hc15, if_pos hc21, if_neg hc27, if_pos hc33, if_neg hc39, if_neg hc45, if_neg hc51, if_neg hc57], rfl, e0⟩ (by decide) (by decide)
                    · refine o_iconst (v := (1 : Int32)) (pc' := 61) X0 hx (hb hby d1_60) (by decide) rfl ?_
                      refine o_goto (pc' := 65) X0 hx (hb hby d1_61) (by decide) (by decide) ?_
                      exact o_retZ X0 hx hlk hret (hb hby d1_65) (by decide) ⟨by simp only [f1, if_neg hc3, if_pos hc9, if_neg hc15, if_pos hc21, if_neg hc27, if_pos hc33, if_neg hc39, if_neg hc45, if_neg hc51, if_pos hc57], rfl, e0⟩ (by decide) (by decide)
def f2 (p1 : Int32) : Int32 := (if p1 < (64 : Int32) then (if ((((288054454291267584 : Int64).toUInt64 >>> (p1 &&& 0x3f).toInt64.toUInt64).toInt64) &&& (1 : Int64)) = (0 : Int64) then (0 : Int32) else (1 : Int32)) else (if p1 < (128 : Int32) then (if ((((5188146764422578174 : Int64).toUInt64 >>> ((p1 - (64 : Int32)) &&& 0x3f).toInt64.toUInt64).toInt64) &&& (1 : Int64)) = (0 : Int64) then (0 : Int32) else (1 : Int32)) else (0 : Int32)))
abbrev Q2 (Z : State) (p1 : Int32) (h0 : Heap) (v : Option Value) (h : Heap) (L : List Loc) : Prop := v = some (.int (f2 p1)) ∧ L = [] ∧ h = h0
set_option maxRecDepth 65536 in
set_option maxHeartbeats 40000000 in
theorem rm2 (l : Launch) (Z : State) (a0 : Array Value) (hw : ∀ d ∈ tables_1, d.before a0 Z = true) (p1 : Int32) (h0 : Heap)  :
    Con l Z (⟨"com/example/burst/burst/PercentEncodingIsUnreservedPinLaw", "expected", "(I)Z"⟩ : MethodName) method_2_code 1 (some .boolean) ({ frames := 0, cells := 0, slots := 0, locals := 0 } : Room) #[(.int p1)] h0 (Q2 Z p1 h0) := by
  refine Con.of pn_2 (fun p e s m below meth c T0 X0 hx hby hml hret hlk hown hnm hZ e0 => ?_)
  replace hown : s.vm.findClass "com/example/burst/burst/PercentEncodingIsUnreservedPinLaw" = some m.cls := hown
  have ef : entryFrame m #[(.int p1)] 1 = mkF m 0 #[.val (.int p1)] [] := by first | (simp [entryFrame, mkF, argsToLocals, Value.category]; done) | rfl
  rw [ef]
  refine o_iloadN (pc' := 1) X0 hx (hb hby d2_0) rfl rfl ?_
  refine o_bipush (v := (64 : Int32)) (pc' := 3) X0 hx (hb hby d2_1) (by decide) rfl ?_
  refine o_icmp_ge (p1 := 6) (p2 := 24) X0 hx (hb hby d2_3) rfl (by decide) (by decide) (fun hc3 => ?_) (fun hc3 => ?_)
  · refine o_iloadN (pc' := 25) X0 hx (hb hby d2_24) rfl rfl ?_
    refine o_sipush (v := (128 : Int32)) (pc' := 28) X0 hx (hb hby d2_25) (by decide) rfl ?_
    refine o_icmp_ge (p1 := 31) (p2 := 52) X0 hx (hb hby d2_28) rfl (by decide) (by decide) (fun hc28 => ?_) (fun hc28 => ?_)
    · refine o_iconst (v := (0 : Int32)) (pc' := 53) X0 hx (hb hby d2_52) (by decide) rfl ?_
      exact o_retZ X0 hx hlk hret (hb hby d2_53) (by decide) ⟨by simp only [f2, if_neg hc3, if_neg hc28], rfl, e0⟩ (by decide) (by decide)
    · refine o_ldc2 (pc' := 34) (v := (5188146764422578174 : Int64)) X0 hx (hb hby d2_31) hZ hown (hw _ (List.mem_of_getElem? (i := 9) rfl)) rfl ?_
      refine o_iloadN (pc' := 35) X0 hx (hb hby d2_34) rfl rfl ?_
      refine o_bipush (v := (64 : Int32)) (pc' := 37) X0 hx (hb hby d2_35) (by decide) rfl ?_
      refine o_isub (pc' := 38) X0 hx (hb hby d2_37) rfl ?_
      refine o_lushr (pc' := 39) X0 hx (hb hby d2_38) rfl ?_
      refine o_lconst (v := (1 : Int64)) (pc' := 40) X0 hx (hb hby d2_39) (by decide) rfl ?_
      refine o_land (pc' := 41) X0 hx (hb hby d2_40) rfl ?_
      refine o_lconst (v := (0 : Int64)) (pc' := 42) X0 hx (hb hby d2_41) (by decide) rfl ?_
      refine o_lcmp_eq (p1 := 46) (p2 := 50) X0 hx (hb hby d2_42) (hb hby d2_43) rfl (by decide) (by decide) (fun hc42 => ?_) (fun hc42 => ?_)
      · refine o_iconst (v := (0 : Int32)) (pc' := 51) X0 hx (hb hby d2_50) (by decide) rfl ?_
        exact o_retZ X0 hx hlk hret (hb hby d2_51) (by decide) ⟨by simp only [f2, if_neg hc3, if_pos hc28, if_pos hc42], rfl, e0⟩ (by decide) (by decide)
      · refine o_iconst (v := (1 : Int32)) (pc' := 47) X0 hx (hb hby d2_46) (by decide) rfl ?_
        refine o_goto (pc' := 51) X0 hx (hb hby d2_47) (by decide) (by decide) ?_
        exact o_retZ X0 hx hlk hret (hb hby d2_51) (by decide) ⟨by simp only [f2, if_neg hc3, if_pos hc28, if_neg hc42], rfl, e0⟩ (by decide) (by decide)
  · refine o_ldc2 (pc' := 9) (v := (288054454291267584 : Int64)) X0 hx (hb hby d2_6) hZ hown (hw _ (List.mem_of_getElem? (i := 8) rfl)) rfl ?_
    refine o_iloadN (pc' := 10) X0 hx (hb hby d2_9) rfl rfl ?_
    refine o_lushr (pc' := 11) X0 hx (hb hby d2_10) rfl ?_
    refine o_lconst (v := (1 : Int64)) (pc' := 12) X0 hx (hb hby d2_11) (by decide) rfl ?_
    refine o_land (pc' := 13) X0 hx (hb hby d2_12) rfl ?_
    refine o_lconst (v := (0 : Int64)) (pc' := 14) X0 hx (hb hby d2_13) (by decide) rfl ?_
    refine o_lcmp_eq (p1 := 18) (p2 := 22) X0 hx (hb hby d2_14) (hb hby d2_15) rfl (by decide) (by decide) (fun hc14 => ?_) (fun hc14 => ?_)
    · refine o_iconst (v := (0 : Int32)) (pc' := 23) X0 hx (hb hby d2_22) (by decide) rfl ?_
      exact o_retZ X0 hx hlk hret (hb hby d2_23) (by decide) ⟨by simp only [f2, if_pos hc3, if_pos hc14], rfl, e0⟩ (by decide) (by decide)
    · refine o_iconst (v := (1 : Int32)) (pc' := 19) X0 hx (hb hby d2_18) (by decide) rfl ?_
      refine o_goto (pc' := 23) X0 hx (hb hby d2_19) (by decide) (by decide) ?_
      exact o_retZ X0 hx hlk hret (hb hby d2_23) (by decide) ⟨by simp only [f2, if_pos hc3, if_neg hc14], rfl, e0⟩ (by decide) (by decide)

theorem own_eq (x v : Int32) (hv : x.toUInt32.toUInt16.toUInt32.toInt32 = v) : f1 v = f2 v := by
  have hr := c_i2c x
  rw [hv] at hr
  obtain ⟨-, h0, h1⟩ := hr
  by_cases hb : v.toInt < 128
  · have key : ∀ n : Fin 128, f1 (Int32.ofInt (n.val : Int)) = f2 (Int32.ofInt (n.val : Int)) := by decide +kernel
    have hk := key ⟨v.toInt.toNat, by omega⟩
    rw [show ((⟨v.toInt.toNat, by omega⟩ : Fin 128).val : Int) = v.toInt from Int.toNat_of_nonneg h0, Int32.ofInt_toInt] at hk
    exact hk
  · have lt : ∀ k : Int32, k.toInt < 128 → k < v := fun k hk => Int32.lt_iff_toInt_lt.mpr (by omega)
    have nl : ∀ k : Int32, k.toInt ≤ 128 → ¬ v < k := fun k hk q => by have := Int32.lt_iff_toInt_lt.mp q; omega
    have ne : ∀ k : Int32, k.toInt < 128 → ¬ v = k := fun k hk q => by subst q; omega
    simp only [f1, f2, if_neg (nl 97 (by decide)), if_pos (lt 122 (by decide)), if_neg (nl 65 (by decide)), if_pos (lt 90 (by decide)), if_neg (nl 48 (by decide)), if_pos (lt 57 (by decide)), if_neg (ne 45 (by decide)), if_neg (ne 46 (by decide)), if_neg (ne 95 (by decide)), if_neg (ne 126 (by decide)), if_neg (nl 64 (by decide)), if_neg (nl 128 (by decide))]
abbrev Q0 (Z : State) (p1 : Int32) (h0 : Heap) (v : Option Value) (h : Heap) (L : List Loc) : Prop := v = some (.int (1 : Int32)) ∧ Fr h0.size L
set_option maxRecDepth 65536 in
set_option maxHeartbeats 40000000 in
theorem rm0 (l : Launch) (Z : State) (a0 : Array Value) (hw : ∀ d ∈ tables_1, d.before a0 Z = true) (p1 : Int32) (h0 : Heap)  :
    Con l Z x code maxLocals ret room_1 #[(.int p1)] h0 (Q0 Z p1 h0) := by
  refine Con.of pn_0 (fun p e s m below meth c T0 X0 hx hby hml hret hlk hown hnm hZ e0 => ?_)
  replace hown : s.vm.findClass "com/example/burst/burst/PercentEncodingIsUnreservedPinLaw" = some m.cls := hown
  have ef : entryFrame m #[(.int p1)] maxLocals = mkF m 0 #[.val (.int p1), .unset, .unset] [] := by first | (simp [entryFrame, mkF, argsToLocals, Value.category, maxLocals]; done) | rfl
  rw [ef]
  refine o_iloadN (pc' := 1) X0 hx (hb hby at_0) rfl rfl ?_
  refine o_i2c (pc' := 2) X0 hx (hb hby at_1) rfl ?_
  generalize hv : p1.toUInt32.toUInt16.toUInt32.toInt32 = v
  refine o_istoreN (Ls' := #[.val (.int p1), .val (.int v), .unset]) (pc' := 3) X0 hx (hb hby at_2) rfl rfl ?_
  refine o_iloadN (pc' := 4) X0 hx (hb hby at_3) rfl rfl ?_
  refine o_istoreN (Ls' := #[.val (.int p1), .val (.int v), .val (.int v)]) (pc' := 5) X0 hx (hb hby at_4) rfl rfl ?_
  refine o_iloadN (pc' := 6) X0 hx (hb hby at_5) rfl rfl ?_
  refine o_callS (W := 0) (pc' := 9) (rm := ({ frames := 0, cells := 0, slots := 0, locals := 0 } : Room)) (argsL := [(.int v)]) (rest := []) X0 hx hZ hown (hw _ (List.mem_of_getElem? (i := 0) rfl)) (hw _ (List.mem_of_getElem? (i := 1) rfl)) (hw _ (List.mem_of_getElem? (i := 2) rfl)) (hw _ (List.mem_of_getElem? (i := 3) rfl)) (by decide) e0 (rm1 l Z a0 hw v h0) (by rw [hml]; rfl) pd_1 rfl rfl (hb hby at_6) rfl (by decide) rfl (by decide) (by decide) (by decide) ?_
  rintro _ T6 L6 ⟨rfl, rfl, e6⟩ X6
  show Ends p e below s (Q0 Z p1 h0) room_1.cells room_1.slots (T6.setTop (mkF m 9 #[.val (.int p1), .val (.int v), .val (.int v)] [(.int (f1 v))]))
  refine o_iloadN (pc' := 10) X6 hx (hb hby at_9) rfl rfl ?_
  refine o_callS (W := 1) (pc' := 13) (rm := ({ frames := 0, cells := 0, slots := 0, locals := 0 } : Room)) (argsL := [(.int v)]) (rest := [(.int (f1 v))]) X6 hx hZ hown (hw _ (List.mem_of_getElem? (i := 4) rfl)) (hw _ (List.mem_of_getElem? (i := 5) rfl)) (hw _ (List.mem_of_getElem? (i := 6) rfl)) (hw _ (List.mem_of_getElem? (i := 7) rfl)) (by decide) e6 (rm2 l Z a0 hw v h0) (by rw [hml]; rfl) pd_2 rfl rfl (hb hby at_10) rfl (by decide) rfl (by decide) (by decide) (by decide) ?_
  rintro _ T10 L10 ⟨rfl, rfl, e10⟩ X10
  show Ends p e below s (Q0 Z p1 h0) room_1.cells room_1.slots (T10.setTop (mkF m 13 #[.val (.int p1), .val (.int v), .val (.int v)] [(.int (f2 v)), (.int (f1 v))]))
  refine o_icmp_ne (p1 := 16) (p2 := 20) X10 hx (hb hby at_13) rfl (by decide) (by decide) (fun hc13 => ?_) (fun hc13 => ?_)
  · exact absurd (own_eq p1 v hv) hc13
  · refine o_iconst (v := (1 : Int32)) (pc' := 17) X10 hx (hb hby at_16) (by decide) rfl ?_
    refine o_goto (pc' := 21) X10 hx (hb hby at_17) (by decide) (by decide) ?_
    exact o_retZ X10 hx hlk hret (hb hby at_21) (by decide) ⟨rfl, Fr.nil _⟩ (by decide) (by decide)
set_option maxRecDepth 65536 in
set_option maxHeartbeats 40000000 in
theorem comes_1 {Post : Tables → Env → Array Value → State → Outcome → State → Prop} (hpost : ∀ tb e args s v u, (limb_1_1.after args s (.returned v) u = true ∧ limb_1_2.after args s (.returned v) u = true ∧ True) → FrameEnd s (.returned v) u (Jvm.fieldLocs frame_1_writes args s ++ Jvm.arrayLocs frame_1_arrays args s ++ Jvm.staticLocs frame_1_statics s) 0 0 → Post tb e args s (.returned v) u) :
    ArmFor flags0 classFile x code maxLocals ret World_1 tables_1 room_1 Calls_1 rest_1 Pre_1 Post := by
  intro l hfl _ _ p e ha hc hk s m args below hf hA hF happ hP
  obtain ⟨hcalls, hrest, hpre⟩ := hP
  obtain ⟨-, -, -, hnamed, -, -, -, hat⟩ := (Spec.applies_iff hf).mp happ
  obtain ⟨hg, hn⟩ := and_e (Cond.before_iff.mp (show (Jvm.Cond.and given_1 narrow_1).before args s = true from hpre))
  obtain ⟨g0, gr0⟩ := and_e hg
  obtain ⟨w0, rfl⟩ : ∃ w0 : Value, args = #[w0] := by
    have hs : args.size = 1 := by simpa [Cond.value, given_1] using g0
    obtain ⟨L⟩ := args
    match L, hs with
    | [w0], _ => exact ⟨w0, rfl⟩
  have hw := fun d (hd : d ∈ tables_1) => atoms_spec (ws := Jvm.Cond.code x code maxLocals ret :: tables_1) hat d (List.mem_cons_of_mem _ hd)
  have hfit : Fit s := fun {y c} hc i hi => by
    obtain ⟨ha, rfl⟩ := Array.getElem?_eq_some_iff.mp hc
    have q := List.all_eq_true.mp ((Array.all_eq_true_iff_forall_mem.mp hF) _ (Array.getElem_mem ha)) i (List.mem_range.mpr hi)
    simpa [Array.getElem?_eq_getElem hi] using q
  obtain ⟨i0, ei0⟩ := is_v gr0
  obtain rfl : w0 = (.int i0) := Option.some.inj ei0
  obtain ⟨n, o, h1, h2, h3, _, L, rfl, ⟨rfl, N⟩, hq⟩ := rm0 l s _ hw i0 s.heap tables_1 p e ha hc hk s m _ below hf ((Spec.applies_iff_loose hf).mp happ).1 ⟨rfl, State.Warmed39.refl s, rfl⟩ trivial
  refine ⟨n, _, h1, h2, h3, hpost _ _ _ _ _ _ ⟨Cond.after_iff.mpr rfl, Cond.after_iff.mpr (eq_i res_at (Term.int_eval (1)) rfl), trivial⟩ ⟨hq.1, hq.2.1, (hq.2.2.sift fun y hy => Or.inr (N y hy)).mono (by decide) (by decide)⟩⟩
theorem main_1_1 : Claimed_1_1 := comes_1 fun _ _ _ _ _ _ h hF => ⟨h.1, hF⟩
theorem main_1_2 : Claimed_1_2 := comes_1 fun _ _ _ _ _ _ h hF => ⟨h.2.1, hF⟩
end Jvm.Pilot.@@N@@
namespace Jvm.Pilot.@@N@@
open Jvm Jvm.ClassFile Sem Op Lib Jvm.Free Jvm.Stand Jvm.Pilot.@@N@@.Jvm.D
/-! MADE BY PROGRAM (witnessworld.py) out of the Statement's table words and the real class files: 9 classes; the members and pool entries that the words name. The judged class is class 1, her method 2. -/
namespace start1
open Jvm.ClassFile
def u (s : String) : CpInfo := .utf8 (stringToUtf16 s)
/-- a pool by its gaps: so many unusable entries, then the entry; so many at the end -/
def gap : Nat → List CpInfo → List CpInfo
  | 0, r => r
  | n + 1, r => .unusable :: gap n r
def poolList (es : List (Nat × CpInfo)) (last : Nat) : List CpInfo := es.foldr (fun e r => gap e.1 (e.2 :: r)) (gap last [])
def pool (es : List (Nat × CpInfo)) (last : Nat) : Array CpInfo := ⟨poolList es last⟩
def fileOf (pool : Array CpInfo) (this : Nat) (attrs : Array Attribute := #[]) (ms : Array MethodInfo := #[]) (fl : Nat := 33) (sup : Nat := 0) (ifs : Array Nat := #[]) (fds : Array FieldInfo := #[]) : ClassFile where
  minorVersion := 0
  majorVersion := 65
  constantPool := pool
  accessFlags := fl
  thisClass := this
  superClass := sup
  interfaces := ifs
  fields := fds
  methods := ms
  attributes := attrs
def plain (name : String) (sup : Option ClassId) : Class where
  name := name
  kind := .ordinary
  loader := none
  accessFlags := 33
  super := sup
  interfaces := #[]
  cf := none
  fields := #[]
  methods := #[]
  instanceTypes := #[]
  staticTypes := #[]
  resolved := #[]
  callSites := []
  init := .initialized
  statics := none
  mirror := none

def pool0 : Array CpInfo := pool [(5, u "<init>"), (0, u "()V"), (1, .class_ 10), (1, u "java/lang/Object")] 113

def k0m0 : Method := { name := "<init>", desc := "()V", sig := { parameters := [], returnType := none }, accessFlags := 1, code := none }
/-- java/lang/Object -/
def k0 : Class := { plain "java/lang/Object" none with
  accessFlags := 33
  interfaces := #[]
  cf := some (fileOf pool0 8 #[] #[{ accessFlags := 1, nameIndex := 5, descriptorIndex := 6, attributes := #[] }] 33 0 #[] #[])
  fields := #[]
  methods := #[k0m0]
  instanceTypes := #[]
  staticTypes := #[]
  resolved := Array.replicate 124 none
  statics := none }

def pool1 : Array CpInfo := pool [(2, .class_ 4), (1, u "java/lang/Object"), (0, u "<init>"), (0, u "()V"), (0, .class_ 8), (0, u "com/example/burst/burst/PercentEncodingIsUnreservedPinLaw"), (0, .long 288054454291267584), (1, .long 5188146764422578174), (1, .methodref 14 15), (0, .class_ 16), (0, .nameAndType 17 18), (0, u "com/example/burst/burst/PercentEncoding"), (0, u "isUnreserved"), (0, u "(C)Z"), (0, .methodref 7 20), (0, .nameAndType 21 22), (0, u "expected"), (0, u "(I)Z"), (0, u "LOW"), (0, u "J"), (1, u "HIGH"), (3, u "law")] 2

def k1m0 : Method := { name := "<init>", desc := "()V", sig := { parameters := [], returnType := none }, accessFlags := 2, code := none }
def k1c1 : Code := { maxStack := 4, maxLocals := 1, code := method_2_code, exceptionTable := #[], attributes := #[] }
def k1m1 : Method := { name := "expected", desc := "(I)Z", sig := { parameters := [.int], returnType := some .boolean }, accessFlags := 10, code := some k1c1 }
def k1c2 : Code := { maxStack := 2, maxLocals := 3, code := code, exceptionTable := #[], attributes := #[] }
def k1m2 : Method := { name := "law", desc := "(I)Z", sig := { parameters := [.int], returnType := some .boolean }, accessFlags := 9, code := some k1c2 }
/-- com/example/burst/burst/PercentEncodingIsUnreservedPinLaw -/
def k1 : Class := { plain "com/example/burst/burst/PercentEncodingIsUnreservedPinLaw" (some 0) with
  accessFlags := 49
  interfaces := #[]
  cf := some (fileOf pool1 7 #[] #[{ accessFlags := 2, nameIndex := 5, descriptorIndex := 6, attributes := #[] }, { accessFlags := 10, nameIndex := 21, descriptorIndex := 22, attributes := #[] }, { accessFlags := 9, nameIndex := 30, descriptorIndex := 22, attributes := #[] }] 49 2 #[] #[{ accessFlags := 26, nameIndex := 23, descriptorIndex := 24, attributes := #[] }, { accessFlags := 26, nameIndex := 26, descriptorIndex := 24, attributes := #[] }])
  fields := #[{ name := "LOW", type := .long, accessFlags := 26, slot := 0, constantValue := 0 }, { name := "HIGH", type := .long, accessFlags := 26, slot := 1, constantValue := 0 }]
  methods := #[k1m0, k1m1, k1m2]
  instanceTypes := #[]
  staticTypes := #[.long, .long]
  resolved := Array.replicate 33 none
  statics := none }

def pool2 : Array CpInfo := pool [(2, .class_ 4), (1, u "java/lang/Object"), (0, u "<init>"), (0, u "()V"), (22, .class_ 31), (1, u "com/example/burst/burst/PercentEncoding"), (0, u "isUnreserved"), (0, u "(C)Z"), (14, u "HEX"), (0, u "[C")] 131

def k2m0 : Method := { name := "<init>", desc := "()V", sig := { parameters := [], returnType := none }, accessFlags := 2, code := none }
def k2c1 : Code := { maxStack := 2, maxLocals := 1, code := prog_29_method_4_code, exceptionTable := #[], attributes := #[] }
def k2m1 : Method := { name := "isUnreserved", desc := "(C)Z", sig := { parameters := [.char], returnType := some .boolean }, accessFlags := 8, code := some k2c1 }
/-- com/example/burst/burst/PercentEncoding -/
def k2 : Class := { plain "com/example/burst/burst/PercentEncoding" (some 0) with
  accessFlags := 48
  interfaces := #[]
  cf := some (fileOf pool2 29 #[] #[{ accessFlags := 2, nameIndex := 5, descriptorIndex := 6, attributes := #[] }, { accessFlags := 8, nameIndex := 32, descriptorIndex := 33, attributes := #[] }] 48 2 #[] #[{ accessFlags := 26, nameIndex := 48, descriptorIndex := 49, attributes := #[] }])
  fields := #[{ name := "HEX", type := (.array .char), accessFlags := 26, slot := 0, constantValue := 0 }]
  methods := #[k2m0, k2m1]
  instanceTypes := #[]
  staticTypes := #[(.array .char)]
  resolved := Array.replicate 181 none
  statics := none }

def pool3 : Array CpInfo := pool [(1, u "java/lang/Cloneable"), (0, .class_ 1), (0, u "java/lang/Object"), (0, .class_ 3)] 3

/-- java/lang/Cloneable -/
def k3 : Class := { plain "java/lang/Cloneable" (some 0) with
  accessFlags := 1537
  interfaces := #[]
  cf := some (fileOf pool3 2 #[] #[] 1537 4 #[] #[])
  fields := #[]
  methods := #[]
  instanceTypes := #[]
  staticTypes := #[]
  resolved := Array.replicate 8 none
  statics := none }

def pool4 : Array CpInfo := pool [(1, u "java/io/Serializable"), (0, .class_ 1), (0, u "java/lang/Object"), (0, .class_ 3)] 3

/-- java/io/Serializable -/
def k4 : Class := { plain "java/io/Serializable" (some 0) with
  accessFlags := 1537
  interfaces := #[]
  cf := some (fileOf pool4 2 #[] #[] 1537 4 #[] #[])
  fields := #[]
  methods := #[]
  instanceTypes := #[]
  staticTypes := #[]
  resolved := Array.replicate 8 none
  statics := none }

/-- the primitive byte -/
def k5 : Class := { plain "byte" none with kind := .primitive 'B', accessFlags := 0x411 }
/-- [B -/
def k6 : Class := { plain "[B" (some 0) with kind := .array 5 .byte, interfaces := #[3, 4], accessFlags := 1041 }

/-- the primitive int -/
def k7 : Class := { plain "int" none with kind := .primitive 'I', accessFlags := 0x411 }
/-- [I -/
def k8 : Class := { plain "[I" (some 0) with kind := .array 7 .int, interfaces := #[3, 4], accessFlags := 1041 }

def heap : Heap := #[]
def classes : Array Class := #[k0, k1, k2, k3, k4, k5, k6, k7, k8]
def interned : List (Array UInt16 × Addr) := []
def slotsUsed : Nat := 0
def theMethod : MethodId := ⟨1, 2⟩
def args0 : Array Value := #[.int 5]
def aboutOver (below : List Frame) : State where
  vm := { classes := classes, interned := interned.toArray }
  heap := heap
  slotsUsed := slotsUsed
  threads := #[{ frames := .invoking theMethod args0 :: below }]
def below0 : List Frame := [.native { method := ⟨0, 0⟩, args := #[] }]
def about1 : State := aboutOver below0
def p0 : Program := .bare "" "" ""
def e0 : Env := launch0.env 0 0 0
theorem w_frames : about1.frames = Frame.invoking theMethod args0 :: below0 := rfl
set_option maxRecDepth 65536 in
theorem w_args : argsFit about1.vm theMethod args0 = true := by decide +kernel
set_option maxRecDepth 65536 in
theorem w_heap : heapFits about1 = true := by decide +kernel
set_option maxRecDepth 65536 in
theorem w_runnable : about1.curStatus? = some .runnable := by decide +kernel
set_option maxRecDepth 65536 in
theorem w_alone : about1.alone = true := by decide +kernel
set_option maxRecDepth 65536 in
theorem w_named : about1.methodNamed? x = some theMethod := by decide +kernel
set_option maxRecDepth 65536 in
theorem w_hears : about1.hears theMethod below0 = true := by decide +kernel
set_option maxRecDepth 65536 in
theorem w_ripe : about1.ripe theMethod args0 below0 = true := by decide +kernel
theorem w_running : about1.status = .running := rfl
set_option maxRecDepth 65536 in
theorem w_room : about1.hasRoom e0.platform room_1 = true :=
  launch0.hasRoom_least _ room_1 (by decide +kernel) (by decide +kernel) (by decide +kernel) (by decide +kernel) (by decide +kernel) (by decide +kernel)
theorem allAtoms_all (ts : List Jvm.Cond) (a : Array Jvm.Value) (st : Jvm.State) : (allAtoms ts).before a st = ts.all (fun c => c.before a st) := by
  induction ts with
  | nil => rfl
  | cons c t ih =>
    show (Jvm.Cond.and c (allAtoms t)).before a st = _
    rw [Jvm.Cond.before_and, ih, List.all_cons]
def words1 : List Jvm.Cond := Jvm.Cond.code x code maxLocals ret :: tables_1
/-- a 'code' word, met by the world's own term for the bytes: nothing is compared byte by byte -/
theorem code_word {y : MethodName} {bytes : ByteArray} {mx : Nat} {rt : Option FieldType} {a : Array Value} {s : State} {m : MethodId} {meth : Method} {c : Code} (h1 : s.methodNamed? y = some m) (h2 : s.vm.method? m = some meth) (h3 : meth.code = some c) (h4 : c.code = bytes)
    (h5 : (c.maxLocals == mx && c.exceptionTable.isEmpty && decide (c.maxStack ≤ mostOperands) && decide (meth.sig.returnType = rt) && !meth.locks && decide (parseMethodDescriptor y.desc = some meth.sig)) = true) : (Jvm.Cond.code y bytes mx rt).before a s = true := by
  simp only [Bool.and_eq_true, beq_iff_eq, Bool.not_eq_true', decide_eq_true_eq] at h5
  obtain ⟨⟨⟨⟨⟨g1, g2⟩, g3⟩, g4⟩, g5⟩, g6⟩ := h5
  simp [Cond.before, Cond.holds, Cond.value, h1, h2, h3, h4, g1, g2, g3, g4, g5, g6]
def isCode : Jvm.Cond → Bool
  | .code _ _ _ _ => true
  | _ => false
theorem all_split {L : List Jvm.Cond} {P : Jvm.Cond → Bool} (h1 : L.all (fun c => isCode c || P c) = true) (h2 : ∀ c ∈ L.filter isCode, P c = true) : L.all P = true := by
  refine List.all_eq_true.mpr fun c hc => ?_
  have h := List.all_eq_true.mp h1 c hc
  rcases Bool.eq_false_or_eq_true (isCode c) with hi | hi
  · exact h2 c (List.mem_filter.mpr ⟨hc, hi⟩)
  · simpa [hi] using h
set_option maxRecDepth 65536 in
theorem w_c0 : (Jvm.Cond.code x code maxLocals ret).before args0 about1 = true := code_word (m := ⟨1, 2⟩) (meth := k1m2) (c := k1c2) (by decide +kernel) rfl rfl rfl (by decide +kernel)
set_option maxRecDepth 65536 in
theorem w_c1 : (Jvm.Cond.code ({ cls := "com/example/burst/burst/PercentEncoding", name := "isUnreserved", desc := "(C)Z" } : Jvm.MethodName) prog_29_method_4_code (1 : Nat) (Option.some Jvm.ClassFile.FieldType.boolean)).before args0 about1 = true := code_word (m := ⟨2, 1⟩) (meth := k2m1) (c := k2c1) (by decide +kernel) rfl rfl rfl (by decide +kernel)
set_option maxRecDepth 65536 in
theorem w_c2 : (Jvm.Cond.code ({ cls := "com/example/burst/burst/PercentEncodingIsUnreservedPinLaw", name := "expected", desc := "(I)Z" } : Jvm.MethodName) method_2_code (1 : Nat) (Option.some Jvm.ClassFile.FieldType.boolean)).before args0 about1 = true := code_word (m := ⟨1, 1⟩) (meth := k1m1) (c := k1c1) (by decide +kernel) rfl rfl rfl (by decide +kernel)
def codes1 : List Jvm.Cond := [Jvm.Cond.code x code maxLocals ret, Jvm.Cond.code ({ cls := "com/example/burst/burst/PercentEncoding", name := "isUnreserved", desc := "(C)Z" } : Jvm.MethodName) prog_29_method_4_code (1 : Nat) (Option.some Jvm.ClassFile.FieldType.boolean), Jvm.Cond.code ({ cls := "com/example/burst/burst/PercentEncodingIsUnreservedPinLaw", name := "expected", desc := "(I)Z" } : Jvm.MethodName) method_2_code (1 : Nat) (Option.some Jvm.ClassFile.FieldType.boolean)]
set_option maxRecDepth 65536 in
theorem codes_eq : words1.filter isCode = codes1 := rfl
theorem w_codes : ∀ c ∈ words1.filter isCode, c.before args0 about1 = true := by
  rw [codes_eq]
  intro c hc
  simp only [codes1, List.mem_cons, List.not_mem_nil, or_false] at hc
  rcases hc with rfl | rfl | rfl
  · exact w_c0
  · exact w_c1
  · exact w_c2
set_option maxRecDepth 65536 in
theorem w_t1 : words1.all (fun c => isCode c || c.before args0 about1) = true := by decide +kernel
theorem w_tables : (allAtoms (Jvm.Cond.code x code maxLocals ret :: tables_1)).before args0 about1 = true := by
  rw [allAtoms_all]
  show words1.all (fun c => c.before args0 about1) = true
  refine all_split ?_ w_codes
  rw [w_t1]
set_option maxRecDepth 65536 in
theorem w_case : (Jvm.Cond.and given_1 narrow_1).before args0 about1 = true := by decide +kernel
theorem w_applies : (headSpec (Jvm.Cond.code x code maxLocals ret :: tables_1) room_1).applies x e0.platform about1 = true :=
  (Spec.applies_iff w_frames).mpr ⟨w_running, w_runnable, w_alone, w_named, w_hears, w_ripe, w_room, w_tables⟩
theorem atStart : AtStart classFile x code maxLocals ret World_1 tables_1 room_1 Calls_1 rest_1 Pre_1 launch0 p0 e0 about1 theMethod args0 below0 :=
  ⟨lists_1, trivial, launch0.admits_env _ _ _, launch0.least_env, fairChoices_fair.cas, fairChoices_fair.clock, w_frames, w_args, w_heap, w_applies, trivial, trivial, w_case⟩
end start1
theorem witness_1 : WitnessClaimed_1 := ⟨start1.p0, start1.e0, start1.about1, start1.theMethod, start1.args0, start1.below0, start1.atStart⟩
end Jvm.Pilot.@@N@@
