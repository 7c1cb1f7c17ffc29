import JvmDerived
import JvmDerived.Pilot.@@N@@Statement
import JvmDerived.Pilot.@@N@@Code
set_option linter.unusedVariables false
set_option linter.unusedSimpArgs false

namespace Jvm.Pilot.@@N@@
open Jvm Jvm.ClassFile Sem Op Lib Jvm.Free Jvm.Stand Jvm.LawKit Jvm.RoadKit Bundle Jvm.Pilot.@@N@@.Jvm.D
/-- from the state S the invocation runs to its end and Q holds there -/
def Ends (p : Program) (e : Env) (below : List Frame) (s : State) (Q : Option Value → Heap → List Loc → Prop) (K N : Nat) (S : State) : Prop :=
  ∃ s₂ o, Steps p.tables e below S s₂ ∧ s₂.status = .running ∧ Ended s₂ below o ∧ ∃ v L, o = .returned v ∧ Q v s₂.heap L ∧ FrameEnd s o s₂ L K N
/-- a method's contract at given arguments and heap -/
def Con (l : Launch) (Z : State) (y : MethodName) (bytes : ByteArray) (maxL : Nat) (rt : Option FieldType) (rm : Room) (as' : Array Value) (h0 : Heap) (Q : Option Value → Heap → List Loc → Prop) : Prop :=
  ∀ ws, MetFree l y (head1 (Jvm.Cond.code y bytes maxL rt :: ws) rm) (fun a U => a = as' ∧ Z.Warmed39 U.vm ∧ U.heap = h0) (fun _ _ _ _ _ => True) (fun _ U o U' => ∃ v L, o = .returned v ∧ Q v U'.heap L ∧ FrameEnd U o U' L rm.cells rm.slots)
section Own
variable {p : Program} {l : Launch} {e : Env} {R : Room} {s : State} {m : MethodId} {args : Array Value} {below : List Frame} {meth : Method} {c : Code} {T : State} {locs : List Loc} {cells slots : Nat} {Q : Option Value → Heap → List Loc → Prop} {K N : Nat} {pc pc' : Nat} {Ls Ls' : Array Slot} {st : List Value} {Z : State} {a0 : Array Value} {h : Heap}
theorem Ends.go {S S' : State} (g : ∀ t, Steps p.tables e below S' t → Steps p.tables e below S t) (E : Ends p e below s Q K N S') : Ends p e below s Q K N S := by
  obtain ⟨s2, o, h1, r⟩ := E; exact ⟨s2, o, g _ h1, r⟩
theorem Con.ofP {y : MethodName} {bytes : ByteArray} {maxL : Nat} {rt : Option FieldType} {rm : Room} {as' : Array Value} {h0 : Heap} (hn : plainFor y = true)
    (body : ∀ (p : Program) (e : Env) (s : State) (m : MethodId) (below : List Frame) (meth : Method) (c : Code) (T : State), Stand p l e rm s m as' below meth c T [] 0 0 → p.tables.exec = Jvm.exec → c.code = bytes → c.maxLocals = maxL → meth.sig.returnType = rt → meth.locks = false → s.vm.findClass y.cls = some m.cls → meth.name = y.name → Z.Warmed39 s.vm → T.heap = h0 →
      Ends p e below s Q rm.cells rm.slots (T.setTop (entryFrame m as' maxL))) : Con l Z y bytes maxL rt rm as' h0 Q := by
  intro ws
  refine MetFree.of_bodySF hn hisR ?_
  intro p e s m args below meth c s₁ Bd hml0 hP hK
  obtain ⟨ha, hZ, hh⟩ := hP
  subst ha
  have X0 : Stand p l e rm s m _ below meth c s₁ [] 0 0 := Stand.of_body Bd
  have e0 : s₁.heap = h0 := by rw [← hh, Bd.state]; rfl
  exact body p e s m below meth c s₁ X0 Bd.exec Bd.bytes hml0 Bd.returns (BodyLoose.notSynchronized Bd) (findClass_of_methodNamed Bd.named) (name_of_methodNamed Bd.named Bd.method).1 hZ e0
theorem Con.of {y : MethodName} {bytes : ByteArray} {maxL : Nat} {rt : Option FieldType} {rm : Room} {as' : Array Value} {h0 : Heap} (hn : plainName y.cls = true)
    (body : ∀ (p : Program) (e : Env) (s : State) (m : MethodId) (below : List Frame) (meth : Method) (c : Code) (T : State), Stand p l e rm s m as' below meth c T [] 0 0 → p.tables.exec = Jvm.exec → c.code = bytes → c.maxLocals = maxL → meth.sig.returnType = rt → meth.locks = false → s.vm.findClass y.cls = some m.cls → meth.name = y.name → Z.Warmed39 s.vm → T.heap = h0 →
      Ends p e below s Q rm.cells rm.slots (T.setTop (entryFrame m as' maxL))) : Con l Z y bytes maxL rt rm as' h0 Q := Con.ofP (plainFor_of_name hn) body
theorem o_aloadN (X : Stand p l e R s m args below meth c T locs cells slots) (hx : p.tables.exec = Jvm.exec) {k : Fin 4} {v : Value} (hd : decode c.code pc = .ok (.aload_n k, 1)) (hl : Ls[k.val]? = some (.val v)) (hv : v.isRef = true) (hp : pc + 1 = pc') (E : Ends p e below s Q K N (T.setTop (mkF m pc' Ls (v :: st)))) : Ends p e below s Q K N (T.setTop (mkF m pc Ls st)) := by
  subst hp; exact Ends.go (fun t q => XS.aloadN X.here hx rfl hd hl hv q) E
theorem o_aload (X : Stand p l e R s m args below meth c T locs cells slots) (hx : p.tables.exec = Jvm.exec) {k : Nat} {v : Value} (hd : decode c.code pc = .ok (.aload k, 2)) (hl : Ls[k]? = some (.val v)) (hv : v.isRef = true) (hp : pc + 2 = pc') (E : Ends p e below s Q K N (T.setTop (mkF m pc' Ls (v :: st)))) : Ends p e below s Q K N (T.setTop (mkF m pc Ls st)) := by
  subst hp; exact Ends.go (fun t q => XS.aload X.here hx rfl hd hl hv q) E
theorem o_iloadN (X : Stand p l e R s m args below meth c T locs cells slots) (hx : p.tables.exec = Jvm.exec) {k : Fin 4} {v : Int32} (hd : decode c.code pc = .ok (.iload_n k, 1)) (hl : Ls[k.val]? = some (.val (.int v))) (hp : pc + 1 = pc') (E : Ends p e below s Q K N (T.setTop (mkF m pc' Ls (.int v :: st)))) : Ends p e below s Q K N (T.setTop (mkF m pc Ls st)) := by
  subst hp; exact Ends.go (fun t q => XS.iloadN X.here hx rfl hd hl q) E
theorem o_iload (X : Stand p l e R s m args below meth c T locs cells slots) (hx : p.tables.exec = Jvm.exec) {k : Nat} {v : Int32} (hd : decode c.code pc = .ok (.iload k, 2)) (hl : Ls[k]? = some (.val (.int v))) (hp : pc + 2 = pc') (E : Ends p e below s Q K N (T.setTop (mkF m pc' Ls (.int v :: st)))) : Ends p e below s Q K N (T.setTop (mkF m pc Ls st)) := by
  subst hp; exact Ends.go (fun t q => XS.iload X.here hx rfl hd hl q) E
theorem o_istoreN (X : Stand p l e R s m args below meth c T locs cells slots) (hx : p.tables.exec = Jvm.exec) {k : Fin 4} {v : Int32} (hd : decode c.code pc = .ok (.istore_n k, 1)) (hl : storeLocals Ls k.val (.int v) = some Ls') (hp : pc + 1 = pc') (E : Ends p e below s Q K N (T.setTop (mkF m pc' Ls' st))) : Ends p e below s Q K N (T.setTop (mkF m pc Ls (.int v :: st))) := by
  subst hp; exact Ends.go (fun t q => XS.istoreN X.here hx rfl hd rfl hl q) E
theorem o_istore (X : Stand p l e R s m args below meth c T locs cells slots) (hx : p.tables.exec = Jvm.exec) {k : Nat} {v : Int32} (hd : decode c.code pc = .ok (.istore k, 2)) (hl : storeLocals Ls k (.int v) = some Ls') (hp : pc + 2 = pc') (E : Ends p e below s Q K N (T.setTop (mkF m pc' Ls' st))) : Ends p e below s Q K N (T.setTop (mkF m pc Ls (.int v :: st))) := by
  subst hp; exact Ends.go (fun t q => XS.istore X.here hx rfl hd rfl hl q) E
theorem o_astore (X : Stand p l e R s m args below meth c T locs cells slots) (hx : p.tables.exec = Jvm.exec) {k : Nat} {v : Value} (hd : decode c.code pc = .ok (.astore k, 2)) (hv : v.isRef = true) (hl : storeLocals Ls k v = some Ls') (hp : pc + 2 = pc') (E : Ends p e below s Q K N (T.setTop (mkF m pc' Ls' st))) : Ends p e below s Q K N (T.setTop (mkF m pc Ls (v :: st))) := by
  subst hp; exact Ends.go (fun t q => XS.astore X.here hx rfl hd rfl hv hl q) E
theorem o_iconst (X : Stand p l e R s m args below meth c T locs cells slots) (hx : p.tables.exec = Jvm.exec) {i : Int} {v : Int32} (hd : decode c.code pc = .ok (.iconst i, 1)) (hv : Int32.ofInt i = v) (hp : pc + 1 = pc') (E : Ends p e below s Q K N (T.setTop (mkF m pc' Ls (.int v :: st)))) : Ends p e below s Q K N (T.setTop (mkF m pc Ls st)) := by
  subst hp; exact Ends.go (fun t q => XS.iconst X.here hx rfl hd  (by rw [hv]; exact q)) E
theorem o_bipush (X : Stand p l e R s m args below meth c T locs cells slots) (hx : p.tables.exec = Jvm.exec) {i : Int} {v : Int32} (hd : decode c.code pc = .ok (.bipush i, 2)) (hv : (Int8.ofInt i).toInt32 = v) (hp : pc + 2 = pc') (E : Ends p e below s Q K N (T.setTop (mkF m pc' Ls (.int v :: st)))) : Ends p e below s Q K N (T.setTop (mkF m pc Ls st)) := by
  subst hp; exact Ends.go (fun t q => XS.bipush X.here hx rfl hd  (by rw [hv]; exact q)) E
theorem o_isub (X : Stand p l e R s m args below meth c T locs cells slots) (hx : p.tables.exec = Jvm.exec) {x y : Int32} (hd : decode c.code pc = .ok (.isub, 1))  (hp : pc + 1 = pc') (E : Ends p e below s Q K N (T.setTop (mkF m pc' Ls (.int (x - y) :: st)))) : Ends p e below s Q K N (T.setTop (mkF m pc Ls (.int y :: .int x :: st))) := by
  subst hp; exact Ends.go (fun t q => XS.isub X.here hx rfl hd rfl q) E
theorem o_iand (X : Stand p l e R s m args below meth c T locs cells slots) (hx : p.tables.exec = Jvm.exec) {x y : Int32} (hd : decode c.code pc = .ok (.iand, 1))  (hp : pc + 1 = pc') (E : Ends p e below s Q K N (T.setTop (mkF m pc' Ls (.int (x &&& y) :: st)))) : Ends p e below s Q K N (T.setTop (mkF m pc Ls (.int y :: .int x :: st))) := by
  subst hp; exact Ends.go (fun t q => XS.iand X.here hx rfl hd rfl q) E
theorem o_ixor (X : Stand p l e R s m args below meth c T locs cells slots) (hx : p.tables.exec = Jvm.exec) {x y : Int32} (hd : decode c.code pc = .ok (.ixor, 1))  (hp : pc + 1 = pc') (E : Ends p e below s Q K N (T.setTop (mkF m pc' Ls (.int (x ^^^ y) :: st)))) : Ends p e below s Q K N (T.setTop (mkF m pc Ls (.int y :: .int x :: st))) := by
  subst hp; exact Ends.go (fun t q => XS.ixor X.here hx rfl hd rfl q) E
theorem o_iushr (X : Stand p l e R s m args below meth c T locs cells slots) (hx : p.tables.exec = Jvm.exec) {x y : Int32} (hd : decode c.code pc = .ok (.iushr, 1))  (hp : pc + 1 = pc') (E : Ends p e below s Q K N (T.setTop (mkF m pc' Ls (.int ((x.toUInt32 >>> (y &&& 31).toUInt32).toInt32) :: st)))) : Ends p e below s Q K N (T.setTop (mkF m pc Ls (.int y :: .int x :: st))) := by
  subst hp; exact Ends.go (fun t q => XS.iushr X.here hx rfl hd rfl q) E
theorem o_irem (X : Stand p l e R s m args below meth c T locs cells slots) (hx : p.tables.exec = Jvm.exec) {x y : Int32} (hd : decode c.code pc = .ok (.irem, 1)) (hy : y ≠ 0) (hp : pc + 1 = pc') (E : Ends p e below s Q K N (T.setTop (mkF m pc' Ls (.int (x % y) :: st)))) : Ends p e below s Q K N (T.setTop (mkF m pc Ls (.int y :: .int x :: st))) := by
  subst hp; exact Ends.go (fun t q => iremM (g := mkF m pc Ls (.int y :: .int x :: st)) X hx rfl hd rfl hy q) E
theorem o_iinc (X : Stand p l e R s m args below meth c T locs cells slots) (hx : p.tables.exec = Jvm.exec) {k : Nat} {cst : Int} {v v' : Int32} (hd : decode c.code pc = .ok (.iinc k cst, 3)) (hl : Ls[k]? = some (.val (.int v))) (hv : v + Int32.ofInt cst = v') (hl' : storeLocals Ls k (.int v') = some Ls') (hp : pc + 3 = pc') (E : Ends p e below s Q K N (T.setTop (mkF m pc' Ls' st))) : Ends p e below s Q K N (T.setTop (mkF m pc Ls st)) := by
  subst hp; exact Ends.go (fun t q => XS.iinc X.here hx rfl hd hl (by rw [hv]; exact hl') q) E
theorem o_ldc (X : Stand p l e R s m args below meth c T locs cells slots) (hx : p.tables.exec = Jvm.exec) {own : String} {index : Nat} {v : Int32} (hd : decode c.code pc = .ok (.ldc index, 2)) (hZ : Z.Warmed39 s.vm) (hown : s.vm.findClass own = some m.cls) (w : (Jvm.Cond.constant own index v).before a0 Z = true) (hp : pc + 2 = pc') (E : Ends p e below s Q K N (T.setTop (mkF m pc' Ls (.int v :: st)))) : Ends p e below s Q K N (T.setTop (mkF m pc Ls st)) := by
  subst hp; exact Ends.go (fun t q => X.ldcInt hx hown (mvT hZ w) (g := mkF m pc Ls st) rfl hd t q) E
theorem o_goto (X : Stand p l e R s m args below meth c T locs cells slots) (hx : p.tables.exec = Jvm.exec) {o : Int} (hd : decode c.code pc = .ok (.goto o, 3)) (ho : 0 ≤ (pc : Int) + o) (hp : ((pc : Int) + o).toNat = pc') (E : Ends p e below s Q K N (T.setTop (mkF m pc' Ls st))) : Ends p e below s Q K N (T.setTop (mkF m pc Ls st)) :=
  Ends.go (fun t q => XS.goto X.here hx rfl (pc0 := pc) rfl hd ho hp q) E
theorem o_icmp_eq (X : Stand p l e R s m args below meth c T locs cells slots) (hx : p.tables.exec = Jvm.exec) {x y : Int32} {o : Int} {p1 p2 : Nat} (hd : decode c.code pc = .ok (.if_icmp .eq o, 3)) (hp : pc + 3 = p1) (ho : 0 ≤ (pc : Int) + o) (hp2 : ((pc : Int) + o).toNat = p2) (E1 : x = y → Ends p e below s Q K N (T.setTop (mkF m p2 Ls st))) (E2 : ¬ x = y → Ends p e below s Q K N (T.setTop (mkF m p1 Ls st))) : Ends p e below s Q K N (T.setTop (mkF m pc Ls (.int y :: .int x :: st))) := by
  subst hp
  by_cases hc : x = y
  · exact Ends.go (fun t q => XS.icmpYes X.here hx rfl (pc0 := pc) rfl hd rfl ((teq hc).1) ho hp2 q) (E1 hc)
  · exact Ends.go (fun t q => XS.icmpNo X.here hx rfl hd rfl ((feq hc).1) q) (E2 hc)
theorem o_icmp_lt (X : Stand p l e R s m args below meth c T locs cells slots) (hx : p.tables.exec = Jvm.exec) {x y : Int32} {o : Int} {p1 p2 : Nat} (hd : decode c.code pc = .ok (.if_icmp .lt o, 3)) (hp : pc + 3 = p1) (ho : 0 ≤ (pc : Int) + o) (hp2 : ((pc : Int) + o).toNat = p2) (E1 : x < y → Ends p e below s Q K N (T.setTop (mkF m p2 Ls st))) (E2 : ¬ x < y → Ends p e below s Q K N (T.setTop (mkF m p1 Ls st))) : Ends p e below s Q K N (T.setTop (mkF m pc Ls (.int y :: .int x :: st))) := by
  subst hp
  by_cases hc : x < y
  · exact Ends.go (fun t q => XS.icmpYes X.here hx rfl (pc0 := pc) rfl hd rfl ((tlt hc).1) ho hp2 q) (E1 hc)
  · exact Ends.go (fun t q => XS.icmpNo X.here hx rfl hd rfl ((flt hc).1) q) (E2 hc)
theorem o_icmp_ge (X : Stand p l e R s m args below meth c T locs cells slots) (hx : p.tables.exec = Jvm.exec) {x y : Int32} {o : Int} {p1 p2 : Nat} (hd : decode c.code pc = .ok (.if_icmp .ge o, 3)) (hp : pc + 3 = p1) (ho : 0 ≤ (pc : Int) + o) (hp2 : ((pc : Int) + o).toNat = p2) (E1 : ¬ x < y → Ends p e below s Q K N (T.setTop (mkF m p2 Ls st))) (E2 : x < y → Ends p e below s Q K N (T.setTop (mkF m p1 Ls st))) : Ends p e below s Q K N (T.setTop (mkF m pc Ls (.int y :: .int x :: st))) := by
  subst hp
  by_cases hc : x < y
  · exact Ends.go (fun t q => XS.icmpNo X.here hx rfl hd rfl ((tlt hc).2.1) q) (E2 hc)
  · exact Ends.go (fun t q => XS.icmpYes X.here hx rfl (pc0 := pc) rfl hd rfl ((flt hc).2.1) ho hp2 q) (E1 hc)
theorem o_icmp_gt (X : Stand p l e R s m args below meth c T locs cells slots) (hx : p.tables.exec = Jvm.exec) {x y : Int32} {o : Int} {p1 p2 : Nat} (hd : decode c.code pc = .ok (.if_icmp .gt o, 3)) (hp : pc + 3 = p1) (ho : 0 ≤ (pc : Int) + o) (hp2 : ((pc : Int) + o).toNat = p2) (E1 : y < x → Ends p e below s Q K N (T.setTop (mkF m p2 Ls st))) (E2 : ¬ y < x → Ends p e below s Q K N (T.setTop (mkF m p1 Ls st))) : Ends p e below s Q K N (T.setTop (mkF m pc Ls (.int y :: .int x :: st))) := by
  subst hp
  by_cases hc : y < x
  · exact Ends.go (fun t q => XS.icmpYes X.here hx rfl (pc0 := pc) rfl hd rfl ((tlt hc).2.2.1) ho hp2 q) (E1 hc)
  · exact Ends.go (fun t q => XS.icmpNo X.here hx rfl hd rfl ((flt hc).2.2.1) q) (E2 hc)
theorem o_icmp_le (X : Stand p l e R s m args below meth c T locs cells slots) (hx : p.tables.exec = Jvm.exec) {x y : Int32} {o : Int} {p1 p2 : Nat} (hd : decode c.code pc = .ok (.if_icmp .le o, 3)) (hp : pc + 3 = p1) (ho : 0 ≤ (pc : Int) + o) (hp2 : ((pc : Int) + o).toNat = p2) (E1 : ¬ y < x → Ends p e below s Q K N (T.setTop (mkF m p2 Ls st))) (E2 : y < x → Ends p e below s Q K N (T.setTop (mkF m p1 Ls st))) : Ends p e below s Q K N (T.setTop (mkF m pc Ls (.int y :: .int x :: st))) := by
  subst hp
  by_cases hc : y < x
  · exact Ends.go (fun t q => XS.icmpNo X.here hx rfl hd rfl ((tlt hc).2.2.2) q) (E2 hc)
  · exact Ends.go (fun t q => XS.icmpYes X.here hx rfl (pc0 := pc) rfl hd rfl ((flt hc).2.2.2) ho hp2 q) (E1 hc)
theorem o_if_eq (X : Stand p l e R s m args below meth c T locs cells slots) (hx : p.tables.exec = Jvm.exec) {x : Int32} {o : Int} {p1 p2 : Nat} (hd : decode c.code pc = .ok (.ifCond .eq o, 3)) (hp : pc + 3 = p1) (ho : 0 ≤ (pc : Int) + o) (hp2 : ((pc : Int) + o).toNat = p2) (E1 : x = 0 → Ends p e below s Q K N (T.setTop (mkF m p2 Ls st))) (E2 : ¬ x = 0 → Ends p e below s Q K N (T.setTop (mkF m p1 Ls st))) : Ends p e below s Q K N (T.setTop (mkF m pc Ls (.int x :: st))) := by
  subst hp
  by_cases hc : x = 0
  · exact Ends.go (fun t q => XS.ifYes X.here hx rfl (pc0 := pc) rfl hd rfl ((if0 _ _).trans ((teq hc).1)) ho hp2 q) (E1 hc)
  · exact Ends.go (fun t q => XS.ifNo X.here hx rfl hd rfl ((if0 _ _).trans ((feq hc).1)) q) (E2 hc)
theorem o_ret (X : Stand p l e R s m args below meth c T locs cells slots) (hx : p.tables.exec = Jvm.exec) {w : Value} {t : FieldType} {i : Instr} (hlk : meth.locks = false) (hret : meth.sig.returnType = some t) (hd : decode c.code pc = .ok (i, 1)) (hn : narrow t w = w)
    (hi : (i = .ireturn ∧ (t = .int ∨ t = .boolean ∨ t = .byte ∨ t = .char ∨ t = .short) ∧ ∃ z, w = .int z) ∨ (i = .lreturn ∧ t = .long ∧ ∃ z, w = .long z) ∨ (i = .dreturn ∧ t = .double ∧ ∃ z, w = .double z) ∨ (i = .freturn ∧ t = .float ∧ ∃ z, w = .float z) ∨ (i = .areturn ∧ t.isReference = true ∧ w.isRef = true))
    (hq : Q (some w) T.heap locs) (hk : cells ≤ K) (hs : slots ≤ N) : Ends p e below s Q K N (T.setTop (mkF m pc Ls (w :: st))) := by
  obtain ⟨fs, hr, hrun, hended, hW, hsame⟩ := X.leave (v := some w) (fun h => by rw [hret] at h; cases h) hlk
  exact ⟨_, _, retOut X hx hret hn hi hd hr, hrun, hended, _, _, rfl, hq, ⟨_, rfl⟩, hW, hsame.mono hk hs⟩
theorem o_retI (X : Stand p l e R s m args below meth c T locs cells slots) (hx : p.tables.exec = Jvm.exec) {z : Int32} (hlk : meth.locks = false) (hret : meth.sig.returnType = some .int) (hd : decode c.code pc = .ok (.ireturn, 1)) (hq : Q (some (.int z)) T.heap locs) (hk : cells ≤ K) (hs : slots ≤ N) : Ends p e below s Q K N (T.setTop (mkF m pc Ls (.int z :: st))) :=
  o_ret X hx hlk hret hd rfl (Or.inl ⟨rfl, Or.inl rfl, _, rfl⟩) hq hk hs
theorem o_retZ (X : Stand p l e R s m args below meth c T locs cells slots) (hx : p.tables.exec = Jvm.exec) {z : Int32} (hlk : meth.locks = false) (hret : meth.sig.returnType = some .boolean) (hd : decode c.code pc = .ok (.ireturn, 1)) (hz : z &&& 1 = z) (hq : Q (some (.int z)) T.heap locs) (hk : cells ≤ K) (hs : slots ≤ N) : Ends p e below s Q K N (T.setTop (mkF m pc Ls (.int z :: st))) :=
  o_ret X hx hlk hret hd (by show Value.int (z &&& 1) = _; rw [hz]) (Or.inl ⟨rfl, Or.inr (Or.inl rfl), _, rfl⟩) hq hk hs
theorem o_callS (X : Stand p l e R s m args below meth c T locs cells slots) (hx : p.tables.exec = Jvm.exec) (hZ : Z.Warmed39 s.vm) {own : String} {index : Nat} {y : MethodName} {bytes : ByteArray} {maxL : Nat} {rt : Option FieldType} {rm : Room} {argsL rest : List Value} {Q' : Option Value → Heap → List Loc → Prop} {ps : List FieldType} {pr : Option FieldType} (hown : s.vm.findClass own = some m.cls) (w1 : (Jvm.Cond.methodLink own index y).before a0 Z = true) (w2 : (Jvm.Cond.static y).before a0 Z = true) (w3 : (Jvm.Cond.initialized y.cls).before a0 Z = true) (w4 : (Jvm.Cond.code y bytes maxL rt).before a0 Z = true)
    (hy : y.cls ≠ "java/lang/invoke/MethodHandle" ∧ y.cls ≠ "java/lang/invoke/VarHandle") (eT : T.heap = h) (hM : Con l Z y bytes maxL rt rm argsL.toArray h Q') (hsz : Ls.size = c.maxLocals) (hpd : parseMethodDescriptor y.desc = some ⟨ps, pr⟩) (hlen : argsL.length = ps.length) (hst : st = argsL.reverse ++ rest) (hd : decode c.code pc = .ok (.invokestatic index, 3)) (hp : pc + 3 = pc')
    {W : Nat} (hf : rm.frames + 1 ≤ R.frames) (hW : (rest.map fun v => v.category).sum = W) (hl : W + (maxL + 11) + rm.locals ≤ R.locals) (hc : cells + rm.cells ≤ R.cells) (hs : slots + rm.slots ≤ R.slots)
    (E : ∀ (v : Option Value) (T' : State) (L : List Loc), Q' v T'.heap L → Stand p l e R s m args below meth c T' (locs ++ L) (cells + rm.cells) (slots + rm.slots) → Ends p e below s Q K N (T'.setTop (mkF m pc' Ls (v.toList ++ rest)))) : Ends p e below s Q K N (T.setTop (mkF m pc Ls st)) := by
  subst hp hst
  obtain ⟨v, _, ⟨T2, L2, k2, n2⟩, -, X2, ⟨Lc2, hQ2, l2, y2, z2⟩, st2⟩ := Jvm.LawKit.callS X hx (y := y) hown (mvT hZ w1) (mvT hZ w2) (mvT hZ w3) (mvT hZ w4) hy (backOf (W := W) (hM []) hZ w4 w3 hf hl) (g := mkF m pc Ls (argsL.reverse ++ rest)) rfl hsz (argsL := argsL) (rest := rest) (lenOf hpd hlen) rfl (by show 2 * 0 + _ ≤ _; omega) hd (fun _ _ => ⟨rfl, eT, hc, hs⟩)
  dsimp only [Pt.U, Pt.locs, Pt.cells, Pt.slots] at X2 l2 y2 z2 st2 hQ2
  subst l2 y2 z2
  exact Ends.go st2 (E v T2 Lc2 hQ2 X2)
theorem o_newarr (X : Stand p l e R s m args below meth c T locs cells slots) (hx : p.tables.exec = Jvm.exec) (hZ : Z.Warmed39 s.vm) {aty : ArrayType} {n : Int32} {cap : Nat} (w : (Jvm.Cond.arrayClass (newarray.typeOf aty)).before a0 Z = true) (eT : T.heap = h) (hd : decode c.code pc = .ok (.newarray aty, 2)) (hp : pc + 2 = pc') (hn : ¬ n < 0) (hcap : n.toNatClampNeg ≤ cap) (hb : cap * 8 ≤ 536870912) (hc : cells + 1 ≤ R.cells) (hl : slots + cap ≤ R.slots)
    (E : ∀ T' h' cA a, a = h.size → T'.heap = h' → Ext h h' → Arr Z h' a (newA cA (newarray.typeOf aty) n) (newarray.typeOf aty) → Stand p l e R s m args below meth c T' locs (cells + 1) (slots + cap) → Ends p e below s Q K N (T'.setTop (mkF m pc' Ls (.ref a :: st)))) : Ends p e below s Q K N (T.setTop (mkF m pc Ls (.int n :: st))) := by
  subst hp
  obtain ⟨T1, h1, cA, X1, e1, E1, A1, s1⟩ := newP X hx hZ w eT (g := mkF m pc Ls (.int n :: st)) rfl hd rfl hn hcap hb hc hl
  exact Ends.go s1 (E T1 h1 cA _ rfl e1 E1 A1 X1)
theorem o_len (X : Stand p l e R s m args below meth c T locs cells slots) (hx : p.tables.exec = Jvm.exec) (hZ : Z.Warmed39 s.vm) {a : Addr} {cl : Cell} {ty : FieldType} {n : Int32} (eT : T.heap = h) (A : Arr Z h a cl ty) (hn : cl.slots.size.toInt32 = n) (hd : decode c.code pc = .ok (.arraylength, 1)) (hp : pc + 1 = pc') (E : Ends p e below s Q K N (T.setTop (mkF m pc' Ls (.int n :: st)))) : Ends p e below s Q K N (T.setTop (mkF m pc Ls (.ref a :: st))) := by
  subst hp hn
  exact Ends.go (fun t q => X.arraylength hx (by rw [eT]; exact A.1) (State.isArrayOf_alike hZ.alike A.2.1) (g := mkF m pc Ls (.ref a :: st)) rfl rfl hd _ q) E
theorem o_iaload (X : Stand p l e R s m args below meth c T locs cells slots) (hx : p.tables.exec = Jvm.exec) (hZ : Z.Warmed39 s.vm) {a : Addr} {cl : Cell} {j : Int32} {v : Value} (eT : T.heap = h) (A : Arr Z h a cl .int) (hj : ¬ (j < 0 ∨ cl.slots.size ≤ j.toNatClampNeg)) (hv : cl.slots[j.toNatClampNeg]? = some v) (hd : decode c.code pc = .ok (.iaload, 1)) (hp : pc + 1 = pc') (E : Ends p e below s Q K N (T.setTop (mkF m pc' Ls (v :: st)))) : Ends p e below s Q K N (T.setTop (mkF m pc Ls (.int j :: .ref a :: st))) := by
  subst hp
  exact Ends.go (fun t q => X.iaload hx (by rw [eT]; exact A.1) (State.isArrayOf_alike hZ.alike A.2.1) A.2.2 hj hv (g := mkF m pc Ls (.int j :: .ref a :: st)) rfl rfl hd _ q) E
theorem o_iastore (X : Stand p l e R s m args below meth c T locs cells slots) (hx : p.tables.exec = Jvm.exec) (hZ : Z.Warmed39 s.vm) {a : Addr} {cl : Cell} {j : Int32} {v : Int32} (eT : T.heap = h) (A : Arr Z h a cl .int) (hj : ¬ (j < 0 ∨ cl.slots.size ≤ j.toNatClampNeg)) (hd : decode c.code pc = .ok (.iastore, 1)) (hp : pc + 1 = pc') (E : ∀ T' h', T'.heap = h' → Wr h h' a j.toNatClampNeg (.int v) → Stand p l e R s m args below meth c T' (locs ++ [⟨a, j.toNatClampNeg⟩]) cells slots → Ends p e below s Q K N (T'.setTop (mkF m pc' Ls st))) : Ends p e below s Q K N (T.setTop (mkF m pc Ls (.int v :: .int j :: .ref a :: st))) := by
  subst hp
  obtain ⟨T1, h1, X1, e1, W1, s1⟩ := stI X hx hZ eT A hj (g := mkF m pc Ls (.int v :: .int j :: .ref a :: st)) rfl rfl hd
  exact Ends.go s1 (E T1 h1 e1 W1 X1)
def Cont (cl : Cell) (n : Nat) (g : Nat → Value) : Prop := cl.slots.size = n ∧ ∀ k, k < n → cl.slots[k]? = some (g k)
theorem Cont.new (cA : ClassId) (ty : FieldType) (z : Int32) (n : Nat) (hn : z.toNatClampNeg = n) : Cont (newA cA ty z) n (fun _ => defaultValue ty) := by
  subst hn; exact ⟨sz_new _ _ _, fun k hk => by simp [newA, hk]⟩
theorem Cont.put {cl : Cell} {n : Nat} {g : Nat → Value} (C : Cont cl n g) (j : Nat) (v : Value) : Cont (cl.setSlot j v) n (fun k => if k = j then v else g k) := by
  refine ⟨(sz_set _ _ _).trans C.1, fun k hk => ?_⟩
  by_cases q : k = j
  · subst q; simp [Cell.setSlot, C.1, hk]
  · show (cl.slots.setIfInBounds j v)[k]? = _
    rw [Array.getElem?_setIfInBounds_ne (fun r => q r.symm)]
    simp only [if_neg q]; exact C.2 k hk
theorem Cont.congr {cl : Cell} {n : Nat} {g g' : Nat → Value} (C : Cont cl n g) (q : ∀ k, k < n → g k = g' k) : Cont cl n g' := ⟨C.1, fun k hk => (C.2 k hk).trans (congrArg some (q k hk))⟩
theorem Cont.inb {cl : Cell} {n : Nat} {g : Nat → Value} (C : Cont cl n g) {j : Int32} (h0 : 0 ≤ j.toInt) (h1 : j.toInt < n) : ¬ (j < 0 ∨ cl.slots.size ≤ j.toNatClampNeg) := by
  rw [C.1]; simp only [Int32.lt_iff_toInt_lt, Int32.toNatClampNeg, Int32.reduceToInt]; omega
theorem Cont.at {cl : Cell} {n : Nat} {g : Nat → Value} (C : Cont cl n g) {j : Int32} (h0 : 0 ≤ j.toInt) (h1 : j.toInt < n) : cl.slots[j.toNatClampNeg]? = some (g j.toNatClampNeg) := C.2 _ (by simp only [Int32.toNatClampNeg]; omega)
end Own
end Jvm.Pilot.@@N@@
namespace Jvm.Pilot.@@N@@
open Jvm Jvm.ClassFile Sem Op Lib Jvm.Free Jvm.Stand Jvm.LawKit Jvm.RoadKit Bundle Jvm.Pilot.@@N@@.Jvm.D
theorem pn_0 : plainName "com/example/sugglint/sugglint/match/NamesTokenEndPinLaw" = true := by first | (simp [plainName, overriddenIn]; done) | decide +kernel
theorem pd_0 : parseMethodDescriptor "(IIIIII)Z" = some ⟨[.int, .int, .int, .int, .int, .int], some .boolean⟩ := by decide +kernel
theorem d1_0 : decode method_2_code 0 = .ok (.iload_n 0, 1) := by decide +kernel
theorem d1_1 : decode method_2_code 1 = .ok (.iload_n 1, 1) := by decide +kernel
theorem d1_2 : decode method_2_code 2 = .ok (.iushr, 1) := by decide +kernel
theorem d1_3 : decode method_2_code 3 = .ok (.iconst 1, 1) := by decide +kernel
theorem d1_4 : decode method_2_code 4 = .ok (.iand, 1) := by decide +kernel
theorem d1_5 : decode method_2_code 5 = .ok (.ifCond .eq 8, 3) := by decide +kernel
theorem d1_8 : decode method_2_code 8 = .ok (.bipush 32, 2) := by decide +kernel
theorem d1_10 : decode method_2_code 10 = .ok (.goto 4, 3) := by decide +kernel
theorem d1_13 : decode method_2_code 13 = .ok (.iload_n 2, 1) := by decide +kernel
theorem d1_14 : decode method_2_code 14 = .ok (.ireturn, 1) := by decide +kernel
theorem pn_1 : plainName "com/example/sugglint/sugglint/match/NamesTokenEndPinLaw" = true := by first | (simp [plainName, overriddenIn]; done) | decide +kernel
theorem pd_1 : parseMethodDescriptor "(III)I" = some ⟨[.int, .int, .int], some .int⟩ := by decide +kernel
theorem d2_0 : decode prog_13_method_6_code 0 = .ok (.iload_n 1, 1) := by decide +kernel
theorem d2_1 : decode prog_13_method_6_code 1 = .ok (.istore_n 2, 1) := by decide +kernel
theorem d2_2 : decode prog_13_method_6_code 2 = .ok (.iload_n 2, 1) := by decide +kernel
theorem d2_3 : decode prog_13_method_6_code 3 = .ok (.aload_n 0, 1) := by decide +kernel
theorem d2_4 : decode prog_13_method_6_code 4 = .ok (.arraylength, 1) := by decide +kernel
theorem d2_5 : decode prog_13_method_6_code 5 = .ok (.if_icmp .ge 17, 3) := by decide +kernel
theorem d2_8 : decode prog_13_method_6_code 8 = .ok (.aload_n 0, 1) := by decide +kernel
theorem d2_9 : decode prog_13_method_6_code 9 = .ok (.iload_n 2, 1) := by decide +kernel
theorem d2_10 : decode prog_13_method_6_code 10 = .ok (.iaload, 1) := by decide +kernel
theorem d2_11 : decode prog_13_method_6_code 11 = .ok (.bipush 32, 2) := by decide +kernel
theorem d2_13 : decode prog_13_method_6_code 13 = .ok (.if_icmp .eq 9, 3) := by decide +kernel
theorem d2_16 : decode prog_13_method_6_code 16 = .ok (.iinc 2 1, 3) := by decide +kernel
theorem d2_19 : decode prog_13_method_6_code 19 = .ok (.goto (-17), 3) := by decide +kernel
theorem d2_22 : decode prog_13_method_6_code 22 = .ok (.iload_n 2, 1) := by decide +kernel
theorem d2_23 : decode prog_13_method_6_code 23 = .ok (.ireturn, 1) := by decide +kernel
theorem pn_2 : plainName "com/example/sugglint/sugglint/match/Names" = true := by first | (simp [plainName, overriddenIn]; done) | decide +kernel
theorem pd_2 : parseMethodDescriptor "([II)I" = some ⟨[(.array .int), .int], some .int⟩ := by decide +kernel
theorem d3_0 : decode method_3_code 0 = .ok (.iload_n 1, 1) := by decide +kernel
theorem d3_1 : decode method_3_code 1 = .ok (.iload_n 3, 1) := by decide +kernel
theorem d3_2 : decode method_3_code 2 = .ok (.if_icmp .gt 16, 3) := by decide +kernel
theorem d3_5 : decode method_3_code 5 = .ok (.iload_n 3, 1) := by decide +kernel
theorem d3_6 : decode method_3_code 6 = .ok (.iload_n 2, 1) := by decide +kernel
theorem d3_7 : decode method_3_code 7 = .ok (.if_icmp .ge 11, 3) := by decide +kernel
theorem d3_10 : decode method_3_code 10 = .ok (.aload_n 0, 1) := by decide +kernel
theorem d3_11 : decode method_3_code 11 = .ok (.iload_n 3, 1) := by decide +kernel
theorem d3_12 : decode method_3_code 12 = .ok (.iaload, 1) := by decide +kernel
theorem d3_13 : decode method_3_code 13 = .ok (.bipush 32, 2) := by decide +kernel
theorem d3_15 : decode method_3_code 15 = .ok (.if_icmp .eq 7, 3) := by decide +kernel
theorem d3_18 : decode method_3_code 18 = .ok (.iconst 1, 1) := by decide +kernel
theorem d3_19 : decode method_3_code 19 = .ok (.goto 4, 3) := by decide +kernel
theorem d3_22 : decode method_3_code 22 = .ok (.iconst 0, 1) := by decide +kernel
theorem d3_23 : decode method_3_code 23 = .ok (.ireturn, 1) := by decide +kernel
theorem pn_3 : plainName "com/example/sugglint/sugglint/match/NamesTokenEndPinLaw" = true := by first | (simp [plainName, overriddenIn]; done) | decide +kernel
theorem pd_3 : parseMethodDescriptor "([IIII)Z" = some ⟨[(.array .int), .int, .int, .int], some .boolean⟩ := by decide +kernel

theorem own_mask31 (x : Int32) : 0 ≤ (x &&& 2147483647).toInt := by
  have := c_mask x 2147483647 31 (by decide) (by decide)
  omega
theorem own_rem (x k : Int32) (n : Int) (hn : 0 < n) (hk : k.toInt = n) (hx : 0 ≤ x.toInt) : 0 ≤ (x % k).toInt ∧ (x % k).toInt < n := by
  have := (c_irem x k n hk).1 hx
  rw [this]
  exact ⟨Int.emod_nonneg _ (by omega), Int.emod_lt_of_pos _ hn⟩
theorem own_is {v : Int32} {k : Int} (h : v.toInt = k) : v = Int32.ofInt k := by rw [← h, Int32.ofInt_toInt]
def fp (p1 p2 p3 : Int32) : Int32 := (if (((p1.toUInt32 >>> (p2 &&& 31).toUInt32).toInt32) &&& (1 : Int32)) = (0 : Int32) then p3 else (32 : Int32))
abbrev Q1 (Z : State) (p1 p2 p3 : Int32) (h0 : Heap) (v : Option Value) (h : Heap) (L : List Loc) : Prop := v = some (.int (fp p1 p2 p3)) ∧ L = [] ∧ h = h0
set_option maxRecDepth 65536 in
set_option maxHeartbeats 40000000 in
theorem rm1 (l : Launch) (Z : State) (a0 : Array Value) (hw : ∀ d ∈ tables_1, d.before a0 Z = true) (p1 p2 p3 : Int32) (h0 : Heap)  :
    Con l Z (⟨"com/example/sugglint/sugglint/match/NamesTokenEndPinLaw", "pick", "(III)I"⟩ : MethodName) method_2_code 3 (some .int) ({ frames := 0, cells := 0, slots := 0, locals := 0 } : Room) #[(.int p1), (.int p2), (.int p3)] h0 (Q1 Z p1 p2 p3 h0) := by
  refine Con.of pn_1 (fun p e s m below meth c T0 X0 hx hby hml hret hlk hown hnm hZ e0 => ?_)
  replace hown : s.vm.findClass "com/example/sugglint/sugglint/match/NamesTokenEndPinLaw" = some m.cls := hown
  have ef : entryFrame m #[(.int p1), (.int p2), (.int p3)] 3 = mkF m 0 #[.val (.int p1), .val (.int p2), .val (.int p3)] [] := by first | (simp [entryFrame, mkF, argsToLocals, Value.category]; done) | rfl
  rw [ef]
  refine o_iloadN (pc' := 1) X0 hx (hb hby d1_0) rfl rfl ?_
  refine o_iloadN (pc' := 2) X0 hx (hb hby d1_1) rfl rfl ?_
  refine o_iushr (pc' := 3) X0 hx (hb hby d1_2) rfl ?_
  refine o_iconst (v := (1 : Int32)) (pc' := 4) X0 hx (hb hby d1_3) (by decide) rfl ?_
  refine o_iand (pc' := 5) X0 hx (hb hby d1_4) rfl ?_
  refine o_if_eq (p1 := 8) (p2 := 13) X0 hx (hb hby d1_5) rfl (by decide) (by decide) (fun hc5 => ?_) (fun hc5 => ?_)
  · refine o_iloadN (pc' := 14) X0 hx (hb hby d1_13) rfl rfl ?_
    exact o_retI X0 hx hlk hret (hb hby d1_14) ⟨by simp only [fp, if_pos hc5], rfl, e0⟩ (by decide) (by decide)
  · refine o_bipush (v := (32 : Int32)) (pc' := 10) X0 hx (hb hby d1_8) (by decide) rfl ?_
    refine o_goto (pc' := 14) X0 hx (hb hby d1_10) (by decide) (by decide) ?_
    exact o_retI X0 hx hlk hret (hb hby d1_14) ⟨by simp only [fp, if_neg hc5], rfl, e0⟩ (by decide) (by decide)

def Tok (gi : Nat → Int32) (p1 r : Int32) : Prop := p1.toInt ≤ r.toInt ∧ r.toInt ≤ 6 ∧ (r.toInt < 6 → gi r.toNatClampNeg = 32) ∧ ∀ j : Int32, p1.toInt ≤ j.toInt → j.toInt < r.toInt → ¬ gi j.toNatClampNeg = 32
theorem own_lt6 (i : Int32) : i < (6 : Int32) ↔ i.toInt < 6 := by rw [Int32.lt_iff_toInt_lt]; rfl
theorem own_inc (i : Int32) (h0 : 0 ≤ i.toInt) (h : i.toInt < 6) : (i + (1 : Int32)).toInt = i.toInt + 1 := by
  have := c_iadd i 1; have := rng32 (i + 1); have e1 : (1 : Int32).toInt = 1 := (by decide); omega
abbrev Q2 (Z : State) (t : Addr) (p1 : Int32) (cl : Cell) (gi : Nat → Int32) (h0 : Heap) (v : Option Value) (h : Heap) (L : List Loc) : Prop := ∃ r, v = some (.int r) ∧ Tok gi p1 r ∧ L = [] ∧ h = h0
set_option maxRecDepth 65536 in
set_option maxHeartbeats 40000000 in
theorem rm2 (l : Launch) (Z : State) (a0 : Array Value) (hw : ∀ d ∈ tables_1, d.before a0 Z = true) (t : Addr) (p1 : Int32) (cl : Cell) (gi : Nat → Int32) (h0 : Heap) (A : Arr Z h0 t cl .int) (C : Cont cl 6 (fun k => .int (gi k))) (q0 : 0 ≤ p1.toInt) (q1 : p1.toInt ≤ 6) :
    Con l Z (⟨"com/example/sugglint/sugglint/match/Names", "tokenEnd", "([II)I"⟩ : MethodName) prog_13_method_6_code 3 (some .int) ({ frames := 0, cells := 0, slots := 0, locals := 0 } : Room) #[(.ref t), (.int p1)] h0 (Q2 Z t p1 cl gi h0) := by
  refine Con.of pn_2 (fun p e s m below meth c T0 X0 hx hby hml hret hlk hown hnm hZ e0 => ?_)
  replace hown : s.vm.findClass "com/example/sugglint/sugglint/match/Names" = some m.cls := hown
  have ef : entryFrame m #[(.ref t), (.int p1)] 3 = mkF m 0 #[.val (.ref t), .val (.int p1), .unset] [] := by first | (simp [entryFrame, mkF, argsToLocals, Value.category]; done) | rfl
  rw [ef]
  refine o_iloadN (pc' := 1) X0 hx (hb hby d2_0) rfl rfl ?_
  refine o_istoreN (Ls' := #[.val (.ref t), .val (.int p1), .val (.int p1)]) (pc' := 2) X0 hx (hb hby d2_1) rfl rfl ?_
  suffices loop : ∀ (n : Nat) (i : Int32), i.toInt + n = 6 → p1.toInt ≤ i.toInt → (∀ j : Int32, p1.toInt ≤ j.toInt → j.toInt < i.toInt → ¬ gi j.toNatClampNeg = 32) → Ends p e below s (Q2 Z t p1 cl gi h0) ({ frames := 0, cells := 0, slots := 0, locals := 0 } : Room).cells ({ frames := 0, cells := 0, slots := 0, locals := 0 } : Room).slots (T0.setTop (mkF m 2 #[.val (.ref t), .val (.int p1), .val (.int i)] [])) from loop (6 - p1.toInt).toNat p1 (by omega) (by omega) (fun j a b => by omega)
  intro n
  induction n with
  | zero =>
    intro i hi hs hj
    refine o_iloadN (pc' := 3) X0 hx (hb hby d2_2) rfl rfl ?_
    refine o_aloadN (pc' := 4) X0 hx (hb hby d2_3) rfl rfl rfl ?_
    refine o_len (pc' := 5) (n := (6 : Int32)) X0 hx hZ e0 A (by rw [C.1]; decide) (hb hby d2_4) rfl ?_
    refine o_icmp_ge (p1 := 8) (p2 := 22) X0 hx (hb hby d2_5) rfl (by decide) (by decide) (fun hc5 => ?_) (fun hc5 => absurd hc5 (fun q => by have := (own_lt6 i).mp q; omega))
    refine o_iloadN (pc' := 23) X0 hx (hb hby d2_22) rfl rfl ?_
    exact o_retI X0 hx hlk hret (hb hby d2_23) ⟨i, rfl, ⟨hs, by omega, fun q => by omega, hj⟩, rfl, e0⟩ (by decide) (by decide)
  | succ n ih =>
    intro i hi hs hj
    refine o_iloadN (pc' := 3) X0 hx (hb hby d2_2) rfl rfl ?_
    refine o_aloadN (pc' := 4) X0 hx (hb hby d2_3) rfl rfl rfl ?_
    refine o_len (pc' := 5) (n := (6 : Int32)) X0 hx hZ e0 A (by rw [C.1]; decide) (hb hby d2_4) rfl ?_
    refine o_icmp_ge (p1 := 8) (p2 := 22) X0 hx (hb hby d2_5) rfl (by decide) (by decide) (fun hc5 => absurd ((own_lt6 i).mpr (by omega)) hc5) (fun hc5 => ?_)
    refine o_aloadN (pc' := 9) X0 hx (hb hby d2_8) rfl rfl rfl ?_
    refine o_iloadN (pc' := 10) X0 hx (hb hby d2_9) rfl rfl ?_
    refine o_iaload (pc' := 11) X0 hx hZ e0 A (C.inb (by omega) (by omega)) (C.at (by omega) (by omega)) (hb hby d2_10) rfl ?_
    show Ends p e below s (Q2 Z t p1 cl gi h0) ({ frames := 0, cells := 0, slots := 0, locals := 0 } : Room).cells ({ frames := 0, cells := 0, slots := 0, locals := 0 } : Room).slots (T0.setTop (mkF m 11 #[.val (.ref t), .val (.int p1), .val (.int i)] [(.int (gi i.toNatClampNeg))]))
    refine o_bipush (v := (32 : Int32)) (pc' := 13) X0 hx (hb hby d2_11) (by decide) rfl ?_
    refine o_icmp_eq (p1 := 16) (p2 := 22) X0 hx (hb hby d2_13) rfl (by decide) (by decide) (fun hc13 => ?_) (fun hc13 => ?_)
    · refine o_iloadN (pc' := 23) X0 hx (hb hby d2_22) rfl rfl ?_
      exact o_retI X0 hx hlk hret (hb hby d2_23) ⟨i, rfl, ⟨hs, by omega, fun _ => hc13, hj⟩, rfl, e0⟩ (by decide) (by decide)
    · refine o_iinc (Ls' := #[.val (.ref t), .val (.int p1), .val (.int (i + (1 : Int32)))]) (v' := i + (1 : Int32)) (pc' := 19) X0 hx (hb hby d2_16) rfl rfl rfl rfl ?_
      refine o_goto (pc' := 2) X0 hx (hb hby d2_19) (by decide) (by decide) ?_
      have hn := own_inc i (by omega) (by omega)
      refine ih (i + (1 : Int32)) (by omega) (by omega) (fun j ja jb => ?_)
      by_cases q : j.toInt < i.toInt
      · exact hj j ja q
      · obtain rfl : j = i := Int32.toInt_inj.mp (by omega)
        exact hc13
def fc (gi : Nat → Int32) (p1 p2 p3 : Int32) : Int32 := (if p3 < p1 then (1 : Int32) else (if p3 < p2 then (if (gi p3.toNatClampNeg) = (32 : Int32) then (0 : Int32) else (1 : Int32)) else (1 : Int32)))
abbrev Q3 (Z : State) (t : Addr) (p1 p2 p3 : Int32) (cl : Cell) (gi : Nat → Int32) (h0 : Heap) (v : Option Value) (h : Heap) (L : List Loc) : Prop := v = some (.int (fc gi p1 p2 p3)) ∧ L = [] ∧ h = h0
set_option maxRecDepth 65536 in
set_option maxHeartbeats 40000000 in
theorem rm3 (l : Launch) (Z : State) (a0 : Array Value) (hw : ∀ d ∈ tables_1, d.before a0 Z = true) (t : Addr) (p1 p2 p3 : Int32) (cl : Cell) (gi : Nat → Int32) (h0 : Heap) (A : Arr Z h0 t cl .int) (C : Cont cl 6 (fun k => .int (gi k))) (q0 : 0 ≤ p3.toInt) (q1 : p3.toInt < 6) :
    Con l Z (⟨"com/example/sugglint/sugglint/match/NamesTokenEndPinLaw", "clear", "([IIII)Z"⟩ : MethodName) method_3_code 4 (some .boolean) ({ frames := 0, cells := 0, slots := 0, locals := 0 } : Room) #[(.ref t), (.int p1), (.int p2), (.int p3)] h0 (Q3 Z t p1 p2 p3 cl gi h0) := by
  refine Con.of pn_3 (fun p e s m below meth c T0 X0 hx hby hml hret hlk hown hnm hZ e0 => ?_)
  replace hown : s.vm.findClass "com/example/sugglint/sugglint/match/NamesTokenEndPinLaw" = some m.cls := hown
  have ef : entryFrame m #[(.ref t), (.int p1), (.int p2), (.int p3)] 4 = mkF m 0 #[.val (.ref t), .val (.int p1), .val (.int p2), .val (.int p3)] [] := by first | (simp [entryFrame, mkF, argsToLocals, Value.category]; done) | rfl
  rw [ef]
  refine o_iloadN (pc' := 1) X0 hx (hb hby d3_0) rfl rfl ?_
  refine o_iloadN (pc' := 2) X0 hx (hb hby d3_1) rfl rfl ?_
  refine o_icmp_gt (p1 := 5) (p2 := 18) X0 hx (hb hby d3_2) rfl (by decide) (by decide) (fun hc2 => ?_) (fun hc2 => ?_)
  · refine o_iconst (v := (1 : Int32)) (pc' := 19) X0 hx (hb hby d3_18) (by decide) rfl ?_
    refine o_goto (pc' := 23) X0 hx (hb hby d3_19) (by decide) (by decide) ?_
    exact o_retZ X0 hx hlk hret (hb hby d3_23) (by decide) ⟨by simp only [fc, if_pos hc2], rfl, e0⟩ (by decide) (by decide)
  · refine o_iloadN (pc' := 6) X0 hx (hb hby d3_5) rfl rfl ?_
    refine o_iloadN (pc' := 7) X0 hx (hb hby d3_6) rfl rfl ?_
    refine o_icmp_ge (p1 := 10) (p2 := 18) X0 hx (hb hby d3_7) rfl (by decide) (by decide) (fun hc7 => ?_) (fun hc7 => ?_)
    · refine o_iconst (v := (1 : Int32)) (pc' := 19) X0 hx (hb hby d3_18) (by decide) rfl ?_
      refine o_goto (pc' := 23) X0 hx (hb hby d3_19) (by decide) (by decide) ?_
      exact o_retZ X0 hx hlk hret (hb hby d3_23) (by decide) ⟨by simp only [fc, if_neg hc2, if_neg hc7], rfl, e0⟩ (by decide) (by decide)
    · refine o_aloadN (pc' := 11) X0 hx (hb hby d3_10) rfl rfl rfl ?_
      refine o_iloadN (pc' := 12) X0 hx (hb hby d3_11) rfl rfl ?_
      refine o_iaload (pc' := 13) X0 hx hZ e0 A (C.inb q0 q1) (C.at q0 q1) (hb hby d3_12) rfl ?_
      show Ends p e below s (Q3 Z t p1 p2 p3 cl gi h0) ({ frames := 0, cells := 0, slots := 0, locals := 0 } : Room).cells ({ frames := 0, cells := 0, slots := 0, locals := 0 } : Room).slots (T0.setTop (mkF m 13 #[.val (.ref t), .val (.int p1), .val (.int p2), .val (.int p3)] [(.int (gi p3.toNatClampNeg))]))
      refine o_bipush (v := (32 : Int32)) (pc' := 15) X0 hx (hb hby d3_13) (by decide) rfl ?_
      refine o_icmp_eq (p1 := 18) (p2 := 22) X0 hx (hb hby d3_15) rfl (by decide) (by decide) (fun hc15 => ?_) (fun hc15 => ?_)
      · refine o_iconst (v := (0 : Int32)) (pc' := 23) X0 hx (hb hby d3_22) (by decide) rfl ?_
        exact o_retZ X0 hx hlk hret (hb hby d3_23) (by decide) ⟨by simp only [fc, if_neg hc2, if_pos hc7, if_pos hc15], rfl, e0⟩ (by decide) (by decide)
      · refine o_iconst (v := (1 : Int32)) (pc' := 19) X0 hx (hb hby d3_18) (by decide) rfl ?_
        refine o_goto (pc' := 23) X0 hx (hb hby d3_19) (by decide) (by decide) ?_
        exact o_retZ X0 hx hlk hret (hb hby d3_23) (by decide) ⟨by simp only [fc, if_neg hc2, if_pos hc7, if_neg hc15], rfl, e0⟩ (by decide) (by decide)

theorem own_fc {gi : Nat → Int32} {p1 r i : Int32} (h : Tok gi p1 r) : fc gi p1 r i = (0 : Int32) → False := by
  intro q
  unfold fc at q
  by_cases c1 : i < p1
  · rw [if_pos c1] at q; exact absurd q (by decide)
  · rw [if_neg c1] at q
    by_cases c2 : i < r
    · rw [if_pos c2] at q
      have := h.2.2.2 i (by rw [Int32.lt_iff_toInt_lt] at c1; omega) (Int32.lt_iff_toInt_lt.mp c2)
      rw [if_neg this] at q; exact absurd q (by decide)
    · rw [if_neg c2] at q; exact absurd q (by decide)
abbrev Q0 (Z : State) (p1 p2 p3 p4 p5 p6 : Int32) (h0 : Heap) (v : Option Value) (h : Heap) (L : List Loc) : Prop := v = some (.int (1 : Int32)) ∧ Fr h0.size L
set_option maxRecDepth 65536 in
set_option maxHeartbeats 40000000 in
theorem rm0 (l : Launch) (Z : State) (a0 : Array Value) (hw : ∀ d ∈ tables_1, d.before a0 Z = true) (p1 p2 p3 p4 p5 p6 : Int32) (h0 : Heap)  :
    Con l Z x code maxLocals ret room_1 #[(.int p1), (.int p2), (.int p3), (.int p4), (.int p5), (.int p6)] h0 (Q0 Z p1 p2 p3 p4 p5 p6 h0) := by
  refine Con.of pn_0 (fun p e s m below meth c T0 X0 hx hby hml hret hlk hown hnm hZ e0 => ?_)
  replace hown : s.vm.findClass "com/example/sugglint/sugglint/match/NamesTokenEndPinLaw" = some m.cls := hown
  have ef : entryFrame m #[(.int p1), (.int p2), (.int p3), (.int p4), (.int p5), (.int p6)] maxLocals = mkF m 0 #[.val (.int p1), .val (.int p2), .val (.int p3), .val (.int p4), .val (.int p5), .val (.int p6), .unset, .unset, .unset] [] := by first | (simp [entryFrame, mkF, argsToLocals, Value.category, maxLocals]; done) | rfl
  rw [ef]
  refine o_bipush (v := (6 : Int32)) (pc' := 2) X0 hx (hb hby at_0) (by decide) rfl ?_
  refine o_newarr (pc' := 4) (cap := 6) X0 hx hZ (hw _ (List.mem_of_getElem? (i := 0) rfl)) e0 (hb hby at_2) rfl (by decide) (by decide) (by decide) (by decide) (by decide) ?_
  intro T2 h2 cA2 t gt e2 E2 At X2
  have Ct := Cont.new cA2 .int (6 : Int32) 6 (by decide)
  have N2 := Fr.nil h0.size
  have gt' : h0.size ≤ t := Nat.le_of_eq gt.symm
  refine o_astore (Ls' := #[.val (.int p1), .val (.int p2), .val (.int p3), .val (.int p4), .val (.int p5), .val (.int p6), .val (.ref t), .unset, .unset]) (pc' := 6) X2 hx (hb hby at_4) rfl rfl rfl ?_
  refine o_aload (pc' := 8) X2 hx (hb hby at_6) rfl rfl rfl ?_
  refine o_iconst (v := (0 : Int32)) (pc' := 9) X2 hx (hb hby at_8) (by decide) rfl ?_
  refine o_iloadN (pc' := 10) X2 hx (hb hby at_9) rfl rfl ?_
  refine o_iconst (v := (0 : Int32)) (pc' := 11) X2 hx (hb hby at_10) (by decide) rfl ?_
  refine o_iloadN (pc' := 12) X2 hx (hb hby at_11) rfl rfl ?_
  refine o_callS (W := 2) (pc' := 15) (rm := ({ frames := 0, cells := 0, slots := 0, locals := 0 } : Room)) (argsL := [(.int p1), (.int (0 : Int32)), (.int p3)]) (rest := [(.int (0 : Int32)), (.ref t)]) X2 hx hZ hown (hw _ (List.mem_of_getElem? (i := 1) rfl)) (hw _ (List.mem_of_getElem? (i := 2) rfl)) (hw _ (List.mem_of_getElem? (i := 3) rfl)) (hw _ (List.mem_of_getElem? (i := 4) rfl)) (by decide) e2 (rm1 l Z a0 hw p1 (0 : Int32) p3 h2) (by rw [hml]; rfl) pd_1 rfl rfl (hb hby at_12) rfl (by decide) rfl (by decide) (by decide) (by decide) ?_
  rintro _ T12 L12 ⟨rfl, rfl, e12⟩ X12
  show Ends p e below s (Q0 Z p1 p2 p3 p4 p5 p6 h0) room_1.cells room_1.slots (T12.setTop (mkF m 15 #[.val (.int p1), .val (.int p2), .val (.int p3), .val (.int p4), .val (.int p5), .val (.int p6), .val (.ref t), .unset, .unset] [(.int (fp p1 (0 : Int32) p3)), (.int (0 : Int32)), (.ref t)]))
  generalize hv0 : fp p1 (0 : Int32) p3 = v0
  refine o_iastore (pc' := 16) X12 hx hZ e12 At (Ct.inb (by decide) (by decide)) (hb hby at_15) rfl ?_
  intro T15 h15 e15 W15 X15
  have A15 := Arr.same W15 At
  have C15 := Ct.put (Int32.toNatClampNeg (0 : Int32)) (.int v0)
  have N15 := Fr.snoc X15 (N2.app (Fr.nil _)) gt'
  refine o_aload (pc' := 18) X15 hx (hb hby at_16) rfl rfl rfl ?_
  refine o_iconst (v := (1 : Int32)) (pc' := 19) X15 hx (hb hby at_18) (by decide) rfl ?_
  refine o_iloadN (pc' := 20) X15 hx (hb hby at_19) rfl rfl ?_
  refine o_iconst (v := (1 : Int32)) (pc' := 21) X15 hx (hb hby at_20) (by decide) rfl ?_
  refine o_iloadN (pc' := 22) X15 hx (hb hby at_21) rfl rfl ?_
  refine o_callS (W := 2) (pc' := 25) (rm := ({ frames := 0, cells := 0, slots := 0, locals := 0 } : Room)) (argsL := [(.int p1), (.int (1 : Int32)), (.int p4)]) (rest := [(.int (1 : Int32)), (.ref t)]) X15 hx hZ hown (hw _ (List.mem_of_getElem? (i := 1) rfl)) (hw _ (List.mem_of_getElem? (i := 2) rfl)) (hw _ (List.mem_of_getElem? (i := 3) rfl)) (hw _ (List.mem_of_getElem? (i := 4) rfl)) (by decide) e15 (rm1 l Z a0 hw p1 (1 : Int32) p4 h15) (by rw [hml]; rfl) pd_1 rfl rfl (hb hby at_22) rfl (by decide) rfl (by decide) (by decide) (by decide) ?_
  rintro _ T22 L22 ⟨rfl, rfl, e22⟩ X22
  show Ends p e below s (Q0 Z p1 p2 p3 p4 p5 p6 h0) room_1.cells room_1.slots (T22.setTop (mkF m 25 #[.val (.int p1), .val (.int p2), .val (.int p3), .val (.int p4), .val (.int p5), .val (.int p6), .val (.ref t), .unset, .unset] [(.int (fp p1 (1 : Int32) p4)), (.int (1 : Int32)), (.ref t)]))
  generalize hv1 : fp p1 (1 : Int32) p4 = v1
  refine o_iastore (pc' := 26) X22 hx hZ e22 A15 (C15.inb (by decide) (by decide)) (hb hby at_25) rfl ?_
  intro T25 h25 e25 W25 X25
  have A25 := Arr.same W25 A15
  have C25 := C15.put (Int32.toNatClampNeg (1 : Int32)) (.int v1)
  have N25 := Fr.snoc X25 (N15.app (Fr.nil _)) gt'
  refine o_aload (pc' := 28) X25 hx (hb hby at_26) rfl rfl rfl ?_
  refine o_iconst (v := (2 : Int32)) (pc' := 29) X25 hx (hb hby at_28) (by decide) rfl ?_
  refine o_iloadN (pc' := 30) X25 hx (hb hby at_29) rfl rfl ?_
  refine o_iconst (v := (2 : Int32)) (pc' := 31) X25 hx (hb hby at_30) (by decide) rfl ?_
  refine o_iload (pc' := 33) X25 hx (hb hby at_31) rfl rfl ?_
  refine o_callS (W := 2) (pc' := 36) (rm := ({ frames := 0, cells := 0, slots := 0, locals := 0 } : Room)) (argsL := [(.int p1), (.int (2 : Int32)), (.int p5)]) (rest := [(.int (2 : Int32)), (.ref t)]) X25 hx hZ hown (hw _ (List.mem_of_getElem? (i := 1) rfl)) (hw _ (List.mem_of_getElem? (i := 2) rfl)) (hw _ (List.mem_of_getElem? (i := 3) rfl)) (hw _ (List.mem_of_getElem? (i := 4) rfl)) (by decide) e25 (rm1 l Z a0 hw p1 (2 : Int32) p5 h25) (by rw [hml]; rfl) pd_1 rfl rfl (hb hby at_33) rfl (by decide) rfl (by decide) (by decide) (by decide) ?_
  rintro _ T33 L33 ⟨rfl, rfl, e33⟩ X33
  show Ends p e below s (Q0 Z p1 p2 p3 p4 p5 p6 h0) room_1.cells room_1.slots (T33.setTop (mkF m 36 #[.val (.int p1), .val (.int p2), .val (.int p3), .val (.int p4), .val (.int p5), .val (.int p6), .val (.ref t), .unset, .unset] [(.int (fp p1 (2 : Int32) p5)), (.int (2 : Int32)), (.ref t)]))
  generalize hv2 : fp p1 (2 : Int32) p5 = v2
  refine o_iastore (pc' := 37) X33 hx hZ e33 A25 (C25.inb (by decide) (by decide)) (hb hby at_36) rfl ?_
  intro T36 h36 e36 W36 X36
  have A36 := Arr.same W36 A25
  have C36 := C25.put (Int32.toNatClampNeg (2 : Int32)) (.int v2)
  have N36 := Fr.snoc X36 (N25.app (Fr.nil _)) gt'
  refine o_aload (pc' := 39) X36 hx (hb hby at_37) rfl rfl rfl ?_
  refine o_iconst (v := (3 : Int32)) (pc' := 40) X36 hx (hb hby at_39) (by decide) rfl ?_
  refine o_iloadN (pc' := 41) X36 hx (hb hby at_40) rfl rfl ?_
  refine o_iconst (v := (3 : Int32)) (pc' := 42) X36 hx (hb hby at_41) (by decide) rfl ?_
  refine o_iload (pc' := 44) X36 hx (hb hby at_42) rfl rfl ?_
  refine o_callS (W := 2) (pc' := 47) (rm := ({ frames := 0, cells := 0, slots := 0, locals := 0 } : Room)) (argsL := [(.int p1), (.int (3 : Int32)), (.int p6)]) (rest := [(.int (3 : Int32)), (.ref t)]) X36 hx hZ hown (hw _ (List.mem_of_getElem? (i := 1) rfl)) (hw _ (List.mem_of_getElem? (i := 2) rfl)) (hw _ (List.mem_of_getElem? (i := 3) rfl)) (hw _ (List.mem_of_getElem? (i := 4) rfl)) (by decide) e36 (rm1 l Z a0 hw p1 (3 : Int32) p6 h36) (by rw [hml]; rfl) pd_1 rfl rfl (hb hby at_44) rfl (by decide) rfl (by decide) (by decide) (by decide) ?_
  rintro _ T44 L44 ⟨rfl, rfl, e44⟩ X44
  show Ends p e below s (Q0 Z p1 p2 p3 p4 p5 p6 h0) room_1.cells room_1.slots (T44.setTop (mkF m 47 #[.val (.int p1), .val (.int p2), .val (.int p3), .val (.int p4), .val (.int p5), .val (.int p6), .val (.ref t), .unset, .unset] [(.int (fp p1 (3 : Int32) p6)), (.int (3 : Int32)), (.ref t)]))
  generalize hv3 : fp p1 (3 : Int32) p6 = v3
  refine o_iastore (pc' := 48) X44 hx hZ e44 A36 (C36.inb (by decide) (by decide)) (hb hby at_47) rfl ?_
  intro T47 h47 e47 W47 X47
  have A47 := Arr.same W47 A36
  have C47 := C36.put (Int32.toNatClampNeg (3 : Int32)) (.int v3)
  have N47 := Fr.snoc X47 (N36.app (Fr.nil _)) gt'
  refine o_aload (pc' := 50) X47 hx (hb hby at_48) rfl rfl rfl ?_
  refine o_iconst (v := (4 : Int32)) (pc' := 51) X47 hx (hb hby at_50) (by decide) rfl ?_
  refine o_iloadN (pc' := 52) X47 hx (hb hby at_51) rfl rfl ?_
  refine o_iconst (v := (4 : Int32)) (pc' := 53) X47 hx (hb hby at_52) (by decide) rfl ?_
  refine o_iloadN (pc' := 54) X47 hx (hb hby at_53) rfl rfl ?_
  refine o_iload (pc' := 56) X47 hx (hb hby at_54) rfl rfl ?_
  refine o_ixor (pc' := 57) X47 hx (hb hby at_56) rfl ?_
  refine o_callS (W := 2) (pc' := 60) (rm := ({ frames := 0, cells := 0, slots := 0, locals := 0 } : Room)) (argsL := [(.int p1), (.int (4 : Int32)), (.int (p3 ^^^ p6))]) (rest := [(.int (4 : Int32)), (.ref t)]) X47 hx hZ hown (hw _ (List.mem_of_getElem? (i := 1) rfl)) (hw _ (List.mem_of_getElem? (i := 2) rfl)) (hw _ (List.mem_of_getElem? (i := 3) rfl)) (hw _ (List.mem_of_getElem? (i := 4) rfl)) (by decide) e47 (rm1 l Z a0 hw p1 (4 : Int32) (p3 ^^^ p6) h47) (by rw [hml]; rfl) pd_1 rfl rfl (hb hby at_57) rfl (by decide) rfl (by decide) (by decide) (by decide) ?_
  rintro _ T57 L57 ⟨rfl, rfl, e57⟩ X57
  show Ends p e below s (Q0 Z p1 p2 p3 p4 p5 p6 h0) room_1.cells room_1.slots (T57.setTop (mkF m 60 #[.val (.int p1), .val (.int p2), .val (.int p3), .val (.int p4), .val (.int p5), .val (.int p6), .val (.ref t), .unset, .unset] [(.int (fp p1 (4 : Int32) (p3 ^^^ p6))), (.int (4 : Int32)), (.ref t)]))
  generalize hv4 : fp p1 (4 : Int32) (p3 ^^^ p6) = v4
  refine o_iastore (pc' := 61) X57 hx hZ e57 A47 (C47.inb (by decide) (by decide)) (hb hby at_60) rfl ?_
  intro T60 h60 e60 W60 X60
  have A60 := Arr.same W60 A47
  have C60 := C47.put (Int32.toNatClampNeg (4 : Int32)) (.int v4)
  have N60 := Fr.snoc X60 (N47.app (Fr.nil _)) gt'
  refine o_aload (pc' := 63) X60 hx (hb hby at_61) rfl rfl rfl ?_
  refine o_iconst (v := (5 : Int32)) (pc' := 64) X60 hx (hb hby at_63) (by decide) rfl ?_
  refine o_iloadN (pc' := 65) X60 hx (hb hby at_64) rfl rfl ?_
  refine o_iconst (v := (5 : Int32)) (pc' := 66) X60 hx (hb hby at_65) (by decide) rfl ?_
  refine o_iloadN (pc' := 67) X60 hx (hb hby at_66) rfl rfl ?_
  refine o_iload (pc' := 69) X60 hx (hb hby at_67) rfl rfl ?_
  refine o_isub (pc' := 70) X60 hx (hb hby at_69) rfl ?_
  refine o_callS (W := 2) (pc' := 73) (rm := ({ frames := 0, cells := 0, slots := 0, locals := 0 } : Room)) (argsL := [(.int p1), (.int (5 : Int32)), (.int (p4 - p5))]) (rest := [(.int (5 : Int32)), (.ref t)]) X60 hx hZ hown (hw _ (List.mem_of_getElem? (i := 1) rfl)) (hw _ (List.mem_of_getElem? (i := 2) rfl)) (hw _ (List.mem_of_getElem? (i := 3) rfl)) (hw _ (List.mem_of_getElem? (i := 4) rfl)) (by decide) e60 (rm1 l Z a0 hw p1 (5 : Int32) (p4 - p5) h60) (by rw [hml]; rfl) pd_1 rfl rfl (hb hby at_70) rfl (by decide) rfl (by decide) (by decide) (by decide) ?_
  rintro _ T70 L70 ⟨rfl, rfl, e70⟩ X70
  show Ends p e below s (Q0 Z p1 p2 p3 p4 p5 p6 h0) room_1.cells room_1.slots (T70.setTop (mkF m 73 #[.val (.int p1), .val (.int p2), .val (.int p3), .val (.int p4), .val (.int p5), .val (.int p6), .val (.ref t), .unset, .unset] [(.int (fp p1 (5 : Int32) (p4 - p5))), (.int (5 : Int32)), (.ref t)]))
  generalize hv5 : fp p1 (5 : Int32) (p4 - p5) = v5
  refine o_iastore (pc' := 74) X70 hx hZ e70 A60 (C60.inb (by decide) (by decide)) (hb hby at_73) rfl ?_
  intro T73 h73 e73 W73 X73
  have A73 := Arr.same W73 A60
  have C73 := C60.put (Int32.toNatClampNeg (5 : Int32)) (.int v5)
  have N73 := Fr.snoc X73 (N60.app (Fr.nil _)) gt'
  refine o_iloadN (pc' := 75) X73 hx (hb hby at_74) rfl rfl ?_
  refine o_ldc (pc' := 77) (v := (2147483647 : Int32)) X73 hx (hb hby at_75) hZ hown (hw _ (List.mem_of_getElem? (i := 5) rfl)) rfl ?_
  refine o_iand (pc' := 78) X73 hx (hb hby at_77) rfl ?_
  refine o_bipush (v := (7 : Int32)) (pc' := 80) X73 hx (hb hby at_78) (by decide) rfl ?_
  refine o_irem (pc' := 81) X73 hx (hb hby at_80) (by decide) rfl ?_
  generalize hq : (p2 &&& (2147483647 : Int32)) % (7 : Int32) = q
  have rq := own_rem (p2 &&& 2147483647) 7 7 (by decide) (by decide) (own_mask31 p2)
  rw [hq] at rq
  obtain ⟨gi, hgi⟩ : ∃ gi : Nat → Int32, gi = fun k => if k = 5 then v5 else if k = 4 then v4 else if k = 3 then v3 else if k = 2 then v2 else if k = 1 then v1 else if k = 0 then v0 else 0 := ⟨_, rfl⟩
  have Cg : Cont _ 6 (fun k => .int (gi k)) := Cont.congr C73 (fun k hk => by
    subst hgi
    have hh : k = 0 ∨ k = 1 ∨ k = 2 ∨ k = 3 ∨ k = 4 ∨ k = 5 := by omega
    rcases hh with rfl | rfl | rfl | rfl | rfl | rfl <;> rfl)
  refine o_istore (Ls' := #[.val (.int p1), .val (.int p2), .val (.int p3), .val (.int p4), .val (.int p5), .val (.int p6), .val (.ref t), .val (.int q), .unset]) (pc' := 83) X73 hx (hb hby at_81) rfl rfl ?_
  refine o_aload (pc' := 85) X73 hx (hb hby at_83) rfl rfl rfl ?_
  refine o_iload (pc' := 87) X73 hx (hb hby at_85) rfl rfl ?_
  refine o_callS (W := 0) (pc' := 90) (rm := ({ frames := 0, cells := 0, slots := 0, locals := 0 } : Room)) (argsL := [(.ref t), (.int q)]) (rest := []) X73 hx hZ hown (hw _ (List.mem_of_getElem? (i := 6) rfl)) (hw _ (List.mem_of_getElem? (i := 7) rfl)) (hw _ (List.mem_of_getElem? (i := 8) rfl)) (hw _ (List.mem_of_getElem? (i := 9) rfl)) (by decide) e73 (rm2 l Z a0 hw t q _ gi h73 A73 Cg (by omega) (by omega)) (by rw [hml]; rfl) pd_2 rfl rfl (hb hby at_87) rfl (by decide) rfl (by decide) (by decide) (by decide) ?_
  rintro _ T87 L87 ⟨r, rfl, tok, rfl, e87⟩ X87
  show Ends p e below s (Q0 Z p1 p2 p3 p4 p5 p6 h0) room_1.cells room_1.slots (T87.setTop (mkF m 90 #[.val (.int p1), .val (.int p2), .val (.int p3), .val (.int p4), .val (.int p5), .val (.int p6), .val (.ref t), .val (.int q), .unset] [(.int r)]))
  refine o_istore (Ls' := #[.val (.int p1), .val (.int p2), .val (.int p3), .val (.int p4), .val (.int p5), .val (.int p6), .val (.ref t), .val (.int q), .val (.int r)]) (pc' := 92) X87 hx (hb hby at_90) rfl rfl ?_
  refine o_iload (pc' := 94) X87 hx (hb hby at_92) rfl rfl ?_
  refine o_iload (pc' := 96) X87 hx (hb hby at_94) rfl rfl ?_
  refine o_icmp_lt (p1 := 99) (p2 := 106) X87 hx (hb hby at_96) rfl (by decide) (by decide) (fun hc96 => absurd hc96 (fun z => by have := Int32.lt_iff_toInt_lt.mp z; have := tok.1; omega)) (fun hc96 => ?_)
  refine o_iload (pc' := 101) X87 hx (hb hby at_99) rfl rfl ?_
  refine o_bipush (v := (6 : Int32)) (pc' := 103) X87 hx (hb hby at_101) (by decide) rfl ?_
  refine o_icmp_le (p1 := 106) (p2 := 108) X87 hx (hb hby at_103) rfl (by decide) (by decide) (fun hc103 => ?_) (fun hc103 => absurd hc103 (fun z => by have := Int32.lt_iff_toInt_lt.mp z; have := tok.2.1; simp only [Int32.reduceToInt] at *; omega))
  refine o_iload (pc' := 110) X87 hx (hb hby at_108) rfl rfl ?_
  refine o_bipush (v := (6 : Int32)) (pc' := 112) X87 hx (hb hby at_110) (by decide) rfl ?_
  suffices J127 : Ends p e below s (Q0 Z p1 p2 p3 p4 p5 p6 h0) room_1.cells room_1.slots (T87.setTop (mkF m 127 #[.val (.int p1), .val (.int p2), .val (.int p3), .val (.int p4), .val (.int p5), .val (.int p6), .val (.ref t), .val (.int q), .val (.int r)] [])) by
    refine o_icmp_ge (p1 := 115) (p2 := 127) X87 hx (hb hby at_112) rfl (by decide) (by decide) (fun hc112 => ?_) (fun hc112 => ?_)
    · exact J127
    · refine o_aload (pc' := 117) X87 hx (hb hby at_115) rfl rfl rfl ?_
      refine o_iload (pc' := 119) X87 hx (hb hby at_117) rfl rfl ?_
      have hr6 := (own_lt6 r).mp hc112
      have := tok.1
      refine o_iaload (pc' := 120) X87 hx hZ e87 A73 (Cg.inb (by omega) (by omega)) (Cg.at (by omega) (by omega)) (hb hby at_119) rfl ?_
      show Ends p e below s (Q0 Z p1 p2 p3 p4 p5 p6 h0) room_1.cells room_1.slots (T87.setTop (mkF m 120 #[.val (.int p1), .val (.int p2), .val (.int p3), .val (.int p4), .val (.int p5), .val (.int p6), .val (.ref t), .val (.int q), .val (.int r)] [(.int (gi r.toNatClampNeg))]))
      refine o_bipush (v := (32 : Int32)) (pc' := 122) X87 hx (hb hby at_120) (by decide) rfl ?_
      refine o_icmp_eq (p1 := 125) (p2 := 127) X87 hx (hb hby at_122) rfl (by decide) (by decide) (fun hc122 => ?_) (fun hc122 => absurd (tok.2.2.1 hr6) hc122)
      exact J127
  refine o_aload (pc' := 129) X87 hx (hb hby at_127) rfl rfl rfl ?_
  refine o_iload (pc' := 131) X87 hx (hb hby at_129) rfl rfl ?_
  refine o_iload (pc' := 133) X87 hx (hb hby at_131) rfl rfl ?_
  refine o_iconst (v := (0 : Int32)) (pc' := 134) X87 hx (hb hby at_133) (by decide) rfl ?_
  refine o_callS (W := 0) (pc' := 137) (rm := ({ frames := 0, cells := 0, slots := 0, locals := 0 } : Room)) (argsL := [(.ref t), (.int q), (.int r), (.int (0 : Int32))]) (rest := []) X87 hx hZ hown (hw _ (List.mem_of_getElem? (i := 10) rfl)) (hw _ (List.mem_of_getElem? (i := 11) rfl)) (hw _ (List.mem_of_getElem? (i := 3) rfl)) (hw _ (List.mem_of_getElem? (i := 12) rfl)) (by decide) e87 (rm3 l Z a0 hw t q r (0 : Int32) _ gi h73 A73 Cg (by decide) (by decide)) (by rw [hml]; rfl) pd_3 rfl rfl (hb hby at_134) rfl (by decide) rfl (by decide) (by decide) (by decide) ?_
  rintro _ T134 L134 ⟨rfl, rfl, e134⟩ X134
  show Ends p e below s (Q0 Z p1 p2 p3 p4 p5 p6 h0) room_1.cells room_1.slots (T134.setTop (mkF m 137 #[.val (.int p1), .val (.int p2), .val (.int p3), .val (.int p4), .val (.int p5), .val (.int p6), .val (.ref t), .val (.int q), .val (.int r)] [(.int (fc gi q r (0 : Int32)))]))
  refine o_if_eq (p1 := 140) (p2 := 209) X134 hx (hb hby at_137) rfl (by decide) (by decide) (fun hc137 => absurd hc137 (fun z => own_fc tok z)) (fun hc137 => ?_)
  refine o_aload (pc' := 142) X134 hx (hb hby at_140) rfl rfl rfl ?_
  refine o_iload (pc' := 144) X134 hx (hb hby at_142) rfl rfl ?_
  refine o_iload (pc' := 146) X134 hx (hb hby at_144) rfl rfl ?_
  refine o_iconst (v := (1 : Int32)) (pc' := 147) X134 hx (hb hby at_146) (by decide) rfl ?_
  refine o_callS (W := 0) (pc' := 150) (rm := ({ frames := 0, cells := 0, slots := 0, locals := 0 } : Room)) (argsL := [(.ref t), (.int q), (.int r), (.int (1 : Int32))]) (rest := []) X134 hx hZ hown (hw _ (List.mem_of_getElem? (i := 10) rfl)) (hw _ (List.mem_of_getElem? (i := 11) rfl)) (hw _ (List.mem_of_getElem? (i := 3) rfl)) (hw _ (List.mem_of_getElem? (i := 12) rfl)) (by decide) e134 (rm3 l Z a0 hw t q r (1 : Int32) _ gi h73 A73 Cg (by decide) (by decide)) (by rw [hml]; rfl) pd_3 rfl rfl (hb hby at_147) rfl (by decide) rfl (by decide) (by decide) (by decide) ?_
  rintro _ T147 L147 ⟨rfl, rfl, e147⟩ X147
  show Ends p e below s (Q0 Z p1 p2 p3 p4 p5 p6 h0) room_1.cells room_1.slots (T147.setTop (mkF m 150 #[.val (.int p1), .val (.int p2), .val (.int p3), .val (.int p4), .val (.int p5), .val (.int p6), .val (.ref t), .val (.int q), .val (.int r)] [(.int (fc gi q r (1 : Int32)))]))
  refine o_if_eq (p1 := 153) (p2 := 209) X147 hx (hb hby at_150) rfl (by decide) (by decide) (fun hc150 => absurd hc150 (fun z => own_fc tok z)) (fun hc150 => ?_)
  refine o_aload (pc' := 155) X147 hx (hb hby at_153) rfl rfl rfl ?_
  refine o_iload (pc' := 157) X147 hx (hb hby at_155) rfl rfl ?_
  refine o_iload (pc' := 159) X147 hx (hb hby at_157) rfl rfl ?_
  refine o_iconst (v := (2 : Int32)) (pc' := 160) X147 hx (hb hby at_159) (by decide) rfl ?_
  refine o_callS (W := 0) (pc' := 163) (rm := ({ frames := 0, cells := 0, slots := 0, locals := 0 } : Room)) (argsL := [(.ref t), (.int q), (.int r), (.int (2 : Int32))]) (rest := []) X147 hx hZ hown (hw _ (List.mem_of_getElem? (i := 10) rfl)) (hw _ (List.mem_of_getElem? (i := 11) rfl)) (hw _ (List.mem_of_getElem? (i := 3) rfl)) (hw _ (List.mem_of_getElem? (i := 12) rfl)) (by decide) e147 (rm3 l Z a0 hw t q r (2 : Int32) _ gi h73 A73 Cg (by decide) (by decide)) (by rw [hml]; rfl) pd_3 rfl rfl (hb hby at_160) rfl (by decide) rfl (by decide) (by decide) (by decide) ?_
  rintro _ T160 L160 ⟨rfl, rfl, e160⟩ X160
  show Ends p e below s (Q0 Z p1 p2 p3 p4 p5 p6 h0) room_1.cells room_1.slots (T160.setTop (mkF m 163 #[.val (.int p1), .val (.int p2), .val (.int p3), .val (.int p4), .val (.int p5), .val (.int p6), .val (.ref t), .val (.int q), .val (.int r)] [(.int (fc gi q r (2 : Int32)))]))
  refine o_if_eq (p1 := 166) (p2 := 209) X160 hx (hb hby at_163) rfl (by decide) (by decide) (fun hc163 => absurd hc163 (fun z => own_fc tok z)) (fun hc163 => ?_)
  refine o_aload (pc' := 168) X160 hx (hb hby at_166) rfl rfl rfl ?_
  refine o_iload (pc' := 170) X160 hx (hb hby at_168) rfl rfl ?_
  refine o_iload (pc' := 172) X160 hx (hb hby at_170) rfl rfl ?_
  refine o_iconst (v := (3 : Int32)) (pc' := 173) X160 hx (hb hby at_172) (by decide) rfl ?_
  refine o_callS (W := 0) (pc' := 176) (rm := ({ frames := 0, cells := 0, slots := 0, locals := 0 } : Room)) (argsL := [(.ref t), (.int q), (.int r), (.int (3 : Int32))]) (rest := []) X160 hx hZ hown (hw _ (List.mem_of_getElem? (i := 10) rfl)) (hw _ (List.mem_of_getElem? (i := 11) rfl)) (hw _ (List.mem_of_getElem? (i := 3) rfl)) (hw _ (List.mem_of_getElem? (i := 12) rfl)) (by decide) e160 (rm3 l Z a0 hw t q r (3 : Int32) _ gi h73 A73 Cg (by decide) (by decide)) (by rw [hml]; rfl) pd_3 rfl rfl (hb hby at_173) rfl (by decide) rfl (by decide) (by decide) (by decide) ?_
  rintro _ T173 L173 ⟨rfl, rfl, e173⟩ X173
  show Ends p e below s (Q0 Z p1 p2 p3 p4 p5 p6 h0) room_1.cells room_1.slots (T173.setTop (mkF m 176 #[.val (.int p1), .val (.int p2), .val (.int p3), .val (.int p4), .val (.int p5), .val (.int p6), .val (.ref t), .val (.int q), .val (.int r)] [(.int (fc gi q r (3 : Int32)))]))
  refine o_if_eq (p1 := 179) (p2 := 209) X173 hx (hb hby at_176) rfl (by decide) (by decide) (fun hc176 => absurd hc176 (fun z => own_fc tok z)) (fun hc176 => ?_)
  refine o_aload (pc' := 181) X173 hx (hb hby at_179) rfl rfl rfl ?_
  refine o_iload (pc' := 183) X173 hx (hb hby at_181) rfl rfl ?_
  refine o_iload (pc' := 185) X173 hx (hb hby at_183) rfl rfl ?_
  refine o_iconst (v := (4 : Int32)) (pc' := 186) X173 hx (hb hby at_185) (by decide) rfl ?_
  refine o_callS (W := 0) (pc' := 189) (rm := ({ frames := 0, cells := 0, slots := 0, locals := 0 } : Room)) (argsL := [(.ref t), (.int q), (.int r), (.int (4 : Int32))]) (rest := []) X173 hx hZ hown (hw _ (List.mem_of_getElem? (i := 10) rfl)) (hw _ (List.mem_of_getElem? (i := 11) rfl)) (hw _ (List.mem_of_getElem? (i := 3) rfl)) (hw _ (List.mem_of_getElem? (i := 12) rfl)) (by decide) e173 (rm3 l Z a0 hw t q r (4 : Int32) _ gi h73 A73 Cg (by decide) (by decide)) (by rw [hml]; rfl) pd_3 rfl rfl (hb hby at_186) rfl (by decide) rfl (by decide) (by decide) (by decide) ?_
  rintro _ T186 L186 ⟨rfl, rfl, e186⟩ X186
  show Ends p e below s (Q0 Z p1 p2 p3 p4 p5 p6 h0) room_1.cells room_1.slots (T186.setTop (mkF m 189 #[.val (.int p1), .val (.int p2), .val (.int p3), .val (.int p4), .val (.int p5), .val (.int p6), .val (.ref t), .val (.int q), .val (.int r)] [(.int (fc gi q r (4 : Int32)))]))
  refine o_if_eq (p1 := 192) (p2 := 209) X186 hx (hb hby at_189) rfl (by decide) (by decide) (fun hc189 => absurd hc189 (fun z => own_fc tok z)) (fun hc189 => ?_)
  refine o_aload (pc' := 194) X186 hx (hb hby at_192) rfl rfl rfl ?_
  refine o_iload (pc' := 196) X186 hx (hb hby at_194) rfl rfl ?_
  refine o_iload (pc' := 198) X186 hx (hb hby at_196) rfl rfl ?_
  refine o_iconst (v := (5 : Int32)) (pc' := 199) X186 hx (hb hby at_198) (by decide) rfl ?_
  refine o_callS (W := 0) (pc' := 202) (rm := ({ frames := 0, cells := 0, slots := 0, locals := 0 } : Room)) (argsL := [(.ref t), (.int q), (.int r), (.int (5 : Int32))]) (rest := []) X186 hx hZ hown (hw _ (List.mem_of_getElem? (i := 10) rfl)) (hw _ (List.mem_of_getElem? (i := 11) rfl)) (hw _ (List.mem_of_getElem? (i := 3) rfl)) (hw _ (List.mem_of_getElem? (i := 12) rfl)) (by decide) e186 (rm3 l Z a0 hw t q r (5 : Int32) _ gi h73 A73 Cg (by decide) (by decide)) (by rw [hml]; rfl) pd_3 rfl rfl (hb hby at_199) rfl (by decide) rfl (by decide) (by decide) (by decide) ?_
  rintro _ T199 L199 ⟨rfl, rfl, e199⟩ X199
  show Ends p e below s (Q0 Z p1 p2 p3 p4 p5 p6 h0) room_1.cells room_1.slots (T199.setTop (mkF m 202 #[.val (.int p1), .val (.int p2), .val (.int p3), .val (.int p4), .val (.int p5), .val (.int p6), .val (.ref t), .val (.int q), .val (.int r)] [(.int (fc gi q r (5 : Int32)))]))
  refine o_if_eq (p1 := 205) (p2 := 209) X199 hx (hb hby at_202) rfl (by decide) (by decide) (fun hc202 => absurd hc202 (fun z => own_fc tok z)) (fun hc202 => ?_)
  refine o_iconst (v := (1 : Int32)) (pc' := 206) X199 hx (hb hby at_205) (by decide) rfl ?_
  refine o_goto (pc' := 210) X199 hx (hb hby at_206) (by decide) (by decide) ?_
  exact o_retZ X199 hx hlk hret (hb hby at_210) (by decide) ⟨rfl, by first | exact N73 | simpa using N73⟩ (by decide) (by decide)
set_option maxRecDepth 65536 in
set_option maxHeartbeats 40000000 in
theorem comes_1 {Post : Tables → Env → Array Value → State → Outcome → State → Prop} (hpost : ∀ tb e args s v u, (limb_1_1.after args s (.returned v) u = true ∧ limb_1_2.after args s (.returned v) u = true ∧ True) → FrameEnd s (.returned v) u (Jvm.fieldLocs frame_1_writes args s ++ Jvm.arrayLocs frame_1_arrays args s ++ Jvm.staticLocs frame_1_statics s) 16 128 → Post tb e args s (.returned v) u) :
    ArmFor flags0 classFile x code maxLocals ret World_1 tables_1 room_1 Calls_1 rest_1 Pre_1 Post := by
  intro l hfl _ _ p e ha hc hk s m args below hf hA hF happ hP
  obtain ⟨hcalls, hrest, hpre⟩ := hP
  obtain ⟨-, -, -, hnamed, -, -, -, hat⟩ := (Spec.applies_iff hf).mp happ
  obtain ⟨hg, hn⟩ := and_e (Cond.before_iff.mp (show (Jvm.Cond.and given_1 narrow_1).before args s = true from hpre))
  obtain ⟨g0, gr0⟩ := and_e hg
  obtain ⟨g1, gr1⟩ := and_e gr0
  obtain ⟨g2, gr2⟩ := and_e gr1
  obtain ⟨g3, gr3⟩ := and_e gr2
  obtain ⟨g4, gr4⟩ := and_e gr3
  obtain ⟨g5, gr5⟩ := and_e gr4
  obtain ⟨w0, w1, w2, w3, w4, w5, rfl⟩ : ∃ w0 w1 w2 w3 w4 w5 : Value, args = #[w0, w1, w2, w3, w4, w5] := by
    have hs : args.size = 6 := by simpa [Cond.value, given_1] using g0
    obtain ⟨L⟩ := args
    match L, hs with
    | [w0, w1, w2, w3, w4, w5], _ => exact ⟨w0, w1, w2, w3, w4, w5, rfl⟩
  have hw := fun d (hd : d ∈ tables_1) => atoms_spec (ws := Jvm.Cond.code x code maxLocals ret :: tables_1) hat d (List.mem_cons_of_mem _ hd)
  have hfit : Fit s := fun {y c} hc i hi => by
    obtain ⟨ha, rfl⟩ := Array.getElem?_eq_some_iff.mp hc
    have q := List.all_eq_true.mp ((Array.all_eq_true_iff_forall_mem.mp hF) _ (Array.getElem_mem ha)) i (List.mem_range.mpr hi)
    simpa [Array.getElem?_eq_getElem hi] using q
  obtain ⟨i0, ei0⟩ := is_v g1
  obtain rfl : w0 = (.int i0) := Option.some.inj ei0
  obtain ⟨i1, ei1⟩ := is_v g2
  obtain rfl : w1 = (.int i1) := Option.some.inj ei1
  obtain ⟨i2, ei2⟩ := is_v g3
  obtain rfl : w2 = (.int i2) := Option.some.inj ei2
  obtain ⟨i3, ei3⟩ := is_v g4
  obtain rfl : w3 = (.int i3) := Option.some.inj ei3
  obtain ⟨i4, ei4⟩ := is_v g5
  obtain rfl : w4 = (.int i4) := Option.some.inj ei4
  obtain ⟨i5, ei5⟩ := is_v gr5
  obtain rfl : w5 = (.int i5) := Option.some.inj ei5
  obtain ⟨n, o, h1, h2, h3, _, L, rfl, ⟨rfl, N⟩, hq⟩ := rm0 l s _ hw i0 i1 i2 i3 i4 i5 s.heap tables_1 p e ha hc hk s m _ below hf ((Spec.applies_iff_loose hf).mp happ).1 ⟨rfl, State.Warmed39.refl s, rfl⟩ trivial
  refine ⟨n, _, h1, h2, h3, hpost _ _ _ _ _ _ ⟨Cond.after_iff.mpr rfl, Cond.after_iff.mpr (eq_i res_at (Term.int_eval (1)) rfl), trivial⟩ ⟨hq.1, hq.2.1, (hq.2.2.sift fun y hy => Or.inr (N y hy)).mono (by decide) (by decide)⟩⟩
theorem main_1_1 : Claimed_1_1 := comes_1 fun _ _ _ _ _ _ h hF => ⟨h.1, hF⟩
theorem main_1_2 : Claimed_1_2 := comes_1 fun _ _ _ _ _ _ h hF => ⟨h.2.1, hF⟩
end Jvm.Pilot.@@N@@
namespace Jvm.Pilot.@@N@@
open Jvm Jvm.ClassFile Sem Op Lib Jvm.Free Jvm.Stand Jvm.Pilot.@@N@@.Jvm.D
/-! MADE BY PROGRAM (witnessworld.py) out of the Statement's table words and the real class files: 9 classes; the members and pool entries that the words name. The judged class is class 1, her method 3. -/
namespace start1
open Jvm.ClassFile
def u (s : String) : CpInfo := .utf8 (stringToUtf16 s)
/-- a pool by its gaps: so many unusable entries, then the entry; so many at the end -/
def gap : Nat → List CpInfo → List CpInfo
  | 0, r => r
  | n + 1, r => .unusable :: gap n r
def poolList (es : List (Nat × CpInfo)) (last : Nat) : List CpInfo := es.foldr (fun e r => gap e.1 (e.2 :: r)) (gap last [])
def pool (es : List (Nat × CpInfo)) (last : Nat) : Array CpInfo := ⟨poolList es last⟩
def fileOf (pool : Array CpInfo) (this : Nat) (attrs : Array Attribute := #[]) (ms : Array MethodInfo := #[]) (fl : Nat := 33) (sup : Nat := 0) (ifs : Array Nat := #[]) (fds : Array FieldInfo := #[]) : ClassFile where
  minorVersion := 0
  majorVersion := 65
  constantPool := pool
  accessFlags := fl
  thisClass := this
  superClass := sup
  interfaces := ifs
  fields := fds
  methods := ms
  attributes := attrs
def plain (name : String) (sup : Option ClassId) : Class where
  name := name
  kind := .ordinary
  loader := none
  accessFlags := 33
  super := sup
  interfaces := #[]
  cf := none
  fields := #[]
  methods := #[]
  instanceTypes := #[]
  staticTypes := #[]
  resolved := #[]
  callSites := []
  init := .initialized
  statics := none
  mirror := none

def pool0 : Array CpInfo := pool [(5, u "<init>"), (0, u "()V"), (1, .class_ 10), (1, u "java/lang/Object")] 113

def k0m0 : Method := { name := "<init>", desc := "()V", sig := { parameters := [], returnType := none }, accessFlags := 1, code := none }
/-- java/lang/Object -/
def k0 : Class := { plain "java/lang/Object" none with
  accessFlags := 33
  interfaces := #[]
  cf := some (fileOf pool0 8 #[] #[{ accessFlags := 1, nameIndex := 5, descriptorIndex := 6, attributes := #[] }] 33 0 #[] #[])
  fields := #[]
  methods := #[k0m0]
  instanceTypes := #[]
  staticTypes := #[]
  resolved := Array.replicate 124 none
  statics := none }

def pool1 : Array CpInfo := pool [(2, .class_ 4), (1, u "java/lang/Object"), (0, u "<init>"), (0, u "()V"), (0, .methodref 8 9), (0, .class_ 10), (0, .nameAndType 11 12), (0, u "com/example/sugglint/sugglint/match/NamesTokenEndPinLaw"), (0, u "pick"), (0, u "(III)I"), (0, .integer 2147483647), (0, .methodref 15 16), (0, .class_ 17), (0, .nameAndType 18 19), (0, u "com/example/sugglint/sugglint/match/Names"), (0, u "tokenEnd"), (0, u "([II)I"), (0, .methodref 8 21), (0, .nameAndType 22 23), (0, u "clear"), (0, u "([IIII)Z"), (3, u "law"), (0, u "(IIIIII)Z")] 4

def k1m0 : Method := { name := "<init>", desc := "()V", sig := { parameters := [], returnType := none }, accessFlags := 2, code := none }
def k1c1 : Code := { maxStack := 2, maxLocals := 3, code := method_2_code, exceptionTable := #[], attributes := #[] }
def k1m1 : Method := { name := "pick", desc := "(III)I", sig := { parameters := [.int, .int, .int], returnType := some .int }, accessFlags := 10, code := some k1c1 }
def k1c2 : Code := { maxStack := 2, maxLocals := 4, code := method_3_code, exceptionTable := #[], attributes := #[] }
def k1m2 : Method := { name := "clear", desc := "([IIII)Z", sig := { parameters := [(.array .int), .int, .int, .int], returnType := some .boolean }, accessFlags := 10, code := some k1c2 }
def k1c3 : Code := { maxStack := 6, maxLocals := 9, code := code, exceptionTable := #[], attributes := #[] }
def k1m3 : Method := { name := "law", desc := "(IIIIII)Z", sig := { parameters := [.int, .int, .int, .int, .int, .int], returnType := some .boolean }, accessFlags := 9, code := some k1c3 }
/-- com/example/sugglint/sugglint/match/NamesTokenEndPinLaw -/
def k1 : Class := { plain "com/example/sugglint/sugglint/match/NamesTokenEndPinLaw" (some 0) with
  accessFlags := 49
  interfaces := #[]
  cf := some (fileOf pool1 8 #[] #[{ accessFlags := 2, nameIndex := 5, descriptorIndex := 6, attributes := #[] }, { accessFlags := 10, nameIndex := 11, descriptorIndex := 12, attributes := #[] }, { accessFlags := 10, nameIndex := 22, descriptorIndex := 23, attributes := #[] }, { accessFlags := 9, nameIndex := 27, descriptorIndex := 28, attributes := #[] }] 49 2 #[] #[])
  fields := #[]
  methods := #[k1m0, k1m1, k1m2, k1m3]
  instanceTypes := #[]
  staticTypes := #[]
  resolved := Array.replicate 33 none
  statics := none }

def pool2 : Array CpInfo := pool [(2, .class_ 4), (1, u "java/lang/Object"), (0, u "<init>"), (0, u "()V"), (1, .class_ 10), (1, u "com/example/sugglint/sugglint/match/Names"), (48, .class_ 60), (0, u "com/example/sugglint/sugglint/match/Names$Counter"), (3, .class_ 65), (0, u "com/example/sugglint/sugglint/match/Names$Writer"), (8, .class_ 75), (0, u "com/example/sugglint/sugglint/match/Names$Joined"), (41, .class_ 119), (1, u "com/example/sugglint/sugglint/match/Names$Bounds"), (62, u "tokenEnd"), (0, u "([II)I")] 33

def k2m0 : Method := { name := "<init>", desc := "()V", sig := { parameters := [], returnType := none }, accessFlags := 2, code := none }
def k2c1 : Code := { maxStack := 2, maxLocals := 3, code := prog_13_method_6_code, exceptionTable := #[], attributes := #[] }
def k2m1 : Method := { name := "tokenEnd", desc := "([II)I", sig := { parameters := [(.array .int), .int], returnType := some .int }, accessFlags := 8, code := some k2c1 }
/-- com/example/sugglint/sugglint/match/Names -/
def k2 : Class := { plain "com/example/sugglint/sugglint/match/Names" (some 0) with
  accessFlags := 33
  interfaces := #[]
  cf := some (fileOf pool2 8 #[.nestMembers #[64, 59, 117, 74]] #[{ accessFlags := 2, nameIndex := 5, descriptorIndex := 6, attributes := #[] }, { accessFlags := 8, nameIndex := 182, descriptorIndex := 183, attributes := #[] }] 33 2 #[] #[])
  fields := #[]
  methods := #[k2m0, k2m1]
  instanceTypes := #[]
  staticTypes := #[]
  resolved := Array.replicate 217 none
  statics := none }

def pool3 : Array CpInfo := pool [(1, u "java/lang/Cloneable"), (0, .class_ 1), (0, u "java/lang/Object"), (0, .class_ 3)] 3

/-- java/lang/Cloneable -/
def k3 : Class := { plain "java/lang/Cloneable" (some 0) with
  accessFlags := 1537
  interfaces := #[]
  cf := some (fileOf pool3 2 #[] #[] 1537 4 #[] #[])
  fields := #[]
  methods := #[]
  instanceTypes := #[]
  staticTypes := #[]
  resolved := Array.replicate 8 none
  statics := none }

def pool4 : Array CpInfo := pool [(1, u "java/io/Serializable"), (0, .class_ 1), (0, u "java/lang/Object"), (0, .class_ 3)] 3

/-- java/io/Serializable -/
def k4 : Class := { plain "java/io/Serializable" (some 0) with
  accessFlags := 1537
  interfaces := #[]
  cf := some (fileOf pool4 2 #[] #[] 1537 4 #[] #[])
  fields := #[]
  methods := #[]
  instanceTypes := #[]
  staticTypes := #[]
  resolved := Array.replicate 8 none
  statics := none }

/-- the primitive byte -/
def k5 : Class := { plain "byte" none with kind := .primitive 'B', accessFlags := 0x411 }
/-- [B -/
def k6 : Class := { plain "[B" (some 0) with kind := .array 5 .byte, interfaces := #[3, 4], accessFlags := 1041 }

/-- the primitive int -/
def k7 : Class := { plain "int" none with kind := .primitive 'I', accessFlags := 0x411 }
/-- [I -/
def k8 : Class := { plain "[I" (some 0) with kind := .array 7 .int, interfaces := #[3, 4], accessFlags := 1041 }

def heap : Heap := #[]
def classes : Array Class := #[k0, k1, k2, k3, k4, k5, k6, k7, k8]
def interned : List (Array UInt16 × Addr) := []
def slotsUsed : Nat := 0
def theMethod : MethodId := ⟨1, 3⟩
def args0 : Array Value := #[.int 5, .int 3, .int 65, .int 66, .int 67, .int 68]
def aboutOver (below : List Frame) : State where
  vm := { classes := classes, interned := interned.toArray }
  heap := heap
  slotsUsed := slotsUsed
  threads := #[{ frames := .invoking theMethod args0 :: below }]
def below0 : List Frame := [.native { method := ⟨0, 0⟩, args := #[] }]
def about1 : State := aboutOver below0
def p0 : Program := .bare "" "" ""
def e0 : Env := launch0.env 0 0 0
theorem w_frames : about1.frames = Frame.invoking theMethod args0 :: below0 := rfl
set_option maxRecDepth 65536 in
theorem w_args : argsFit about1.vm theMethod args0 = true := by decide +kernel
set_option maxRecDepth 65536 in
theorem w_heap : heapFits about1 = true := by decide +kernel
set_option maxRecDepth 65536 in
theorem w_runnable : about1.curStatus? = some .runnable := by decide +kernel
set_option maxRecDepth 65536 in
theorem w_alone : about1.alone = true := by decide +kernel
set_option maxRecDepth 65536 in
theorem w_named : about1.methodNamed? x = some theMethod := by decide +kernel
set_option maxRecDepth 65536 in
theorem w_hears : about1.hears theMethod below0 = true := by decide +kernel
set_option maxRecDepth 65536 in
theorem w_ripe : about1.ripe theMethod args0 below0 = true := by decide +kernel
theorem w_running : about1.status = .running := rfl
set_option maxRecDepth 65536 in
theorem w_room : about1.hasRoom e0.platform room_1 = true :=
  launch0.hasRoom_least _ room_1 (by decide +kernel) (by decide +kernel) (by decide +kernel) (by decide +kernel) (by decide +kernel) (by decide +kernel)
theorem allAtoms_all (ts : List Jvm.Cond) (a : Array Jvm.Value) (st : Jvm.State) : (allAtoms ts).before a st = ts.all (fun c => c.before a st) := by
  induction ts with
  | nil => rfl
  | cons c t ih =>
    show (Jvm.Cond.and c (allAtoms t)).before a st = _
    rw [Jvm.Cond.before_and, ih, List.all_cons]
def words1 : List Jvm.Cond := Jvm.Cond.code x code maxLocals ret :: tables_1
/-- a 'code' word, met by the world's own term for the bytes: nothing is compared byte by byte -/
theorem code_word {y : MethodName} {bytes : ByteArray} {mx : Nat} {rt : Option FieldType} {a : Array Value} {s : State} {m : MethodId} {meth : Method} {c : Code} (h1 : s.methodNamed? y = some m) (h2 : s.vm.method? m = some meth) (h3 : meth.code = some c) (h4 : c.code = bytes)
    (h5 : (c.maxLocals == mx && c.exceptionTable.isEmpty && decide (c.maxStack ≤ mostOperands) && decide (meth.sig.returnType = rt) && !meth.locks && decide (parseMethodDescriptor y.desc = some meth.sig)) = true) : (Jvm.Cond.code y bytes mx rt).before a s = true := by
  simp only [Bool.and_eq_true, beq_iff_eq, Bool.not_eq_true', decide_eq_true_eq] at h5
  obtain ⟨⟨⟨⟨⟨g1, g2⟩, g3⟩, g4⟩, g5⟩, g6⟩ := h5
  simp [Cond.before, Cond.holds, Cond.value, h1, h2, h3, h4, g1, g2, g3, g4, g5, g6]
def isCode : Jvm.Cond → Bool
  | .code _ _ _ _ => true
  | _ => false
theorem all_split {L : List Jvm.Cond} {P : Jvm.Cond → Bool} (h1 : L.all (fun c => isCode c || P c) = true) (h2 : ∀ c ∈ L.filter isCode, P c = true) : L.all P = true := by
  refine List.all_eq_true.mpr fun c hc => ?_
  have h := List.all_eq_true.mp h1 c hc
  rcases Bool.eq_false_or_eq_true (isCode c) with hi | hi
  · exact h2 c (List.mem_filter.mpr ⟨hc, hi⟩)
  · simpa [hi] using h
set_option maxRecDepth 65536 in
theorem w_c0 : (Jvm.Cond.code x code maxLocals ret).before args0 about1 = true := code_word (m := ⟨1, 3⟩) (meth := k1m3) (c := k1c3) (by decide +kernel) rfl rfl rfl (by decide +kernel)
set_option maxRecDepth 65536 in
theorem w_c1 : (Jvm.Cond.code ({ cls := "com/example/sugglint/sugglint/match/NamesTokenEndPinLaw", name := "pick", desc := "(III)I" } : Jvm.MethodName) method_2_code (3 : Nat) (Option.some Jvm.ClassFile.FieldType.int)).before args0 about1 = true := code_word (m := ⟨1, 1⟩) (meth := k1m1) (c := k1c1) (by decide +kernel) rfl rfl rfl (by decide +kernel)
set_option maxRecDepth 65536 in
theorem w_c2 : (Jvm.Cond.code ({ cls := "com/example/sugglint/sugglint/match/Names", name := "tokenEnd", desc := "([II)I" } : Jvm.MethodName) prog_13_method_6_code (3 : Nat) (Option.some Jvm.ClassFile.FieldType.int)).before args0 about1 = true := code_word (m := ⟨2, 1⟩) (meth := k2m1) (c := k2c1) (by decide +kernel) rfl rfl rfl (by decide +kernel)
set_option maxRecDepth 65536 in
theorem w_c3 : (Jvm.Cond.code ({ cls := "com/example/sugglint/sugglint/match/NamesTokenEndPinLaw", name := "clear", desc := "([IIII)Z" } : Jvm.MethodName) method_3_code (4 : Nat) (Option.some Jvm.ClassFile.FieldType.boolean)).before args0 about1 = true := code_word (m := ⟨1, 2⟩) (meth := k1m2) (c := k1c2) (by decide +kernel) rfl rfl rfl (by decide +kernel)
def codes1 : List Jvm.Cond := [Jvm.Cond.code x code maxLocals ret, Jvm.Cond.code ({ cls := "com/example/sugglint/sugglint/match/NamesTokenEndPinLaw", name := "pick", desc := "(III)I" } : Jvm.MethodName) method_2_code (3 : Nat) (Option.some Jvm.ClassFile.FieldType.int), Jvm.Cond.code ({ cls := "com/example/sugglint/sugglint/match/Names", name := "tokenEnd", desc := "([II)I" } : Jvm.MethodName) prog_13_method_6_code (3 : Nat) (Option.some Jvm.ClassFile.FieldType.int), Jvm.Cond.code ({ cls := "com/example/sugglint/sugglint/match/NamesTokenEndPinLaw", name := "clear", desc := "([IIII)Z" } : Jvm.MethodName) method_3_code (4 : Nat) (Option.some Jvm.ClassFile.FieldType.boolean)]
set_option maxRecDepth 65536 in
theorem codes_eq : words1.filter isCode = codes1 := rfl
theorem w_codes : ∀ c ∈ words1.filter isCode, c.before args0 about1 = true := by
  rw [codes_eq]
  intro c hc
  simp only [codes1, List.mem_cons, List.not_mem_nil, or_false] at hc
  rcases hc with rfl | rfl | rfl | rfl
  · exact w_c0
  · exact w_c1
  · exact w_c2
  · exact w_c3
set_option maxRecDepth 65536 in
theorem w_t1 : words1.all (fun c => isCode c || c.before args0 about1) = true := by decide +kernel
theorem w_tables : (allAtoms (Jvm.Cond.code x code maxLocals ret :: tables_1)).before args0 about1 = true := by
  rw [allAtoms_all]
  show words1.all (fun c => c.before args0 about1) = true
  refine all_split ?_ w_codes
  rw [w_t1]
set_option maxRecDepth 65536 in
theorem w_case : (Jvm.Cond.and given_1 narrow_1).before args0 about1 = true := by decide +kernel
theorem w_applies : (headSpec (Jvm.Cond.code x code maxLocals ret :: tables_1) room_1).applies x e0.platform about1 = true :=
  (Spec.applies_iff w_frames).mpr ⟨w_running, w_runnable, w_alone, w_named, w_hears, w_ripe, w_room, w_tables⟩
theorem atStart : AtStart classFile x code maxLocals ret World_1 tables_1 room_1 Calls_1 rest_1 Pre_1 launch0 p0 e0 about1 theMethod args0 below0 :=
  ⟨lists_1, trivial, launch0.admits_env _ _ _, launch0.least_env, fairChoices_fair.cas, fairChoices_fair.clock, w_frames, w_args, w_heap, w_applies, trivial, trivial, w_case⟩
end start1
theorem witness_1 : WitnessClaimed_1 := ⟨start1.p0, start1.e0, start1.about1, start1.theMethod, start1.args0, start1.below0, start1.atStart⟩
end Jvm.Pilot.@@N@@
