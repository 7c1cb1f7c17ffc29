import JvmDerived
import JvmDerived.Pilot.@@N@@Statement
import JvmDerived.Pilot.@@N@@Code
set_option linter.unusedVariables false
set_option linter.unusedSimpArgs false

namespace Jvm.Pilot.@@N@@
open Jvm Jvm.ClassFile Sem Op Lib Jvm.Free Jvm.Stand Jvm.LawKit Jvm.RoadKit Bundle Jvm.Pilot.@@N@@.Jvm.D
/-- from the state S the invocation runs to its end and Q holds there -/
def Ends (p : Program) (e : Env) (below : List Frame) (s : State) (Q : Option Value → Heap → List Loc → Prop) (K N : Nat) (S : State) : Prop :=
  ∃ s₂ o, Steps p.tables e below S s₂ ∧ s₂.status = .running ∧ Ended s₂ below o ∧ ∃ v L, o = .returned v ∧ Q v s₂.heap L ∧ FrameEnd s o s₂ L K N
/-- a method's contract at given arguments and heap -/
def Con (l : Launch) (Z : State) (y : MethodName) (bytes : ByteArray) (maxL : Nat) (rt : Option FieldType) (rm : Room) (as' : Array Value) (h0 : Heap) (Q : Option Value → Heap → List Loc → Prop) : Prop :=
  ∀ ws, MetFree l y (head1 (Jvm.Cond.code y bytes maxL rt :: ws) rm) (fun a U => a = as' ∧ Z.Warmed39 U.vm ∧ U.heap = h0) (fun _ _ _ _ _ => True) (fun _ U o U' => ∃ v L, o = .returned v ∧ Q v U'.heap L ∧ FrameEnd U o U' L rm.cells rm.slots)
section Own
variable {p : Program} {l : Launch} {e : Env} {R : Room} {s : State} {m : MethodId} {args : Array Value} {below : List Frame} {meth : Method} {c : Code} {T : State} {locs : List Loc} {cells slots : Nat} {Q : Option Value → Heap → List Loc → Prop} {K N : Nat} {pc pc' : Nat} {Ls Ls' : Array Slot} {st : List Value} {Z : State} {a0 : Array Value} {h : Heap}
theorem Ends.go {S S' : State} (g : ∀ t, Steps p.tables e below S' t → Steps p.tables e below S t) (E : Ends p e below s Q K N S') : Ends p e below s Q K N S := by
  obtain ⟨s2, o, h1, r⟩ := E; exact ⟨s2, o, g _ h1, r⟩
theorem Con.ofP {y : MethodName} {bytes : ByteArray} {maxL : Nat} {rt : Option FieldType} {rm : Room} {as' : Array Value} {h0 : Heap} (hn : plainFor y = true)
    (body : ∀ (p : Program) (e : Env) (s : State) (m : MethodId) (below : List Frame) (meth : Method) (c : Code) (T : State), Stand p l e rm s m as' below meth c T [] 0 0 → p.tables.exec = Jvm.exec → c.code = bytes → c.maxLocals = maxL → meth.sig.returnType = rt → meth.locks = false → s.vm.findClass y.cls = some m.cls → meth.name = y.name → Z.Warmed39 s.vm → T.heap = h0 →
      Ends p e below s Q rm.cells rm.slots (T.setTop (entryFrame m as' maxL))) : Con l Z y bytes maxL rt rm as' h0 Q := by
  intro ws
  refine MetFree.of_bodySF hn hisR ?_
  intro p e s m args below meth c s₁ Bd hml0 hP hK
  obtain ⟨ha, hZ, hh⟩ := hP
  subst ha
  have X0 : Stand p l e rm s m _ below meth c s₁ [] 0 0 := Stand.of_body Bd
  have e0 : s₁.heap = h0 := by rw [← hh, Bd.state]; rfl
  exact body p e s m below meth c s₁ X0 Bd.exec Bd.bytes hml0 Bd.returns (BodyLoose.notSynchronized Bd) (findClass_of_methodNamed Bd.named) (name_of_methodNamed Bd.named Bd.method).1 hZ e0
theorem Con.of {y : MethodName} {bytes : ByteArray} {maxL : Nat} {rt : Option FieldType} {rm : Room} {as' : Array Value} {h0 : Heap} (hn : plainName y.cls = true)
    (body : ∀ (p : Program) (e : Env) (s : State) (m : MethodId) (below : List Frame) (meth : Method) (c : Code) (T : State), Stand p l e rm s m as' below meth c T [] 0 0 → p.tables.exec = Jvm.exec → c.code = bytes → c.maxLocals = maxL → meth.sig.returnType = rt → meth.locks = false → s.vm.findClass y.cls = some m.cls → meth.name = y.name → Z.Warmed39 s.vm → T.heap = h0 →
      Ends p e below s Q rm.cells rm.slots (T.setTop (entryFrame m as' maxL))) : Con l Z y bytes maxL rt rm as' h0 Q := Con.ofP (plainFor_of_name hn) body
theorem o_aloadN (X : Stand p l e R s m args below meth c T locs cells slots) (hx : p.tables.exec = Jvm.exec) {k : Fin 4} {v : Value} (hd : decode c.code pc = .ok (.aload_n k, 1)) (hl : Ls[k.val]? = some (.val v)) (hv : v.isRef = true) (hp : pc + 1 = pc') (E : Ends p e below s Q K N (T.setTop (mkF m pc' Ls (v :: st)))) : Ends p e below s Q K N (T.setTop (mkF m pc Ls st)) := by
  subst hp; exact Ends.go (fun t q => XS.aloadN X.here hx rfl hd hl hv q) E
theorem o_aload (X : Stand p l e R s m args below meth c T locs cells slots) (hx : p.tables.exec = Jvm.exec) {k : Nat} {v : Value} (hd : decode c.code pc = .ok (.aload k, 2)) (hl : Ls[k]? = some (.val v)) (hv : v.isRef = true) (hp : pc + 2 = pc') (E : Ends p e below s Q K N (T.setTop (mkF m pc' Ls (v :: st)))) : Ends p e below s Q K N (T.setTop (mkF m pc Ls st)) := by
  subst hp; exact Ends.go (fun t q => XS.aload X.here hx rfl hd hl hv q) E
theorem o_iloadN (X : Stand p l e R s m args below meth c T locs cells slots) (hx : p.tables.exec = Jvm.exec) {k : Fin 4} {v : Int32} (hd : decode c.code pc = .ok (.iload_n k, 1)) (hl : Ls[k.val]? = some (.val (.int v))) (hp : pc + 1 = pc') (E : Ends p e below s Q K N (T.setTop (mkF m pc' Ls (.int v :: st)))) : Ends p e below s Q K N (T.setTop (mkF m pc Ls st)) := by
  subst hp; exact Ends.go (fun t q => XS.iloadN X.here hx rfl hd hl q) E
theorem o_iload (X : Stand p l e R s m args below meth c T locs cells slots) (hx : p.tables.exec = Jvm.exec) {k : Nat} {v : Int32} (hd : decode c.code pc = .ok (.iload k, 2)) (hl : Ls[k]? = some (.val (.int v))) (hp : pc + 2 = pc') (E : Ends p e below s Q K N (T.setTop (mkF m pc' Ls (.int v :: st)))) : Ends p e below s Q K N (T.setTop (mkF m pc Ls st)) := by
  subst hp; exact Ends.go (fun t q => XS.iload X.here hx rfl hd hl q) E
theorem o_istoreN (X : Stand p l e R s m args below meth c T locs cells slots) (hx : p.tables.exec = Jvm.exec) {k : Fin 4} {v : Int32} (hd : decode c.code pc = .ok (.istore_n k, 1)) (hl : storeLocals Ls k.val (.int v) = some Ls') (hp : pc + 1 = pc') (E : Ends p e below s Q K N (T.setTop (mkF m pc' Ls' st))) : Ends p e below s Q K N (T.setTop (mkF m pc Ls (.int v :: st))) := by
  subst hp; exact Ends.go (fun t q => XS.istoreN X.here hx rfl hd rfl hl q) E
theorem o_istore (X : Stand p l e R s m args below meth c T locs cells slots) (hx : p.tables.exec = Jvm.exec) {k : Nat} {v : Int32} (hd : decode c.code pc = .ok (.istore k, 2)) (hl : storeLocals Ls k (.int v) = some Ls') (hp : pc + 2 = pc') (E : Ends p e below s Q K N (T.setTop (mkF m pc' Ls' st))) : Ends p e below s Q K N (T.setTop (mkF m pc Ls (.int v :: st))) := by
  subst hp; exact Ends.go (fun t q => XS.istore X.here hx rfl hd rfl hl q) E
theorem o_astore (X : Stand p l e R s m args below meth c T locs cells slots) (hx : p.tables.exec = Jvm.exec) {k : Nat} {v : Value} (hd : decode c.code pc = .ok (.astore k, 2)) (hv : v.isRef = true) (hl : storeLocals Ls k v = some Ls') (hp : pc + 2 = pc') (E : Ends p e below s Q K N (T.setTop (mkF m pc' Ls' st))) : Ends p e below s Q K N (T.setTop (mkF m pc Ls (v :: st))) := by
  subst hp; exact Ends.go (fun t q => XS.astore X.here hx rfl hd rfl hv hl q) E
theorem o_iconst (X : Stand p l e R s m args below meth c T locs cells slots) (hx : p.tables.exec = Jvm.exec) {i : Int} {v : Int32} (hd : decode c.code pc = .ok (.iconst i, 1)) (hv : Int32.ofInt i = v) (hp : pc + 1 = pc') (E : Ends p e below s Q K N (T.setTop (mkF m pc' Ls (.int v :: st)))) : Ends p e below s Q K N (T.setTop (mkF m pc Ls st)) := by
  subst hp; exact Ends.go (fun t q => XS.iconst X.here hx rfl hd  (by rw [hv]; exact q)) E
theorem o_bipush (X : Stand p l e R s m args below meth c T locs cells slots) (hx : p.tables.exec = Jvm.exec) {i : Int} {v : Int32} (hd : decode c.code pc = .ok (.bipush i, 2)) (hv : (Int8.ofInt i).toInt32 = v) (hp : pc + 2 = pc') (E : Ends p e below s Q K N (T.setTop (mkF m pc' Ls (.int v :: st)))) : Ends p e below s Q K N (T.setTop (mkF m pc Ls st)) := by
  subst hp; exact Ends.go (fun t q => XS.bipush X.here hx rfl hd  (by rw [hv]; exact q)) E
theorem o_sipush (X : Stand p l e R s m args below meth c T locs cells slots) (hx : p.tables.exec = Jvm.exec) {i : Int} {v : Int32} (hd : decode c.code pc = .ok (.sipush i, 3)) (hv : (Int16.ofInt i).toInt32 = v) (hp : pc + 3 = pc') (E : Ends p e below s Q K N (T.setTop (mkF m pc' Ls (.int v :: st)))) : Ends p e below s Q K N (T.setTop (mkF m pc Ls st)) := by
  subst hp; exact Ends.go (fun t q => XS.sipush X.here hx rfl hd  (by rw [hv]; exact q)) E
theorem o_iadd (X : Stand p l e R s m args below meth c T locs cells slots) (hx : p.tables.exec = Jvm.exec) {x y : Int32} (hd : decode c.code pc = .ok (.iadd, 1))  (hp : pc + 1 = pc') (E : Ends p e below s Q K N (T.setTop (mkF m pc' Ls (.int (x + y) :: st)))) : Ends p e below s Q K N (T.setTop (mkF m pc Ls (.int y :: .int x :: st))) := by
  subst hp; exact Ends.go (fun t q => XS.iadd X.here hx rfl hd rfl q) E
theorem o_isub (X : Stand p l e R s m args below meth c T locs cells slots) (hx : p.tables.exec = Jvm.exec) {x y : Int32} (hd : decode c.code pc = .ok (.isub, 1))  (hp : pc + 1 = pc') (E : Ends p e below s Q K N (T.setTop (mkF m pc' Ls (.int (x - y) :: st)))) : Ends p e below s Q K N (T.setTop (mkF m pc Ls (.int y :: .int x :: st))) := by
  subst hp; exact Ends.go (fun t q => XS.isub X.here hx rfl hd rfl q) E
theorem o_iand (X : Stand p l e R s m args below meth c T locs cells slots) (hx : p.tables.exec = Jvm.exec) {x y : Int32} (hd : decode c.code pc = .ok (.iand, 1))  (hp : pc + 1 = pc') (E : Ends p e below s Q K N (T.setTop (mkF m pc' Ls (.int (x &&& y) :: st)))) : Ends p e below s Q K N (T.setTop (mkF m pc Ls (.int y :: .int x :: st))) := by
  subst hp; exact Ends.go (fun t q => XS.iand X.here hx rfl hd rfl q) E
theorem o_ior (X : Stand p l e R s m args below meth c T locs cells slots) (hx : p.tables.exec = Jvm.exec) {x y : Int32} (hd : decode c.code pc = .ok (.ior, 1))  (hp : pc + 1 = pc') (E : Ends p e below s Q K N (T.setTop (mkF m pc' Ls (.int (x ||| y) :: st)))) : Ends p e below s Q K N (T.setTop (mkF m pc Ls (.int y :: .int x :: st))) := by
  subst hp; exact Ends.go (fun t q => XS.ior X.here hx rfl hd rfl q) E
theorem o_ishl (X : Stand p l e R s m args below meth c T locs cells slots) (hx : p.tables.exec = Jvm.exec) {x y : Int32} (hd : decode c.code pc = .ok (.ishl, 1))  (hp : pc + 1 = pc') (E : Ends p e below s Q K N (T.setTop (mkF m pc' Ls (.int (x <<< (y &&& 31)) :: st)))) : Ends p e below s Q K N (T.setTop (mkF m pc Ls (.int y :: .int x :: st))) := by
  subst hp; exact Ends.go (fun t q => XS.ishl X.here hx rfl hd rfl q) E
theorem o_irem (X : Stand p l e R s m args below meth c T locs cells slots) (hx : p.tables.exec = Jvm.exec) {x y : Int32} (hd : decode c.code pc = .ok (.irem, 1)) (hy : y ≠ 0) (hp : pc + 1 = pc') (E : Ends p e below s Q K N (T.setTop (mkF m pc' Ls (.int (x % y) :: st)))) : Ends p e below s Q K N (T.setTop (mkF m pc Ls (.int y :: .int x :: st))) := by
  subst hp; exact Ends.go (fun t q => iremM (g := mkF m pc Ls (.int y :: .int x :: st)) X hx rfl hd rfl hy q) E
theorem o_dup (X : Stand p l e R s m args below meth c T locs cells slots) (hx : p.tables.exec = Jvm.exec) {v : Value} (hd : decode c.code pc = .ok (.dup, 1)) (hc : v.category = 1) (hp : pc + 1 = pc') (E : Ends p e below s Q K N (T.setTop (mkF m pc' Ls (v :: v :: st)))) : Ends p e below s Q K N (T.setTop (mkF m pc Ls (v :: st))) := by
  subst hp; exact Ends.go (fun t q => XS.dup X.here hx rfl hd rfl hc q) E
theorem o_ldc (X : Stand p l e R s m args below meth c T locs cells slots) (hx : p.tables.exec = Jvm.exec) {own : String} {index : Nat} {v : Int32} (hd : decode c.code pc = .ok (.ldc index, 2)) (hZ : Z.Warmed39 s.vm) (hown : s.vm.findClass own = some m.cls) (w : (Jvm.Cond.constant own index v).before a0 Z = true) (hp : pc + 2 = pc') (E : Ends p e below s Q K N (T.setTop (mkF m pc' Ls (.int v :: st)))) : Ends p e below s Q K N (T.setTop (mkF m pc Ls st)) := by
  subst hp; exact Ends.go (fun t q => X.ldcInt hx hown (mvT hZ w) (g := mkF m pc Ls st) rfl hd t q) E
theorem o_goto (X : Stand p l e R s m args below meth c T locs cells slots) (hx : p.tables.exec = Jvm.exec) {o : Int} (hd : decode c.code pc = .ok (.goto o, 3)) (ho : 0 ≤ (pc : Int) + o) (hp : ((pc : Int) + o).toNat = pc') (E : Ends p e below s Q K N (T.setTop (mkF m pc' Ls st))) : Ends p e below s Q K N (T.setTop (mkF m pc Ls st)) :=
  Ends.go (fun t q => XS.goto X.here hx rfl (pc0 := pc) rfl hd ho hp q) E
theorem o_icmp_eq (X : Stand p l e R s m args below meth c T locs cells slots) (hx : p.tables.exec = Jvm.exec) {x y : Int32} {o : Int} {p1 p2 : Nat} (hd : decode c.code pc = .ok (.if_icmp .eq o, 3)) (hp : pc + 3 = p1) (ho : 0 ≤ (pc : Int) + o) (hp2 : ((pc : Int) + o).toNat = p2) (E1 : x = y → Ends p e below s Q K N (T.setTop (mkF m p2 Ls st))) (E2 : ¬ x = y → Ends p e below s Q K N (T.setTop (mkF m p1 Ls st))) : Ends p e below s Q K N (T.setTop (mkF m pc Ls (.int y :: .int x :: st))) := by
  subst hp
  by_cases hc : x = y
  · exact Ends.go (fun t q => XS.icmpYes X.here hx rfl (pc0 := pc) rfl hd rfl ((teq hc).1) ho hp2 q) (E1 hc)
  · exact Ends.go (fun t q => XS.icmpNo X.here hx rfl hd rfl ((feq hc).1) q) (E2 hc)
theorem o_icmp_ne (X : Stand p l e R s m args below meth c T locs cells slots) (hx : p.tables.exec = Jvm.exec) {x y : Int32} {o : Int} {p1 p2 : Nat} (hd : decode c.code pc = .ok (.if_icmp .ne o, 3)) (hp : pc + 3 = p1) (ho : 0 ≤ (pc : Int) + o) (hp2 : ((pc : Int) + o).toNat = p2) (E1 : ¬ x = y → Ends p e below s Q K N (T.setTop (mkF m p2 Ls st))) (E2 : x = y → Ends p e below s Q K N (T.setTop (mkF m p1 Ls st))) : Ends p e below s Q K N (T.setTop (mkF m pc Ls (.int y :: .int x :: st))) := by
  subst hp
  by_cases hc : x = y
  · exact Ends.go (fun t q => XS.icmpNo X.here hx rfl hd rfl ((teq hc).2) q) (E2 hc)
  · exact Ends.go (fun t q => XS.icmpYes X.here hx rfl (pc0 := pc) rfl hd rfl ((feq hc).2) ho hp2 q) (E1 hc)
theorem o_icmp_lt (X : Stand p l e R s m args below meth c T locs cells slots) (hx : p.tables.exec = Jvm.exec) {x y : Int32} {o : Int} {p1 p2 : Nat} (hd : decode c.code pc = .ok (.if_icmp .lt o, 3)) (hp : pc + 3 = p1) (ho : 0 ≤ (pc : Int) + o) (hp2 : ((pc : Int) + o).toNat = p2) (E1 : x < y → Ends p e below s Q K N (T.setTop (mkF m p2 Ls st))) (E2 : ¬ x < y → Ends p e below s Q K N (T.setTop (mkF m p1 Ls st))) : Ends p e below s Q K N (T.setTop (mkF m pc Ls (.int y :: .int x :: st))) := by
  subst hp
  by_cases hc : x < y
  · exact Ends.go (fun t q => XS.icmpYes X.here hx rfl (pc0 := pc) rfl hd rfl ((tlt hc).1) ho hp2 q) (E1 hc)
  · exact Ends.go (fun t q => XS.icmpNo X.here hx rfl hd rfl ((flt hc).1) q) (E2 hc)
theorem o_icmp_ge (X : Stand p l e R s m args below meth c T locs cells slots) (hx : p.tables.exec = Jvm.exec) {x y : Int32} {o : Int} {p1 p2 : Nat} (hd : decode c.code pc = .ok (.if_icmp .ge o, 3)) (hp : pc + 3 = p1) (ho : 0 ≤ (pc : Int) + o) (hp2 : ((pc : Int) + o).toNat = p2) (E1 : ¬ x < y → Ends p e below s Q K N (T.setTop (mkF m p2 Ls st))) (E2 : x < y → Ends p e below s Q K N (T.setTop (mkF m p1 Ls st))) : Ends p e below s Q K N (T.setTop (mkF m pc Ls (.int y :: .int x :: st))) := by
  subst hp
  by_cases hc : x < y
  · exact Ends.go (fun t q => XS.icmpNo X.here hx rfl hd rfl ((tlt hc).2.1) q) (E2 hc)
  · exact Ends.go (fun t q => XS.icmpYes X.here hx rfl (pc0 := pc) rfl hd rfl ((flt hc).2.1) ho hp2 q) (E1 hc)
theorem o_icmp_gt (X : Stand p l e R s m args below meth c T locs cells slots) (hx : p.tables.exec = Jvm.exec) {x y : Int32} {o : Int} {p1 p2 : Nat} (hd : decode c.code pc = .ok (.if_icmp .gt o, 3)) (hp : pc + 3 = p1) (ho : 0 ≤ (pc : Int) + o) (hp2 : ((pc : Int) + o).toNat = p2) (E1 : y < x → Ends p e below s Q K N (T.setTop (mkF m p2 Ls st))) (E2 : ¬ y < x → Ends p e below s Q K N (T.setTop (mkF m p1 Ls st))) : Ends p e below s Q K N (T.setTop (mkF m pc Ls (.int y :: .int x :: st))) := by
  subst hp
  by_cases hc : y < x
  · exact Ends.go (fun t q => XS.icmpYes X.here hx rfl (pc0 := pc) rfl hd rfl ((tlt hc).2.2.1) ho hp2 q) (E1 hc)
  · exact Ends.go (fun t q => XS.icmpNo X.here hx rfl hd rfl ((flt hc).2.2.1) q) (E2 hc)
theorem o_icmp_le (X : Stand p l e R s m args below meth c T locs cells slots) (hx : p.tables.exec = Jvm.exec) {x y : Int32} {o : Int} {p1 p2 : Nat} (hd : decode c.code pc = .ok (.if_icmp .le o, 3)) (hp : pc + 3 = p1) (ho : 0 ≤ (pc : Int) + o) (hp2 : ((pc : Int) + o).toNat = p2) (E1 : ¬ y < x → Ends p e below s Q K N (T.setTop (mkF m p2 Ls st))) (E2 : y < x → Ends p e below s Q K N (T.setTop (mkF m p1 Ls st))) : Ends p e below s Q K N (T.setTop (mkF m pc Ls (.int y :: .int x :: st))) := by
  subst hp
  by_cases hc : y < x
  · exact Ends.go (fun t q => XS.icmpNo X.here hx rfl hd rfl ((tlt hc).2.2.2) q) (E2 hc)
  · exact Ends.go (fun t q => XS.icmpYes X.here hx rfl (pc0 := pc) rfl hd rfl ((flt hc).2.2.2) ho hp2 q) (E1 hc)
theorem o_ret (X : Stand p l e R s m args below meth c T locs cells slots) (hx : p.tables.exec = Jvm.exec) {w : Value} {t : FieldType} {i : Instr} (hlk : meth.locks = false) (hret : meth.sig.returnType = some t) (hd : decode c.code pc = .ok (i, 1)) (hn : narrow t w = w)
    (hi : (i = .ireturn ∧ (t = .int ∨ t = .boolean ∨ t = .byte ∨ t = .char ∨ t = .short) ∧ ∃ z, w = .int z) ∨ (i = .lreturn ∧ t = .long ∧ ∃ z, w = .long z) ∨ (i = .dreturn ∧ t = .double ∧ ∃ z, w = .double z) ∨ (i = .freturn ∧ t = .float ∧ ∃ z, w = .float z) ∨ (i = .areturn ∧ t.isReference = true ∧ w.isRef = true))
    (hq : Q (some w) T.heap locs) (hk : cells ≤ K) (hs : slots ≤ N) : Ends p e below s Q K N (T.setTop (mkF m pc Ls (w :: st))) := by
  obtain ⟨fs, hr, hrun, hended, hW, hsame⟩ := X.leave (v := some w) (fun h => by rw [hret] at h; cases h) hlk
  exact ⟨_, _, retOut X hx hret hn hi hd hr, hrun, hended, _, _, rfl, hq, ⟨_, rfl⟩, hW, hsame.mono hk hs⟩
theorem o_retZ (X : Stand p l e R s m args below meth c T locs cells slots) (hx : p.tables.exec = Jvm.exec) {z : Int32} (hlk : meth.locks = false) (hret : meth.sig.returnType = some .boolean) (hd : decode c.code pc = .ok (.ireturn, 1)) (hz : z &&& 1 = z) (hq : Q (some (.int z)) T.heap locs) (hk : cells ≤ K) (hs : slots ≤ N) : Ends p e below s Q K N (T.setTop (mkF m pc Ls (.int z :: st))) :=
  o_ret X hx hlk hret hd (by show Value.int (z &&& 1) = _; rw [hz]) (Or.inl ⟨rfl, Or.inr (Or.inl rfl), _, rfl⟩) hq hk hs
theorem o_ret0 (X : Stand p l e R s m args below meth c T locs cells slots) (hx : p.tables.exec = Jvm.exec) (hlk : meth.locks = false) (hret : meth.sig.returnType = none) (hd : decode c.code pc = .ok (.return_, 1)) (hq : Q none T.heap locs) (hk : cells ≤ K) (hs : slots ≤ N) : Ends p e below s Q K N (T.setTop (mkF m pc Ls [])) := by
  obtain ⟨fs, hr, hrun, hended, hW, hsame⟩ := X.leave (v := none) (fun _ => rfl) hlk
  exact ⟨_, _, X.returnOut hx hret hd hr, hrun, hended, _, _, rfl, hq, ⟨_, rfl⟩, hW, hsame.mono hk hs⟩
theorem o_callS (X : Stand p l e R s m args below meth c T locs cells slots) (hx : p.tables.exec = Jvm.exec) (hZ : Z.Warmed39 s.vm) {own : String} {index : Nat} {y : MethodName} {bytes : ByteArray} {maxL : Nat} {rt : Option FieldType} {rm : Room} {argsL rest : List Value} {Q' : Option Value → Heap → List Loc → Prop} {ps : List FieldType} {pr : Option FieldType} (hown : s.vm.findClass own = some m.cls) (w1 : (Jvm.Cond.methodLink own index y).before a0 Z = true) (w2 : (Jvm.Cond.static y).before a0 Z = true) (w3 : (Jvm.Cond.initialized y.cls).before a0 Z = true) (w4 : (Jvm.Cond.code y bytes maxL rt).before a0 Z = true)
    (hy : y.cls ≠ "java/lang/invoke/MethodHandle" ∧ y.cls ≠ "java/lang/invoke/VarHandle") (eT : T.heap = h) (hM : Con l Z y bytes maxL rt rm argsL.toArray h Q') (hsz : Ls.size = c.maxLocals) (hpd : parseMethodDescriptor y.desc = some ⟨ps, pr⟩) (hlen : argsL.length = ps.length) (hst : st = argsL.reverse ++ rest) (hd : decode c.code pc = .ok (.invokestatic index, 3)) (hp : pc + 3 = pc')
    {W : Nat} (hf : rm.frames + 1 ≤ R.frames) (hW : (rest.map fun v => v.category).sum = W) (hl : W + (maxL + 11) + rm.locals ≤ R.locals) (hc : cells + rm.cells ≤ R.cells) (hs : slots + rm.slots ≤ R.slots)
    (E : ∀ (v : Option Value) (T' : State) (L : List Loc), Q' v T'.heap L → Stand p l e R s m args below meth c T' (locs ++ L) (cells + rm.cells) (slots + rm.slots) → Ends p e below s Q K N (T'.setTop (mkF m pc' Ls (v.toList ++ rest)))) : Ends p e below s Q K N (T.setTop (mkF m pc Ls st)) := by
  subst hp hst
  obtain ⟨v, _, ⟨T2, L2, k2, n2⟩, -, X2, ⟨Lc2, hQ2, l2, y2, z2⟩, st2⟩ := Jvm.LawKit.callS X hx (y := y) hown (mvT hZ w1) (mvT hZ w2) (mvT hZ w3) (mvT hZ w4) hy (backOf (W := W) (hM []) hZ w4 w3 hf hl) (g := mkF m pc Ls (argsL.reverse ++ rest)) rfl hsz (argsL := argsL) (rest := rest) (lenOf hpd hlen) rfl (by show 2 * 0 + _ ≤ _; omega) hd (fun _ _ => ⟨rfl, eT, hc, hs⟩)
  dsimp only [Pt.U, Pt.locs, Pt.cells, Pt.slots] at X2 l2 y2 z2 st2 hQ2
  subst l2 y2 z2
  exact Ends.go st2 (E v T2 Lc2 hQ2 X2)
theorem o_callC (X : Stand p l e R s m args below meth c T locs cells slots) (hx : p.tables.exec = Jvm.exec) (hZ : Z.Warmed39 s.vm) {own : String} {index : Nat} {y : MethodName} {bytes : ByteArray} {maxL : Nat} {rm : Room} {a : Addr} {argsL rest : List Value} {Q' : Option Value → Heap → List Loc → Prop} {ps : List FieldType} {pr : Option FieldType} (hy1 : y.name = "<init>") (hown : s.vm.findClass own = some m.cls) (w1 : (Jvm.Cond.methodLink own index y).before a0 Z = true) (w2 : (Jvm.Cond.instanceMethod y).before a0 Z = true) (w3 : (Jvm.Cond.initialized y.cls).before a0 Z = true) (w4 : (Jvm.Cond.code y bytes maxL none).before a0 Z = true)
    (hy : y.cls ≠ "java/lang/invoke/MethodHandle" ∧ y.cls ≠ "java/lang/invoke/VarHandle") (eT : T.heap = h) (hM : Con l Z y bytes maxL none rm (.ref a :: argsL).toArray h Q') (hsz : Ls.size = c.maxLocals) (hpd : parseMethodDescriptor y.desc = some ⟨ps, pr⟩) (hlen : argsL.length = ps.length) (hst : st = argsL.reverse ++ .ref a :: rest) (hd : decode c.code pc = .ok (.invokespecial index, 3)) (hp : pc + 3 = pc')
    {W : Nat} (hf : rm.frames + 1 ≤ R.frames) (hW : (rest.map fun v => v.category).sum = W) (hl : W + (maxL + 11) + rm.locals ≤ R.locals) (hc : cells + rm.cells ≤ R.cells) (hs : slots + rm.slots ≤ R.slots)
    (E : ∀ (v : Option Value) (T' : State) (L : List Loc), Q' v T'.heap L → Stand p l e R s m args below meth c T' (locs ++ L) (cells + rm.cells) (slots + rm.slots) → Ends p e below s Q K N (T'.setTop (mkF m pc' Ls (v.toList ++ rest)))) : Ends p e below s Q K N (T.setTop (mkF m pc Ls st)) := by
  subst hp hst
  obtain ⟨v, _, ⟨T2, L2, k2, n2⟩, -, X2, ⟨Lc2, hQ2, l2, y2, z2⟩, st2⟩ := X.specialBack hx (y := y) hy1 hown (mvT hZ w1) (mvT hZ w2) (mvT hZ w4) hy (backOf (W := W) (hM []) hZ w4 w3 hf hl) (g := mkF m pc Ls (argsL.reverse ++ .ref a :: rest)) rfl hsz (Steps.refl _) (a := a) (argsL := argsL) (rest := rest) (lenOf hpd hlen) rfl (by show 2 * 0 + _ ≤ _; omega) hd (fun _ _ => ⟨rfl, eT, hc, hs⟩)
  dsimp only [Pt.U, Pt.locs, Pt.cells, Pt.slots] at X2 l2 y2 z2 st2 hQ2
  subst l2 y2 z2
  exact Ends.go (fun t q => st2.trans q) (E v T2 Lc2 hQ2 X2)
theorem o_callV (X : Stand p l e R s m args below meth c T locs cells slots) (hx : p.tables.exec = Jvm.exec) (hZ : Z.Warmed39 s.vm) {own C : String} {index : Nat} {y : MethodName} {bytes : ByteArray} {maxL : Nat} {rt : Option FieldType} {rm : Room} {b : Addr} {argsL rest : List Value} {Q' : Option Value → Heap → List Loc → Prop} {ps : List FieldType} {pr : Option FieldType} (hown : s.vm.findClass own = some m.cls) (w1 : (Jvm.Cond.methodLink own index y).before a0 Z = true) (w2 : (Jvm.Cond.declares y).before a0 Z = true) (w5 : (Jvm.Cond.selects C y y).before a0 Z = true) (w6 : (Jvm.Cond.instanceMethod y).before a0 Z = true) (w3 : (Jvm.Cond.initialized y.cls).before a0 Z = true) (w4 : (Jvm.Cond.code y bytes maxL rt).before a0 Z = true)
    (hy : y.cls ≠ "java/lang/invoke/MethodHandle" ∧ y.cls ≠ "java/lang/invoke/VarHandle") (eT : T.heap = h) (X1 : Exa Z h b C) (hM : Con l Z y bytes maxL rt rm (.ref b :: argsL).toArray h Q') (hsz : Ls.size = c.maxLocals) (hpd : parseMethodDescriptor y.desc = some ⟨ps, pr⟩) (hlen : argsL.length = ps.length) (hst : st = argsL.reverse ++ .ref b :: rest) (hd : decode c.code pc = .ok (.invokevirtual index, 3)) (hp : pc + 3 = pc')
    {W : Nat} (hf : rm.frames + 1 ≤ R.frames) (hW : (rest.map fun v => v.category).sum = W) (hl : W + (maxL + 11) + rm.locals ≤ R.locals) (hc : cells + rm.cells ≤ R.cells) (hs : slots + rm.slots ≤ R.slots)
    (E : ∀ (v : Option Value) (T' : State) (L : List Loc), Q' v T'.heap L → Stand p l e R s m args below meth c T' (locs ++ L) (cells + rm.cells) (slots + rm.slots) → Ends p e below s Q K N (T'.setTop (mkF m pc' Ls (v.toList ++ rest)))) : Ends p e below s Q K N (T.setTop (mkF m pc Ls st)) := by
  subst hp hst
  obtain ⟨cq, kq, qa, qb, qc⟩ := isOf (T := T) hZ eT X1
  obtain ⟨v, _, ⟨T2, L2, k2, n2⟩, -, X2, ⟨Lc2, hQ2, l2, y2, z2⟩, st2⟩ := X.virtualBack hx (y := y) (z := y) hown (mvT hZ w1) (mvT hZ w2) (notFace_of_selects (args := #[]) (mvT hZ w5)) (mvT hZ w5) (mvT hZ w6) hy (backOf (W := W) (hM []) hZ w4 w3 hf hl) qa qc (g := mkF m pc Ls (argsL.reverse ++ .ref b :: rest)) rfl hsz (Steps.refl _) (argsL := argsL) (rest := rest) (lenOf hpd hlen) rfl (by show 2 * 0 + _ ≤ _; omega) hd (fun _ _ => ⟨rfl, eT, hc, hs⟩)
  dsimp only [Pt.U, Pt.locs, Pt.cells, Pt.slots] at X2 l2 y2 z2 st2 hQ2
  subst l2 y2 z2
  exact Ends.go (fun t q => st2.trans q) (E v T2 Lc2 hQ2 X2)
theorem o_getF (X : Stand p l e R s m args below meth c T locs cells slots) (hx : p.tables.exec = Jvm.exec) (hZ : Z.Warmed39 s.vm) {own R0 O n d : String} {index : Nat} {a : Addr} {v : Value} (hown : s.vm.findClass own = some m.cls) (w : (Jvm.Cond.fieldLink own index R0 n d).before a0 Z = true) (via : Via Z R0 O n d) (eT : T.heap = h) (F : Fld Z h a O n d v) (hd : decode c.code pc = .ok (.getfield index, 3)) (hp : pc + 3 = pc')
    (E : ∀ T', T'.heap = h → Stand p l e R s m args below meth c T' locs cells slots → Ends p e below s Q K N (T'.setTop (mkF m pc' Ls (v :: st)))) : Ends p e below s Q K N (T.setTop (mkF m pc Ls (.ref a :: st))) := by
  subst hp
  obtain ⟨T1, X1, e1, s1⟩ := getF X hx hZ hown (host := "") (Or.inl w) via eT F (g := mkF m pc Ls (.ref a :: st)) rfl rfl hd
  exact Ends.go s1 (E T1 e1 X1)
theorem o_putF (X : Stand p l e R s m args below meth c T locs cells slots) (hx : p.tables.exec = Jvm.exec) (hZ : Z.Warmed39 s.vm) {own R0 O n d C : String} {index kk : Nat} {ty : FieldType} {a : Addr} {v old : Value} (hown : s.vm.findClass own = some m.cls) (w : (Jvm.Cond.fieldLink own index R0 n d).before a0 Z = true) (via : Via Z R0 O n d) (eT : T.heap = h) (F : Fld Z h a O n d old) (X1 : Exa Z h a C) (L : (Jvm.Cond.lays C O n d).before a0 Z = true ∨ ((Jvm.Cond.laysFinal C O n d).before a0 Z = true ∧ own = O ∧ meth.name = "<init>")) (wi : (Jvm.Cond.instantiable C kk).before a0 Z = true)
    (hty : parseFieldDescriptor d = some ty) (hn : narrow ty v = v) (hf : fits ty v = true) (hd : decode c.code pc = .ok (.putfield index, 3)) (hp : pc + 3 = pc')
    (E : ∀ T' h', T'.heap = h' → Wr h h' a (Jvm.RoadKit.slotOf Z O n d) v → Stand p l e R s m args below meth c T' (locs ++ [⟨a, Jvm.RoadKit.slotOf Z O n d⟩]) cells slots → Ends p e below s Q K N (T'.setTop (mkF m pc' Ls st))) : Ends p e below s Q K N (T.setTop (mkF m pc Ls (v :: .ref a :: st))) := by
  subst hp
  obtain ⟨T1, h1, X1, e1, W1, s1⟩ := putF X hx hZ hown (host := "") (Or.inl w) via eT F X1 L wi hty hn hf (g := mkF m pc Ls (v :: .ref a :: st)) rfl rfl hd
  exact Ends.go s1 (E T1 h1 e1 W1 X1)
theorem o_new (X : Stand p l e R s m args below meth c T locs cells slots) (hx : p.tables.exec = Jvm.exec) (hZ : Z.Warmed39 s.vm) {own C : String} {index n : Nat} (hown : s.vm.findClass own = some m.cls) (w : (Jvm.Cond.classLink own index C).before a0 Z = true) (wi : (Jvm.Cond.instantiable C n).before a0 Z = true) (wz : (Jvm.Cond.initialized C).before a0 Z = true) (eT : T.heap = h) (hd : decode c.code pc = .ok (.new index, 3)) (hp : pc + 3 = pc') (hc : cells + 1 ≤ R.cells) (hl : slots + n ≤ R.slots)
    (E : ∀ T' h' a, a = h.size → T'.heap = h' → Ext h h' → Exa Z h' a C → (∀ {O nm d : String} {ty : FieldType}, Laid Z a0 C O nm d → parseFieldDescriptor d = some ty → Fld Z h' a O nm d (defaultValue ty)) → Stand p l e R s m args below meth c T' locs (cells + 1) (slots + n) → Ends p e below s Q K N (T'.setTop (mkF m pc' Ls (.ref a :: st)))) : Ends p e below s Q K N (T.setTop (mkF m pc Ls st)) := by
  subst hp
  obtain ⟨T1, h1, X1, e1, E1, A1, D1, -, s1⟩ := newO X hx hZ hown w wi wz eT (g := mkF m pc Ls st) rfl hd hc hl
  exact Ends.go s1 (E T1 h1 _ rfl e1 E1 A1 D1 X1)
theorem o_initO (X : Stand p l e R s m args below meth c T locs cells slots) (hx : p.tables.exec = Jvm.exec) (hZ : Z.Warmed39 s.vm) {own : String} {idx : Nat} {a : Addr} (hown : s.vm.findClass own = some m.cls) (w1 : (Jvm.Cond.methodLink own idx Lib.objectInit).before a0 Z = true) (w2 : (Jvm.Cond.instanceMethod Lib.objectInit).before a0 Z = true) (w3 : (Jvm.Cond.code Lib.objectInit object_method_1_code 1 none).before a0 Z = true) (eT : T.heap = h) (hsz : Ls.size = c.maxLocals) (hd : decode c.code pc = .ok (.invokespecial idx, 3)) (hp : pc + 3 = pc') {W : Nat} (hf : 1 ≤ R.frames) (hW : (st.map fun v => v.category).sum = W) (hl : W + 12 ≤ R.locals)
    (E : ∀ T', T'.heap = h → Stand p l e R s m args below meth c T' locs cells slots → Ends p e below s Q K N (T'.setTop (mkF m pc' Ls st))) : Ends p e below s Q K N (T.setTop (mkF m pc Ls (.ref a :: st))) := by
  subst hp
  obtain ⟨T1, X1, e1, s1⟩ := initO X hx hZ hown w1 w2 w3 eT (g := mkF m pc Ls (.ref a :: st)) rfl hsz rfl hd hf (W := W) (by show 2 * 0 + _ ≤ _; omega) hl
  exact Ends.go s1 (E T1 e1 X1)
def Cont (cl : Cell) (n : Nat) (g : Nat → Value) : Prop := cl.slots.size = n ∧ ∀ k, k < n → cl.slots[k]? = some (g k)
theorem Cont.new (cA : ClassId) (ty : FieldType) (z : Int32) (n : Nat) (hn : z.toNatClampNeg = n) : Cont (newA cA ty z) n (fun _ => defaultValue ty) := by
  subst hn; exact ⟨sz_new _ _ _, fun k hk => by simp [newA, hk]⟩
theorem Cont.at {cl : Cell} {n : Nat} {g : Nat → Value} (C : Cont cl n g) {j : Int32} (h0 : 0 ≤ j.toInt) (h1 : j.toInt < n) : cl.slots[j.toNatClampNeg]? = some (g j.toNatClampNeg) := C.2 _ (by simp only [Int32.toNatClampNeg]; omega)
end Own
end Jvm.Pilot.@@N@@
namespace Jvm.Pilot.@@N@@
open Jvm Jvm.ClassFile Sem Op Lib Jvm.Free Jvm.Stand Jvm.LawKit Jvm.RoadKit Bundle Jvm.Pilot.@@N@@.Jvm.D
theorem pn_0 : plainName "com/example/essence/essence/core/Utf8SequenceContinuesPinLaw" = true := by first | (simp [plainName, overriddenIn]; done) | decide +kernel
theorem pd_0 : parseMethodDescriptor "(III)Z" = some ⟨[.int, .int, .int], some .boolean⟩ := by decide +kernel
theorem d1_0 : decode prog_63_method_1_code 0 = .ok (.aload_n 0, 1) := by decide +kernel
theorem d1_1 : decode prog_63_method_1_code 1 = .ok (.invokespecial 1, 3) := by decide +kernel
theorem d1_4 : decode prog_63_method_1_code 4 = .ok (.aload_n 0, 1) := by decide +kernel
theorem d1_5 : decode prog_63_method_1_code 5 = .ok (.iload_n 1, 1) := by decide +kernel
theorem d1_6 : decode prog_63_method_1_code 6 = .ok (.putfield 7, 3) := by decide +kernel
theorem d1_9 : decode prog_63_method_1_code 9 = .ok (.aload_n 0, 1) := by decide +kernel
theorem d1_10 : decode prog_63_method_1_code 10 = .ok (.iload_n 2, 1) := by decide +kernel
theorem d1_11 : decode prog_63_method_1_code 11 = .ok (.putfield 13, 3) := by decide +kernel
theorem d1_14 : decode prog_63_method_1_code 14 = .ok (.aload_n 0, 1) := by decide +kernel
theorem d1_15 : decode prog_63_method_1_code 15 = .ok (.iload_n 3, 1) := by decide +kernel
theorem d1_16 : decode prog_63_method_1_code 16 = .ok (.putfield 16, 3) := by decide +kernel
theorem d1_19 : decode prog_63_method_1_code 19 = .ok (.aload_n 0, 1) := by decide +kernel
theorem d1_20 : decode prog_63_method_1_code 20 = .ok (.iload 4, 2) := by decide +kernel
theorem d1_22 : decode prog_63_method_1_code 22 = .ok (.putfield 19, 3) := by decide +kernel
theorem d1_25 : decode prog_63_method_1_code 25 = .ok (.aload_n 0, 1) := by decide +kernel
theorem d1_26 : decode prog_63_method_1_code 26 = .ok (.iload 5, 2) := by decide +kernel
theorem d1_28 : decode prog_63_method_1_code 28 = .ok (.putfield 22, 3) := by decide +kernel
theorem d1_31 : decode prog_63_method_1_code 31 = .ok (.return_, 1) := by decide +kernel
theorem pn_1 : plainName "com/example/essence/essence/core/Utf8Sequence" = true := by first | (simp [plainName, overriddenIn]; done) | decide +kernel
theorem pd_1 : parseMethodDescriptor "(IIIII)V" = some ⟨[.int, .int, .int, .int, .int], none⟩ := by decide +kernel
theorem d2_0 : decode jdk_30_method_1_code 0 = .ok (.aload_n 0, 1) := by decide +kernel
theorem d2_1 : decode jdk_30_method_1_code 1 = .ok (.invokespecial 1, 3) := by decide +kernel
theorem d2_4 : decode jdk_30_method_1_code 4 = .ok (.return_, 1) := by decide +kernel
theorem pn_2 : plainName "java/lang/Record" = true := by first | (simp [plainName, overriddenIn]; done) | decide +kernel
theorem pd_2 : parseMethodDescriptor "()V" = some ⟨[], none⟩ := by decide +kernel
theorem d4_0 : decode prog_63_method_3_code 0 = .ok (.iload_n 1, 1) := by decide +kernel
theorem d4_1 : decode prog_63_method_3_code 1 = .ok (.iconst 1, 1) := by decide +kernel
theorem d4_2 : decode prog_63_method_3_code 2 = .ok (.if_icmp .ne 27, 3) := by decide +kernel
theorem d4_5 : decode prog_63_method_3_code 5 = .ok (.iload_n 2, 1) := by decide +kernel
theorem d4_6 : decode prog_63_method_3_code 6 = .ok (.aload_n 0, 1) := by decide +kernel
theorem d4_7 : decode prog_63_method_3_code 7 = .ok (.getfield 19, 3) := by decide +kernel
theorem d4_10 : decode prog_63_method_3_code 10 = .ok (.if_icmp .lt 15, 3) := by decide +kernel
theorem d4_13 : decode prog_63_method_3_code 13 = .ok (.iload_n 2, 1) := by decide +kernel
theorem d4_14 : decode prog_63_method_3_code 14 = .ok (.aload_n 0, 1) := by decide +kernel
theorem d4_15 : decode prog_63_method_3_code 15 = .ok (.getfield 22, 3) := by decide +kernel
theorem d4_18 : decode prog_63_method_3_code 18 = .ok (.if_icmp .gt 7, 3) := by decide +kernel
theorem d4_21 : decode prog_63_method_3_code 21 = .ok (.iconst 1, 1) := by decide +kernel
theorem d4_22 : decode prog_63_method_3_code 22 = .ok (.goto 26, 3) := by decide +kernel
theorem d4_25 : decode prog_63_method_3_code 25 = .ok (.iconst 0, 1) := by decide +kernel
theorem d4_26 : decode prog_63_method_3_code 26 = .ok (.goto 22, 3) := by decide +kernel
theorem d4_29 : decode prog_63_method_3_code 29 = .ok (.iload_n 2, 1) := by decide +kernel
theorem d4_30 : decode prog_63_method_3_code 30 = .ok (.sipush 128, 3) := by decide +kernel
theorem d4_33 : decode prog_63_method_3_code 33 = .ok (.if_icmp .lt 14, 3) := by decide +kernel
theorem d4_36 : decode prog_63_method_3_code 36 = .ok (.iload_n 2, 1) := by decide +kernel
theorem d4_37 : decode prog_63_method_3_code 37 = .ok (.sipush 191, 3) := by decide +kernel
theorem d4_40 : decode prog_63_method_3_code 40 = .ok (.if_icmp .gt 7, 3) := by decide +kernel
theorem d4_43 : decode prog_63_method_3_code 43 = .ok (.iconst 1, 1) := by decide +kernel
theorem d4_44 : decode prog_63_method_3_code 44 = .ok (.goto 4, 3) := by decide +kernel
theorem d4_47 : decode prog_63_method_3_code 47 = .ok (.iconst 0, 1) := by decide +kernel
theorem d4_48 : decode prog_63_method_3_code 48 = .ok (.ireturn, 1) := by decide +kernel
theorem pn_4 : plainName "com/example/essence/essence/core/Utf8Sequence" = true := by first | (simp [plainName, overriddenIn]; done) | decide +kernel
theorem pd_4 : parseMethodDescriptor "(II)Z" = some ⟨[.int, .int], some .boolean⟩ := by decide +kernel
theorem d5_0 : decode method_3_code 0 = .ok (.iload_n 3, 1) := by decide +kernel
theorem d5_1 : decode method_3_code 1 = .ok (.sipush 128, 3) := by decide +kernel
theorem d5_4 : decode method_3_code 4 = .ok (.if_icmp .lt 10, 3) := by decide +kernel
theorem d5_7 : decode method_3_code 7 = .ok (.iload_n 3, 1) := by decide +kernel
theorem d5_8 : decode method_3_code 8 = .ok (.sipush 191, 3) := by decide +kernel
theorem d5_11 : decode method_3_code 11 = .ok (.if_icmp .le 5, 3) := by decide +kernel
theorem d5_14 : decode method_3_code 14 = .ok (.iconst 0, 1) := by decide +kernel
theorem d5_15 : decode method_3_code 15 = .ok (.ireturn, 1) := by decide +kernel
theorem d5_16 : decode method_3_code 16 = .ok (.iload_n 2, 1) := by decide +kernel
theorem d5_17 : decode method_3_code 17 = .ok (.iconst 1, 1) := by decide +kernel
theorem d5_18 : decode method_3_code 18 = .ok (.if_icmp .eq 5, 3) := by decide +kernel
theorem d5_21 : decode method_3_code 21 = .ok (.iconst 1, 1) := by decide +kernel
theorem d5_22 : decode method_3_code 22 = .ok (.ireturn, 1) := by decide +kernel
theorem d5_23 : decode method_3_code 23 = .ok (.iload_n 3, 1) := by decide +kernel
theorem d5_24 : decode method_3_code 24 = .ok (.bipush 63, 2) := by decide +kernel
theorem d5_26 : decode method_3_code 26 = .ok (.iand, 1) := by decide +kernel
theorem d5_27 : decode method_3_code 27 = .ok (.istore 4, 2) := by decide +kernel
theorem d5_29 : decode method_3_code 29 = .ok (.iload_n 1, 1) := by decide +kernel
theorem d5_30 : decode method_3_code 30 = .ok (.iconst 2, 1) := by decide +kernel
theorem d5_31 : decode method_3_code 31 = .ok (.if_icmp .ne 29, 3) := by decide +kernel
theorem d5_34 : decode method_3_code 34 = .ok (.iload_n 0, 1) := by decide +kernel
theorem d5_35 : decode method_3_code 35 = .ok (.bipush 31, 2) := by decide +kernel
theorem d5_37 : decode method_3_code 37 = .ok (.iand, 1) := by decide +kernel
theorem d5_38 : decode method_3_code 38 = .ok (.bipush 6, 2) := by decide +kernel
theorem d5_40 : decode method_3_code 40 = .ok (.ishl, 1) := by decide +kernel
theorem d5_41 : decode method_3_code 41 = .ok (.iload 4, 2) := by decide +kernel
theorem d5_43 : decode method_3_code 43 = .ok (.ior, 1) := by decide +kernel
theorem d5_44 : decode method_3_code 44 = .ok (.istore 5, 2) := by decide +kernel
theorem d5_46 : decode method_3_code 46 = .ok (.iload 5, 2) := by decide +kernel
theorem d5_48 : decode method_3_code 48 = .ok (.sipush 128, 3) := by decide +kernel
theorem d5_51 : decode method_3_code 51 = .ok (.if_icmp .lt 7, 3) := by decide +kernel
theorem d5_54 : decode method_3_code 54 = .ok (.iconst 1, 1) := by decide +kernel
theorem d5_55 : decode method_3_code 55 = .ok (.goto 4, 3) := by decide +kernel
theorem d5_58 : decode method_3_code 58 = .ok (.iconst 0, 1) := by decide +kernel
theorem d5_59 : decode method_3_code 59 = .ok (.ireturn, 1) := by decide +kernel
theorem d5_60 : decode method_3_code 60 = .ok (.iload_n 1, 1) := by decide +kernel
theorem d5_61 : decode method_3_code 61 = .ok (.iconst 3, 1) := by decide +kernel
theorem d5_62 : decode method_3_code 62 = .ok (.if_icmp .ne 46, 3) := by decide +kernel
theorem d5_65 : decode method_3_code 65 = .ok (.iload_n 0, 1) := by decide +kernel
theorem d5_66 : decode method_3_code 66 = .ok (.bipush 15, 2) := by decide +kernel
theorem d5_68 : decode method_3_code 68 = .ok (.iand, 1) := by decide +kernel
theorem d5_69 : decode method_3_code 69 = .ok (.bipush 12, 2) := by decide +kernel
theorem d5_71 : decode method_3_code 71 = .ok (.ishl, 1) := by decide +kernel
theorem d5_72 : decode method_3_code 72 = .ok (.iload 4, 2) := by decide +kernel
theorem d5_74 : decode method_3_code 74 = .ok (.bipush 6, 2) := by decide +kernel
theorem d5_76 : decode method_3_code 76 = .ok (.ishl, 1) := by decide +kernel
theorem d5_77 : decode method_3_code 77 = .ok (.ior, 1) := by decide +kernel
theorem d5_78 : decode method_3_code 78 = .ok (.istore 5, 2) := by decide +kernel
theorem d5_80 : decode method_3_code 80 = .ok (.iload 5, 2) := by decide +kernel
theorem d5_82 : decode method_3_code 82 = .ok (.sipush 2048, 3) := by decide +kernel
theorem d5_85 : decode method_3_code 85 = .ok (.if_icmp .lt 21, 3) := by decide +kernel
theorem d5_88 : decode method_3_code 88 = .ok (.iload 5, 2) := by decide +kernel
theorem d5_90 : decode method_3_code 90 = .ok (.ldc 23, 2) := by decide +kernel
theorem d5_92 : decode method_3_code 92 = .ok (.if_icmp .lt 10, 3) := by decide +kernel
theorem d5_95 : decode method_3_code 95 = .ok (.iload 5, 2) := by decide +kernel
theorem d5_97 : decode method_3_code 97 = .ok (.ldc 24, 2) := by decide +kernel
theorem d5_99 : decode method_3_code 99 = .ok (.if_icmp .le 7, 3) := by decide +kernel
theorem d5_102 : decode method_3_code 102 = .ok (.iconst 1, 1) := by decide +kernel
theorem d5_103 : decode method_3_code 103 = .ok (.goto 4, 3) := by decide +kernel
theorem d5_106 : decode method_3_code 106 = .ok (.iconst 0, 1) := by decide +kernel
theorem d5_107 : decode method_3_code 107 = .ok (.ireturn, 1) := by decide +kernel
theorem d5_108 : decode method_3_code 108 = .ok (.iload_n 0, 1) := by decide +kernel
theorem d5_109 : decode method_3_code 109 = .ok (.bipush 7, 2) := by decide +kernel
theorem d5_111 : decode method_3_code 111 = .ok (.iand, 1) := by decide +kernel
theorem d5_112 : decode method_3_code 112 = .ok (.bipush 18, 2) := by decide +kernel
theorem d5_114 : decode method_3_code 114 = .ok (.ishl, 1) := by decide +kernel
theorem d5_115 : decode method_3_code 115 = .ok (.iload 4, 2) := by decide +kernel
theorem d5_117 : decode method_3_code 117 = .ok (.bipush 12, 2) := by decide +kernel
theorem d5_119 : decode method_3_code 119 = .ok (.ishl, 1) := by decide +kernel
theorem d5_120 : decode method_3_code 120 = .ok (.ior, 1) := by decide +kernel
theorem d5_121 : decode method_3_code 121 = .ok (.istore 5, 2) := by decide +kernel
theorem d5_123 : decode method_3_code 123 = .ok (.iload 5, 2) := by decide +kernel
theorem d5_125 : decode method_3_code 125 = .ok (.ldc 25, 2) := by decide +kernel
theorem d5_127 : decode method_3_code 127 = .ok (.if_icmp .lt 14, 3) := by decide +kernel
theorem d5_130 : decode method_3_code 130 = .ok (.iload 5, 2) := by decide +kernel
theorem d5_132 : decode method_3_code 132 = .ok (.ldc 26, 2) := by decide +kernel
theorem d5_134 : decode method_3_code 134 = .ok (.if_icmp .gt 7, 3) := by decide +kernel
theorem d5_137 : decode method_3_code 137 = .ok (.iconst 1, 1) := by decide +kernel
theorem d5_138 : decode method_3_code 138 = .ok (.goto 4, 3) := by decide +kernel
theorem d5_141 : decode method_3_code 141 = .ok (.iconst 0, 1) := by decide +kernel
theorem d5_142 : decode method_3_code 142 = .ok (.ireturn, 1) := by decide +kernel
theorem pn_5 : plainName "com/example/essence/essence/core/Utf8SequenceContinuesPinLaw" = true := by first | (simp [plainName, overriddenIn]; done) | decide +kernel
theorem pd_5 : parseMethodDescriptor "(IIII)Z" = some ⟨[.int, .int, .int, .int], some .boolean⟩ := by decide +kernel

theorem own_mask31 (x : Int32) : 0 ≤ (x &&& 2147483647).toInt := by
  have := c_mask x 2147483647 31 (by decide) (by decide)
  omega
theorem own_rem (x k : Int32) (n : Int) (hn : 0 < n) (hk : k.toInt = n) (hx : 0 ≤ x.toInt) : 0 ≤ (x % k).toInt ∧ (x % k).toInt < n := by
  have := (c_irem x k n hk).1 hx
  rw [this]
  exact ⟨Int.emod_nonneg _ (by omega), Int.emod_lt_of_pos _ hn⟩
theorem own_is {v : Int32} {k : Int} (h : v.toInt = k) : v = Int32.ofInt k := by rw [← h, Int32.ofInt_toInt]
abbrev Q2 (Z : State) (a : Addr) (h0 : Heap) (v : Option Value) (h : Heap) (L : List Loc) : Prop := v = none ∧ L = [] ∧ h = h0
set_option maxRecDepth 65536 in
set_option maxHeartbeats 40000000 in
theorem rm2 (l : Launch) (Z : State) (a0 : Array Value) (hw : ∀ d ∈ tables_1, d.before a0 Z = true) (a : Addr) (h0 : Heap)  :
    Con l Z (⟨"java/lang/Record", "<init>", "()V"⟩ : MethodName) jdk_30_method_1_code 1 none ({ frames := 1, cells := 0, slots := 0, locals := 12 } : Room) #[(.ref a)] h0 (Q2 Z a h0) := by
  refine Con.of pn_2 (fun p e s m below meth c T0 X0 hx hby hml hret hlk hown hnm hZ e0 => ?_)
  replace hown : s.vm.findClass "java/lang/Record" = some m.cls := hown
  have ef : entryFrame m #[(.ref a)] 1 = mkF m 0 #[.val (.ref a)] [] := by first | (simp [entryFrame, mkF, argsToLocals, Value.category]; done) | rfl
  rw [ef]
  refine o_aloadN (pc' := 1) X0 hx (hb hby d2_0) rfl rfl rfl ?_
  refine o_initO (W := 0) (pc' := 4) X0 hx hZ hown (hw _ (List.mem_of_getElem? (i := 12) rfl)) (hw _ (List.mem_of_getElem? (i := 13) rfl)) (hw _ (List.mem_of_getElem? (i := 14) rfl)) e0 (by rw [hml]; rfl) (hb hby d2_1) rfl (by decide) rfl (by decide) ?_
  intro T1 e1 X1
  exact o_ret0 X1 hx hlk hret (hb hby d2_4) ⟨rfl, rfl, e1⟩ (by decide) (by decide)
abbrev Q1 (Z : State) (a : Addr) (n0 : Nat) (p1 p2 p3 p4 p5 : Int32) (h0 : Heap) (v : Option Value) (h : Heap) (L : List Loc) : Prop := v = none ∧ Fr n0 L ∧ Keep h0 h [a] ∧ Fld Z h a "com/example/essence/essence/core/Utf8Sequence" "secondFrom" "I" (.int p4) ∧ Fld Z h a "com/example/essence/essence/core/Utf8Sequence" "secondTo" "I" (.int p5)
set_option maxRecDepth 65536 in
set_option maxHeartbeats 40000000 in
theorem rm1 (l : Launch) (Z : State) (a0 : Array Value) (hw : ∀ d ∈ tables_1, d.before a0 Z = true) (a : Addr) (n0 : Nat) (p1 p2 p3 p4 p5 : Int32) (h0 : Heap) (q0 : n0 ≤ a) (E : Exa Z h0 a "com/example/essence/essence/core/Utf8Sequence") (F0 : Fld Z h0 a "com/example/essence/essence/core/Utf8Sequence" "leadFrom" "I" (.int (0 : Int32))) (F1 : Fld Z h0 a "com/example/essence/essence/core/Utf8Sequence" "leadTo" "I" (.int (0 : Int32))) (F2 : Fld Z h0 a "com/example/essence/essence/core/Utf8Sequence" "length" "I" (.int (0 : Int32))) (F3 : Fld Z h0 a "com/example/essence/essence/core/Utf8Sequence" "secondFrom" "I" (.int (0 : Int32))) (F4 : Fld Z h0 a "com/example/essence/essence/core/Utf8Sequence" "secondTo" "I" (.int (0 : Int32))) :
    Con l Z (⟨"com/example/essence/essence/core/Utf8Sequence", "<init>", "(IIIII)V"⟩ : MethodName) prog_63_method_1_code 6 none ({ frames := 2, cells := 0, slots := 0, locals := 24 } : Room) #[(.ref a), (.int p1), (.int p2), (.int p3), (.int p4), (.int p5)] h0 (Q1 Z a n0 p1 p2 p3 p4 p5 h0) := by
  refine Con.of pn_1 (fun p e s m below meth c T0 X0 hx hby hml hret hlk hown hnm hZ e0 => ?_)
  replace hown : s.vm.findClass "com/example/essence/essence/core/Utf8Sequence" = some m.cls := hown
  have ef : entryFrame m #[(.ref a), (.int p1), (.int p2), (.int p3), (.int p4), (.int p5)] 6 = mkF m 0 #[.val (.ref a), .val (.int p1), .val (.int p2), .val (.int p3), .val (.int p4), .val (.int p5)] [] := by first | (simp [entryFrame, mkF, argsToLocals, Value.category]; done) | rfl
  rw [ef]
  refine o_aloadN (pc' := 1) X0 hx (hb hby d1_0) rfl rfl rfl ?_
  refine o_callC (W := 0) (pc' := 4) (rm := ({ frames := 1, cells := 0, slots := 0, locals := 12 } : Room)) (a := a) (argsL := []) (rest := []) X0 hx hZ rfl hown (hw _ (List.mem_of_getElem? (i := 7) rfl)) (hw _ (List.mem_of_getElem? (i := 8) rfl)) (hw _ (List.mem_of_getElem? (i := 10) rfl)) (hw _ (List.mem_of_getElem? (i := 11) rfl)) (by decide) e0 (rm2 l Z a0 hw a h0) (by rw [hml]; rfl) pd_2 rfl rfl (hb hby d1_1) rfl (by decide) rfl (by decide) (by decide) (by decide) ?_
  rintro _ T1 L1 ⟨rfl, rfl, e1⟩ X1
  show Ends p e below s (Q1 Z a n0 p1 p2 p3 p4 p5 h0) ({ frames := 2, cells := 0, slots := 0, locals := 24 } : Room).cells ({ frames := 2, cells := 0, slots := 0, locals := 24 } : Room).slots (T1.setTop (mkF m 4 #[.val (.ref a), .val (.int p1), .val (.int p2), .val (.int p3), .val (.int p4), .val (.int p5)] []))
  have N := Fr.nil n0
  have K := Keep.refl h0 [a]
  refine o_aloadN (pc' := 5) X1 hx (hb hby d1_4) rfl rfl rfl ?_
  refine o_iloadN (pc' := 6) X1 hx (hb hby d1_5) rfl rfl ?_
  refine o_putF (pc' := 9) (ty := .int) X1 hx hZ hown (hw _ (List.mem_of_getElem? (i := 15) rfl)) Via.refl e1 F0 E (Or.inr ⟨(hw _ (List.mem_of_getElem? (i := 16) rfl)), rfl, hnm⟩) (hw _ (List.mem_of_getElem? (i := 2) rfl)) (by decide) rfl rfl (hb hby d1_6) rfl ?_
  intro T6 h6 e6 W6 X6
  replace N := Fr.snoc X6 N q0
  replace K := K.wr W6 (Or.inl (List.mem_cons_self ..))
  replace E := E.wr W6
  replace F0 := F0.same W6
  replace F1 := F1.other W6 (Or.inr (slot_ne (C := "com/example/essence/essence/core/Utf8Sequence") (t := .int) (t' := .int) (Or.inr (hw _ (List.mem_of_getElem? (i := 18) rfl))) (Or.inr (hw _ (List.mem_of_getElem? (i := 16) rfl))) (by decide) (by decide) (by decide)))
  replace F2 := F2.other W6 (Or.inr (slot_ne (C := "com/example/essence/essence/core/Utf8Sequence") (t := .int) (t' := .int) (Or.inr (hw _ (List.mem_of_getElem? (i := 20) rfl))) (Or.inr (hw _ (List.mem_of_getElem? (i := 16) rfl))) (by decide) (by decide) (by decide)))
  replace F3 := F3.other W6 (Or.inr (slot_ne (C := "com/example/essence/essence/core/Utf8Sequence") (t := .int) (t' := .int) (Or.inr (hw _ (List.mem_of_getElem? (i := 22) rfl))) (Or.inr (hw _ (List.mem_of_getElem? (i := 16) rfl))) (by decide) (by decide) (by decide)))
  replace F4 := F4.other W6 (Or.inr (slot_ne (C := "com/example/essence/essence/core/Utf8Sequence") (t := .int) (t' := .int) (Or.inr (hw _ (List.mem_of_getElem? (i := 24) rfl))) (Or.inr (hw _ (List.mem_of_getElem? (i := 16) rfl))) (by decide) (by decide) (by decide)))
  refine o_aloadN (pc' := 10) X6 hx (hb hby d1_9) rfl rfl rfl ?_
  refine o_iloadN (pc' := 11) X6 hx (hb hby d1_10) rfl rfl ?_
  refine o_putF (pc' := 14) (ty := .int) X6 hx hZ hown (hw _ (List.mem_of_getElem? (i := 17) rfl)) Via.refl e6 F1 E (Or.inr ⟨(hw _ (List.mem_of_getElem? (i := 18) rfl)), rfl, hnm⟩) (hw _ (List.mem_of_getElem? (i := 2) rfl)) (by decide) rfl rfl (hb hby d1_11) rfl ?_
  intro T11 h11 e11 W11 X11
  replace N := Fr.snoc X11 N q0
  replace K := K.wr W11 (Or.inl (List.mem_cons_self ..))
  replace E := E.wr W11
  replace F0 := F0.other W11 (Or.inr (slot_ne (C := "com/example/essence/essence/core/Utf8Sequence") (t := .int) (t' := .int) (Or.inr (hw _ (List.mem_of_getElem? (i := 16) rfl))) (Or.inr (hw _ (List.mem_of_getElem? (i := 18) rfl))) (by decide) (by decide) (by decide)))
  replace F1 := F1.same W11
  replace F2 := F2.other W11 (Or.inr (slot_ne (C := "com/example/essence/essence/core/Utf8Sequence") (t := .int) (t' := .int) (Or.inr (hw _ (List.mem_of_getElem? (i := 20) rfl))) (Or.inr (hw _ (List.mem_of_getElem? (i := 18) rfl))) (by decide) (by decide) (by decide)))
  replace F3 := F3.other W11 (Or.inr (slot_ne (C := "com/example/essence/essence/core/Utf8Sequence") (t := .int) (t' := .int) (Or.inr (hw _ (List.mem_of_getElem? (i := 22) rfl))) (Or.inr (hw _ (List.mem_of_getElem? (i := 18) rfl))) (by decide) (by decide) (by decide)))
  replace F4 := F4.other W11 (Or.inr (slot_ne (C := "com/example/essence/essence/core/Utf8Sequence") (t := .int) (t' := .int) (Or.inr (hw _ (List.mem_of_getElem? (i := 24) rfl))) (Or.inr (hw _ (List.mem_of_getElem? (i := 18) rfl))) (by decide) (by decide) (by decide)))
  refine o_aloadN (pc' := 15) X11 hx (hb hby d1_14) rfl rfl rfl ?_
  refine o_iloadN (pc' := 16) X11 hx (hb hby d1_15) rfl rfl ?_
  refine o_putF (pc' := 19) (ty := .int) X11 hx hZ hown (hw _ (List.mem_of_getElem? (i := 19) rfl)) Via.refl e11 F2 E (Or.inr ⟨(hw _ (List.mem_of_getElem? (i := 20) rfl)), rfl, hnm⟩) (hw _ (List.mem_of_getElem? (i := 2) rfl)) (by decide) rfl rfl (hb hby d1_16) rfl ?_
  intro T16 h16 e16 W16 X16
  replace N := Fr.snoc X16 N q0
  replace K := K.wr W16 (Or.inl (List.mem_cons_self ..))
  replace E := E.wr W16
  replace F0 := F0.other W16 (Or.inr (slot_ne (C := "com/example/essence/essence/core/Utf8Sequence") (t := .int) (t' := .int) (Or.inr (hw _ (List.mem_of_getElem? (i := 16) rfl))) (Or.inr (hw _ (List.mem_of_getElem? (i := 20) rfl))) (by decide) (by decide) (by decide)))
  replace F1 := F1.other W16 (Or.inr (slot_ne (C := "com/example/essence/essence/core/Utf8Sequence") (t := .int) (t' := .int) (Or.inr (hw _ (List.mem_of_getElem? (i := 18) rfl))) (Or.inr (hw _ (List.mem_of_getElem? (i := 20) rfl))) (by decide) (by decide) (by decide)))
  replace F2 := F2.same W16
  replace F3 := F3.other W16 (Or.inr (slot_ne (C := "com/example/essence/essence/core/Utf8Sequence") (t := .int) (t' := .int) (Or.inr (hw _ (List.mem_of_getElem? (i := 22) rfl))) (Or.inr (hw _ (List.mem_of_getElem? (i := 20) rfl))) (by decide) (by decide) (by decide)))
  replace F4 := F4.other W16 (Or.inr (slot_ne (C := "com/example/essence/essence/core/Utf8Sequence") (t := .int) (t' := .int) (Or.inr (hw _ (List.mem_of_getElem? (i := 24) rfl))) (Or.inr (hw _ (List.mem_of_getElem? (i := 20) rfl))) (by decide) (by decide) (by decide)))
  refine o_aloadN (pc' := 20) X16 hx (hb hby d1_19) rfl rfl rfl ?_
  refine o_iload (pc' := 22) X16 hx (hb hby d1_20) rfl rfl ?_
  refine o_putF (pc' := 25) (ty := .int) X16 hx hZ hown (hw _ (List.mem_of_getElem? (i := 21) rfl)) Via.refl e16 F3 E (Or.inr ⟨(hw _ (List.mem_of_getElem? (i := 22) rfl)), rfl, hnm⟩) (hw _ (List.mem_of_getElem? (i := 2) rfl)) (by decide) rfl rfl (hb hby d1_22) rfl ?_
  intro T22 h22 e22 W22 X22
  replace N := Fr.snoc X22 N q0
  replace K := K.wr W22 (Or.inl (List.mem_cons_self ..))
  replace E := E.wr W22
  replace F0 := F0.other W22 (Or.inr (slot_ne (C := "com/example/essence/essence/core/Utf8Sequence") (t := .int) (t' := .int) (Or.inr (hw _ (List.mem_of_getElem? (i := 16) rfl))) (Or.inr (hw _ (List.mem_of_getElem? (i := 22) rfl))) (by decide) (by decide) (by decide)))
  replace F1 := F1.other W22 (Or.inr (slot_ne (C := "com/example/essence/essence/core/Utf8Sequence") (t := .int) (t' := .int) (Or.inr (hw _ (List.mem_of_getElem? (i := 18) rfl))) (Or.inr (hw _ (List.mem_of_getElem? (i := 22) rfl))) (by decide) (by decide) (by decide)))
  replace F2 := F2.other W22 (Or.inr (slot_ne (C := "com/example/essence/essence/core/Utf8Sequence") (t := .int) (t' := .int) (Or.inr (hw _ (List.mem_of_getElem? (i := 20) rfl))) (Or.inr (hw _ (List.mem_of_getElem? (i := 22) rfl))) (by decide) (by decide) (by decide)))
  replace F3 := F3.same W22
  replace F4 := F4.other W22 (Or.inr (slot_ne (C := "com/example/essence/essence/core/Utf8Sequence") (t := .int) (t' := .int) (Or.inr (hw _ (List.mem_of_getElem? (i := 24) rfl))) (Or.inr (hw _ (List.mem_of_getElem? (i := 22) rfl))) (by decide) (by decide) (by decide)))
  refine o_aloadN (pc' := 26) X22 hx (hb hby d1_25) rfl rfl rfl ?_
  refine o_iload (pc' := 28) X22 hx (hb hby d1_26) rfl rfl ?_
  refine o_putF (pc' := 31) (ty := .int) X22 hx hZ hown (hw _ (List.mem_of_getElem? (i := 23) rfl)) Via.refl e22 F4 E (Or.inr ⟨(hw _ (List.mem_of_getElem? (i := 24) rfl)), rfl, hnm⟩) (hw _ (List.mem_of_getElem? (i := 2) rfl)) (by decide) rfl rfl (hb hby d1_28) rfl ?_
  intro T28 h28 e28 W28 X28
  replace N := Fr.snoc X28 N q0
  replace K := K.wr W28 (Or.inl (List.mem_cons_self ..))
  replace E := E.wr W28
  replace F0 := F0.other W28 (Or.inr (slot_ne (C := "com/example/essence/essence/core/Utf8Sequence") (t := .int) (t' := .int) (Or.inr (hw _ (List.mem_of_getElem? (i := 16) rfl))) (Or.inr (hw _ (List.mem_of_getElem? (i := 24) rfl))) (by decide) (by decide) (by decide)))
  replace F1 := F1.other W28 (Or.inr (slot_ne (C := "com/example/essence/essence/core/Utf8Sequence") (t := .int) (t' := .int) (Or.inr (hw _ (List.mem_of_getElem? (i := 18) rfl))) (Or.inr (hw _ (List.mem_of_getElem? (i := 24) rfl))) (by decide) (by decide) (by decide)))
  replace F2 := F2.other W28 (Or.inr (slot_ne (C := "com/example/essence/essence/core/Utf8Sequence") (t := .int) (t' := .int) (Or.inr (hw _ (List.mem_of_getElem? (i := 20) rfl))) (Or.inr (hw _ (List.mem_of_getElem? (i := 24) rfl))) (by decide) (by decide) (by decide)))
  replace F3 := F3.other W28 (Or.inr (slot_ne (C := "com/example/essence/essence/core/Utf8Sequence") (t := .int) (t' := .int) (Or.inr (hw _ (List.mem_of_getElem? (i := 22) rfl))) (Or.inr (hw _ (List.mem_of_getElem? (i := 24) rfl))) (by decide) (by decide) (by decide)))
  replace F4 := F4.same W28
  exact o_ret0 X28 hx hlk hret (hb hby d1_31) ⟨rfl, by first | exact N | simpa using N, by rw [e28]; exact K, by rw [e28]; exact F3, by rw [e28]; exact F4⟩ (by decide) (by decide)
def fcon (p1 p2 p3 p4 : Int32) : Int32 := (if p1 = (1 : Int32) then (if p2 < p3 then (0 : Int32) else (if p4 < p2 then (0 : Int32) else (1 : Int32))) else (if p2 < (128 : Int32) then (0 : Int32) else (if (191 : Int32) < p2 then (0 : Int32) else (1 : Int32))))
abbrev Q4 (Z : State) (a : Addr) (p1 p2 p3 p4 : Int32) (h0 : Heap) (v : Option Value) (h : Heap) (L : List Loc) : Prop := v = some (.int (fcon p1 p2 p3 p4)) ∧ L = [] ∧ h = h0
set_option maxRecDepth 65536 in
set_option maxHeartbeats 40000000 in
theorem rm4 (l : Launch) (Z : State) (a0 : Array Value) (hw : ∀ d ∈ tables_1, d.before a0 Z = true) (a : Addr) (p1 p2 p3 p4 : Int32) (h0 : Heap) (F3 : Fld Z h0 a "com/example/essence/essence/core/Utf8Sequence" "secondFrom" "I" (.int p3)) (F4 : Fld Z h0 a "com/example/essence/essence/core/Utf8Sequence" "secondTo" "I" (.int p4)) :
    Con l Z (⟨"com/example/essence/essence/core/Utf8Sequence", "continues", "(II)Z"⟩ : MethodName) prog_63_method_3_code 3 (some .boolean) ({ frames := 0, cells := 0, slots := 0, locals := 0 } : Room) #[(.ref a), (.int p1), (.int p2)] h0 (Q4 Z a p1 p2 p3 p4 h0) := by
  refine Con.of pn_4 (fun p e s m below meth c T0 X0 hx hby hml hret hlk hown hnm hZ e0 => ?_)
  replace hown : s.vm.findClass "com/example/essence/essence/core/Utf8Sequence" = some m.cls := hown
  have ef : entryFrame m #[(.ref a), (.int p1), (.int p2)] 3 = mkF m 0 #[.val (.ref a), .val (.int p1), .val (.int p2)] [] := by first | (simp [entryFrame, mkF, argsToLocals, Value.category]; done) | rfl
  rw [ef]
  refine o_iloadN (pc' := 1) X0 hx (hb hby d4_0) rfl rfl ?_
  refine o_iconst (v := (1 : Int32)) (pc' := 2) X0 hx (hb hby d4_1) (by decide) rfl ?_
  refine o_icmp_ne (p1 := 5) (p2 := 29) X0 hx (hb hby d4_2) rfl (by decide) (by decide) (fun hc2 => ?_) (fun hc2 => ?_)
  · refine o_iloadN (pc' := 30) X0 hx (hb hby d4_29) rfl rfl ?_
    refine o_sipush (v := (128 : Int32)) (pc' := 33) X0 hx (hb hby d4_30) (by decide) rfl ?_
    refine o_icmp_lt (p1 := 36) (p2 := 47) X0 hx (hb hby d4_33) rfl (by decide) (by decide) (fun hc33 => ?_) (fun hc33 => ?_)
    · refine o_iconst (v := (0 : Int32)) (pc' := 48) X0 hx (hb hby d4_47) (by decide) rfl ?_
      exact o_retZ X0 hx hlk hret (hb hby d4_48) (by decide) ⟨by simp only [fcon, if_neg hc2, if_pos hc33], rfl, e0⟩ (by decide) (by decide)
    · refine o_iloadN (pc' := 37) X0 hx (hb hby d4_36) rfl rfl ?_
      refine o_sipush (v := (191 : Int32)) (pc' := 40) X0 hx (hb hby d4_37) (by decide) rfl ?_
      refine o_icmp_gt (p1 := 43) (p2 := 47) X0 hx (hb hby d4_40) rfl (by decide) (by decide) (fun hc40 => ?_) (fun hc40 => ?_)
      · refine o_iconst (v := (0 : Int32)) (pc' := 48) X0 hx (hb hby d4_47) (by decide) rfl ?_
        exact o_retZ X0 hx hlk hret (hb hby d4_48) (by decide) ⟨by simp only [fcon, if_neg hc2, if_neg hc33, if_pos hc40], rfl, e0⟩ (by decide) (by decide)
      · refine o_iconst (v := (1 : Int32)) (pc' := 44) X0 hx (hb hby d4_43) (by decide) rfl ?_
        refine o_goto (pc' := 48) X0 hx (hb hby d4_44) (by decide) (by decide) ?_
        exact o_retZ X0 hx hlk hret (hb hby d4_48) (by decide) ⟨by simp only [fcon, if_neg hc2, if_neg hc33, if_neg hc40], rfl, e0⟩ (by decide) (by decide)
  · refine o_iloadN (pc' := 6) X0 hx (hb hby d4_5) rfl rfl ?_
    refine o_aloadN (pc' := 7) X0 hx (hb hby d4_6) rfl rfl rfl ?_
    refine o_getF (pc' := 10) X0 hx hZ hown (hw _ (List.mem_of_getElem? (i := 21) rfl)) Via.refl e0 F3 (hb hby d4_7) rfl ?_
    intro T7 e7 X7
    refine o_icmp_lt (p1 := 13) (p2 := 25) X7 hx (hb hby d4_10) rfl (by decide) (by decide) (fun hc10 => ?_) (fun hc10 => ?_)
    · refine o_iconst (v := (0 : Int32)) (pc' := 26) X7 hx (hb hby d4_25) (by decide) rfl ?_
      refine o_goto (pc' := 48) X7 hx (hb hby d4_26) (by decide) (by decide) ?_
      exact o_retZ X7 hx hlk hret (hb hby d4_48) (by decide) ⟨by simp only [fcon, if_pos hc2, if_pos hc10], rfl, e7⟩ (by decide) (by decide)
    · refine o_iloadN (pc' := 14) X7 hx (hb hby d4_13) rfl rfl ?_
      refine o_aloadN (pc' := 15) X7 hx (hb hby d4_14) rfl rfl rfl ?_
      refine o_getF (pc' := 18) X7 hx hZ hown (hw _ (List.mem_of_getElem? (i := 23) rfl)) Via.refl e7 F4 (hb hby d4_15) rfl ?_
      intro T15 e15 X15
      refine o_icmp_gt (p1 := 21) (p2 := 25) X15 hx (hb hby d4_18) rfl (by decide) (by decide) (fun hc18 => ?_) (fun hc18 => ?_)
      · refine o_iconst (v := (0 : Int32)) (pc' := 26) X15 hx (hb hby d4_25) (by decide) rfl ?_
        refine o_goto (pc' := 48) X15 hx (hb hby d4_26) (by decide) (by decide) ?_
        exact o_retZ X15 hx hlk hret (hb hby d4_48) (by decide) ⟨by simp only [fcon, if_pos hc2, if_neg hc10, if_pos hc18], rfl, e15⟩ (by decide) (by decide)
      · refine o_iconst (v := (1 : Int32)) (pc' := 22) X15 hx (hb hby d4_21) (by decide) rfl ?_
        refine o_goto (pc' := 48) X15 hx (hb hby d4_22) (by decide) (by decide) ?_
        exact o_retZ X15 hx hlk hret (hb hby d4_48) (by decide) ⟨by simp only [fcon, if_pos hc2, if_neg hc10, if_neg hc18], rfl, e15⟩ (by decide) (by decide)
def fex (p1 p2 p3 p4 : Int32) : Int32 := (if p4 < (128 : Int32) then (0 : Int32) else (if (191 : Int32) < p4 then (0 : Int32) else (if p3 = (1 : Int32) then (if p2 = (2 : Int32) then (if (((p1 &&& (31 : Int32)) <<< ((6 : Int32) &&& 31)) ||| (p4 &&& (63 : Int32))) < (128 : Int32) then (0 : Int32) else (1 : Int32)) else (if p2 = (3 : Int32) then (if (((p1 &&& (15 : Int32)) <<< ((12 : Int32) &&& 31)) ||| ((p4 &&& (63 : Int32)) <<< ((6 : Int32) &&& 31))) < (2048 : Int32) then (0 : Int32) else (if (((p1 &&& (15 : Int32)) <<< ((12 : Int32) &&& 31)) ||| ((p4 &&& (63 : Int32)) <<< ((6 : Int32) &&& 31))) < (55296 : Int32) then (1 : Int32) else (if (57343 : Int32) < (((p1 &&& (15 : Int32)) <<< ((12 : Int32) &&& 31)) ||| ((p4 &&& (63 : Int32)) <<< ((6 : Int32) &&& 31))) then (1 : Int32) else (0 : Int32)))) else (if (((p1 &&& (7 : Int32)) <<< ((18 : Int32) &&& 31)) ||| ((p4 &&& (63 : Int32)) <<< ((12 : Int32) &&& 31))) < (65536 : Int32) then (0 : Int32) else (if (1114111 : Int32) < (((p1 &&& (7 : Int32)) <<< ((18 : Int32) &&& 31)) ||| ((p4 &&& (63 : Int32)) <<< ((12 : Int32) &&& 31))) then (0 : Int32) else (1 : Int32))))) else (1 : Int32))))
abbrev Q5 (Z : State) (p1 p2 p3 p4 : Int32) (h0 : Heap) (v : Option Value) (h : Heap) (L : List Loc) : Prop := v = some (.int (fex p1 p2 p3 p4)) ∧ L = [] ∧ h = h0
set_option maxRecDepth 65536 in
set_option maxHeartbeats 40000000 in
theorem rm5 (l : Launch) (Z : State) (a0 : Array Value) (hw : ∀ d ∈ tables_1, d.before a0 Z = true) (p1 p2 p3 p4 : Int32) (h0 : Heap)  :
    Con l Z (⟨"com/example/essence/essence/core/Utf8SequenceContinuesPinLaw", "expected", "(IIII)Z"⟩ : MethodName) method_3_code 6 (some .boolean) ({ frames := 0, cells := 0, slots := 0, locals := 0 } : Room) #[(.int p1), (.int p2), (.int p3), (.int p4)] h0 (Q5 Z p1 p2 p3 p4 h0) := by
  refine Con.of pn_5 (fun p e s m below meth c T0 X0 hx hby hml hret hlk hown hnm hZ e0 => ?_)
  replace hown : s.vm.findClass "com/example/essence/essence/core/Utf8SequenceContinuesPinLaw" = some m.cls := hown
  have ef : entryFrame m #[(.int p1), (.int p2), (.int p3), (.int p4)] 6 = mkF m 0 #[.val (.int p1), .val (.int p2), .val (.int p3), .val (.int p4), .unset, .unset] [] := by first | (simp [entryFrame, mkF, argsToLocals, Value.category]; done) | rfl
  rw [ef]
  refine o_iloadN (pc' := 1) X0 hx (hb hby d5_0) rfl rfl ?_
  refine o_sipush (v := (128 : Int32)) (pc' := 4) X0 hx (hb hby d5_1) (by decide) rfl ?_
  refine o_icmp_lt (p1 := 7) (p2 := 14) X0 hx (hb hby d5_4) rfl (by decide) (by decide) (fun hc4 => ?_) (fun hc4 => ?_)
  · refine o_iconst (v := (0 : Int32)) (pc' := 15) X0 hx (hb hby d5_14) (by decide) rfl ?_
    exact o_retZ X0 hx hlk hret (hb hby d5_15) (by decide) ⟨by simp only [fex, if_pos hc4], rfl, e0⟩ (by decide) (by decide)
  · refine o_iloadN (pc' := 8) X0 hx (hb hby d5_7) rfl rfl ?_
    refine o_sipush (v := (191 : Int32)) (pc' := 11) X0 hx (hb hby d5_8) (by decide) rfl ?_
    refine o_icmp_le (p1 := 14) (p2 := 16) X0 hx (hb hby d5_11) rfl (by decide) (by decide) (fun hc11 => ?_) (fun hc11 => ?_)
    · refine o_iloadN (pc' := 17) X0 hx (hb hby d5_16) rfl rfl ?_
      refine o_iconst (v := (1 : Int32)) (pc' := 18) X0 hx (hb hby d5_17) (by decide) rfl ?_
      refine o_icmp_eq (p1 := 21) (p2 := 23) X0 hx (hb hby d5_18) rfl (by decide) (by decide) (fun hc18 => ?_) (fun hc18 => ?_)
      · refine o_iloadN (pc' := 24) X0 hx (hb hby d5_23) rfl rfl ?_
        refine o_bipush (v := (63 : Int32)) (pc' := 26) X0 hx (hb hby d5_24) (by decide) rfl ?_
        refine o_iand (pc' := 27) X0 hx (hb hby d5_26) rfl ?_
        refine o_istore (Ls' := #[.val (.int p1), .val (.int p2), .val (.int p3), .val (.int p4), .val (.int (p4 &&& (63 : Int32))), .unset]) (pc' := 29) X0 hx (hb hby d5_27) rfl rfl ?_
        refine o_iloadN (pc' := 30) X0 hx (hb hby d5_29) rfl rfl ?_
        refine o_iconst (v := (2 : Int32)) (pc' := 31) X0 hx (hb hby d5_30) (by decide) rfl ?_
        refine o_icmp_ne (p1 := 34) (p2 := 60) X0 hx (hb hby d5_31) rfl (by decide) (by decide) (fun hc31 => ?_) (fun hc31 => ?_)
        · refine o_iloadN (pc' := 61) X0 hx (hb hby d5_60) rfl rfl ?_
          refine o_iconst (v := (3 : Int32)) (pc' := 62) X0 hx (hb hby d5_61) (by decide) rfl ?_
          refine o_icmp_ne (p1 := 65) (p2 := 108) X0 hx (hb hby d5_62) rfl (by decide) (by decide) (fun hc62 => ?_) (fun hc62 => ?_)
          · refine o_iloadN (pc' := 109) X0 hx (hb hby d5_108) rfl rfl ?_
            refine o_bipush (v := (7 : Int32)) (pc' := 111) X0 hx (hb hby d5_109) (by decide) rfl ?_
            refine o_iand (pc' := 112) X0 hx (hb hby d5_111) rfl ?_
            refine o_bipush (v := (18 : Int32)) (pc' := 114) X0 hx (hb hby d5_112) (by decide) rfl ?_
            refine o_ishl (pc' := 115) X0 hx (hb hby d5_114) rfl ?_
            refine o_iload (pc' := 117) X0 hx (hb hby d5_115) rfl rfl ?_
            refine o_bipush (v := (12 : Int32)) (pc' := 119) X0 hx (hb hby d5_117) (by decide) rfl ?_
            refine o_ishl (pc' := 120) X0 hx (hb hby d5_119) rfl ?_
            refine o_ior (pc' := 121) X0 hx (hb hby d5_120) rfl ?_
            refine o_istore (Ls' := #[.val (.int p1), .val (.int p2), .val (.int p3), .val (.int p4), .val (.int (p4 &&& (63 : Int32))), .val (.int (((p1 &&& (7 : Int32)) <<< ((18 : Int32) &&& 31)) ||| ((p4 &&& (63 : Int32)) <<< ((12 : Int32) &&& 31))))]) (pc' := 123) X0 hx (hb hby d5_121) rfl rfl ?_
            refine o_iload (pc' := 125) X0 hx (hb hby d5_123) rfl rfl ?_
            refine o_ldc (pc' := 127) (v := (65536 : Int32)) X0 hx (hb hby d5_125) hZ hown (hw _ (List.mem_of_getElem? (i := 35) rfl)) rfl ?_
            refine o_icmp_lt (p1 := 130) (p2 := 141) X0 hx (hb hby d5_127) rfl (by decide) (by decide) (fun hc127 => ?_) (fun hc127 => ?_)
            · refine o_iconst (v := (0 : Int32)) (pc' := 142) X0 hx (hb hby d5_141) (by decide) rfl ?_
              exact o_retZ X0 hx hlk hret (hb hby d5_142) (by decide) ⟨by simp only [fex, if_neg hc4, if_neg hc11, if_pos hc18, if_neg hc31, if_neg hc62, if_pos hc127], rfl, e0⟩ (by decide) (by decide)
            · refine o_iload (pc' := 132) X0 hx (hb hby d5_130) rfl rfl ?_
              refine o_ldc (pc' := 134) (v := (1114111 : Int32)) X0 hx (hb hby d5_132) hZ hown (hw _ (List.mem_of_getElem? (i := 36) rfl)) rfl ?_
              refine o_icmp_gt (p1 := 137) (p2 := 141) X0 hx (hb hby d5_134) rfl (by decide) (by decide) (fun hc134 => ?_) (fun hc134 => ?_)
              · refine o_iconst (v := (0 : Int32)) (pc' := 142) X0 hx (hb hby d5_141) (by decide) rfl ?_
                exact o_retZ X0 hx hlk hret (hb hby d5_142) (by decide) ⟨by simp only [fex, if_neg hc4, if_neg hc11, if_pos hc18, if_neg hc31, if_neg hc62, if_neg hc127, if_pos hc134], rfl, e0⟩ (by decide) (by decide)
              · refine o_iconst (v := (1 : Int32)) (pc' := 138) X0 hx (hb hby d5_137) (by decide) rfl ?_
                refine o_goto (pc' := 142) X0 hx (hb hby d5_138) (by decide) (by decide) ?_
                exact o_retZ X0 hx hlk hret (hb hby d5_142) (by decide) ⟨by simp only [fex, if_neg hc4, if_neg hc11, if_pos hc18, if_neg hc31, if_neg hc62, if_neg hc127, if_neg hc134], rfl, e0⟩ (by decide) (by decide)
          · refine o_iloadN (pc' := 66) X0 hx (hb hby d5_65) rfl rfl ?_
            refine o_bipush (v := (15 : Int32)) (pc' := 68) X0 hx (hb hby d5_66) (by decide) rfl ?_
            refine o_iand (pc' := 69) X0 hx (hb hby d5_68) rfl ?_
            refine o_bipush (v := (12 : Int32)) (pc' := 71) X0 hx (hb hby d5_69) (by decide) rfl ?_
            refine o_ishl (pc' := 72) X0 hx (hb hby d5_71) rfl ?_
            refine o_iload (pc' := 74) X0 hx (hb hby d5_72) rfl rfl ?_
            refine o_bipush (v := (6 : Int32)) (pc' := 76) X0 hx (hb hby d5_74) (by decide) rfl ?_
            refine o_ishl (pc' := 77) X0 hx (hb hby d5_76) rfl ?_
            refine o_ior (pc' := 78) X0 hx (hb hby d5_77) rfl ?_
            refine o_istore (Ls' := #[.val (.int p1), .val (.int p2), .val (.int p3), .val (.int p4), .val (.int (p4 &&& (63 : Int32))), .val (.int (((p1 &&& (15 : Int32)) <<< ((12 : Int32) &&& 31)) ||| ((p4 &&& (63 : Int32)) <<< ((6 : Int32) &&& 31))))]) (pc' := 80) X0 hx (hb hby d5_78) rfl rfl ?_
            refine o_iload (pc' := 82) X0 hx (hb hby d5_80) rfl rfl ?_
            refine o_sipush (v := (2048 : Int32)) (pc' := 85) X0 hx (hb hby d5_82) (by decide) rfl ?_
            refine o_icmp_lt (p1 := 88) (p2 := 106) X0 hx (hb hby d5_85) rfl (by decide) (by decide) (fun hc85 => ?_) (fun hc85 => ?_)
            · refine o_iconst (v := (0 : Int32)) (pc' := 107) X0 hx (hb hby d5_106) (by decide) rfl ?_
              exact o_retZ X0 hx hlk hret (hb hby d5_107) (by decide) ⟨by simp only [fex, if_neg hc4, if_neg hc11, if_pos hc18, if_neg hc31, if_pos hc62, if_pos hc85], rfl, e0⟩ (by decide) (by decide)
            · refine o_iload (pc' := 90) X0 hx (hb hby d5_88) rfl rfl ?_
              refine o_ldc (pc' := 92) (v := (55296 : Int32)) X0 hx (hb hby d5_90) hZ hown (hw _ (List.mem_of_getElem? (i := 34) rfl)) rfl ?_
              refine o_icmp_lt (p1 := 95) (p2 := 102) X0 hx (hb hby d5_92) rfl (by decide) (by decide) (fun hc92 => ?_) (fun hc92 => ?_)
              · refine o_iconst (v := (1 : Int32)) (pc' := 103) X0 hx (hb hby d5_102) (by decide) rfl ?_
                refine o_goto (pc' := 107) X0 hx (hb hby d5_103) (by decide) (by decide) ?_
                exact o_retZ X0 hx hlk hret (hb hby d5_107) (by decide) ⟨by simp only [fex, if_neg hc4, if_neg hc11, if_pos hc18, if_neg hc31, if_pos hc62, if_neg hc85, if_pos hc92], rfl, e0⟩ (by decide) (by decide)
              · refine o_iload (pc' := 97) X0 hx (hb hby d5_95) rfl rfl ?_
                refine o_ldc (pc' := 99) (v := (57343 : Int32)) X0 hx (hb hby d5_97) hZ hown (hw _ (List.mem_of_getElem? (i := 37) rfl)) rfl ?_
                refine o_icmp_le (p1 := 102) (p2 := 106) X0 hx (hb hby d5_99) rfl (by decide) (by decide) (fun hc99 => ?_) (fun hc99 => ?_)
                · refine o_iconst (v := (0 : Int32)) (pc' := 107) X0 hx (hb hby d5_106) (by decide) rfl ?_
                  exact o_retZ X0 hx hlk hret (hb hby d5_107) (by decide) ⟨by simp only [fex, if_neg hc4, if_neg hc11, if_pos hc18, if_neg hc31, if_pos hc62, if_neg hc85, if_neg hc92, if_neg hc99], rfl, e0⟩ (by decide) (by decide)
                · refine o_iconst (v := (1 : Int32)) (pc' := 103) X0 hx (hb hby d5_102) (by decide) rfl ?_
                  refine o_goto (pc' := 107) X0 hx (hb hby d5_103) (by decide) (by decide) ?_
                  exact o_retZ X0 hx hlk hret (hb hby d5_107) (by decide) ⟨by simp only [fex, if_neg hc4, if_neg hc11, if_pos hc18, if_neg hc31, if_pos hc62, if_neg hc85, if_neg hc92, if_pos hc99], rfl, e0⟩ (by decide) (by decide)
        · refine o_iloadN (pc' := 35) X0 hx (hb hby d5_34) rfl rfl ?_
          refine o_bipush (v := (31 : Int32)) (pc' := 37) X0 hx (hb hby d5_35) (by decide) rfl ?_
          refine o_iand (pc' := 38) X0 hx (hb hby d5_37) rfl ?_
          refine o_bipush (v := (6 : Int32)) (pc' := 40) X0 hx (hb hby d5_38) (by decide) rfl ?_
          refine o_ishl (pc' := 41) X0 hx (hb hby d5_40) rfl ?_
          refine o_iload (pc' := 43) X0 hx (hb hby d5_41) rfl rfl ?_
          refine o_ior (pc' := 44) X0 hx (hb hby d5_43) rfl ?_
          refine o_istore (Ls' := #[.val (.int p1), .val (.int p2), .val (.int p3), .val (.int p4), .val (.int (p4 &&& (63 : Int32))), .val (.int (((p1 &&& (31 : Int32)) <<< ((6 : Int32) &&& 31)) ||| (p4 &&& (63 : Int32))))]) (pc' := 46) X0 hx (hb hby d5_44) rfl rfl ?_
          refine o_iload (pc' := 48) X0 hx (hb hby d5_46) rfl rfl ?_
          refine o_sipush (v := (128 : Int32)) (pc' := 51) X0 hx (hb hby d5_48) (by decide) rfl ?_
          refine o_icmp_lt (p1 := 54) (p2 := 58) X0 hx (hb hby d5_51) rfl (by decide) (by decide) (fun hc51 => ?_) (fun hc51 => ?_)
          · refine o_iconst (v := (0 : Int32)) (pc' := 59) X0 hx (hb hby d5_58) (by decide) rfl ?_
            exact o_retZ X0 hx hlk hret (hb hby d5_59) (by decide) ⟨by simp only [fex, if_neg hc4, if_neg hc11, if_pos hc18, if_pos hc31, if_pos hc51], rfl, e0⟩ (by decide) (by decide)
          · refine o_iconst (v := (1 : Int32)) (pc' := 55) X0 hx (hb hby d5_54) (by decide) rfl ?_
            refine o_goto (pc' := 59) X0 hx (hb hby d5_55) (by decide) (by decide) ?_
            exact o_retZ X0 hx hlk hret (hb hby d5_59) (by decide) ⟨by simp only [fex, if_neg hc4, if_neg hc11, if_pos hc18, if_pos hc31, if_neg hc51], rfl, e0⟩ (by decide) (by decide)
      · refine o_iconst (v := (1 : Int32)) (pc' := 22) X0 hx (hb hby d5_21) (by decide) rfl ?_
        exact o_retZ X0 hx hlk hret (hb hby d5_22) (by decide) ⟨by simp only [fex, if_neg hc4, if_neg hc11, if_neg hc18], rfl, e0⟩ (by decide) (by decide)
    · refine o_iconst (v := (0 : Int32)) (pc' := 15) X0 hx (hb hby d5_14) (by decide) rfl ?_
      exact o_retZ X0 hx hlk hret (hb hby d5_15) (by decide) ⟨by simp only [fex, if_neg hc4, if_pos hc11], rfl, e0⟩ (by decide) (by decide)
theorem own_nz (ld len : Int32) (hlen : len = (if ld < (224 : Int32) then (2 : Int32) else (if ld < (240 : Int32) then (3 : Int32) else (4 : Int32)))) : len - (1 : Int32) ≠ 0 := by
  subst hlen
  by_cases c1 : ld < (224 : Int32)
  · rw [if_pos c1]; decide
  · rw [if_neg c1]
    by_cases c2 : ld < (240 : Int32)
    · rw [if_pos c2]; decide
    · rw [if_neg c2]; decide

theorem own_dec : ∀ (l : Fin 51) (b : Fin 256), ∀ (i : Fin 4), 1 ≤ i.val →
    (let ld : Int32 := Int32.ofInt ((194 + l.val : Nat) : Int); let len : Int32 := (if ld < (224 : Int32) then (2 : Int32) else (if ld < (240 : Int32) then (3 : Int32) else (4 : Int32)));
     let sf : Int32 := (if ld = (224 : Int32) then (160 : Int32) else (if ld = (240 : Int32) then (144 : Int32) else (128 : Int32))); let sto : Int32 := (if ld = (237 : Int32) then (159 : Int32) else (if ld = (244 : Int32) then (143 : Int32) else (191 : Int32))); let ix : Int32 := Int32.ofInt (i.val : Int); let bb : Int32 := Int32.ofInt (b.val : Int);
     fcon ix bb sf sto = fex ld len ix bb) := by decide +kernel
theorem own_law (p1 p2 p3 ld len sf sto ix b : Int32) (hld : (194 : Int32) + ((p1 &&& (2147483647 : Int32)) % (51 : Int32)) = ld) (hlen : len = (if ld < (224 : Int32) then (2 : Int32) else (if ld < (240 : Int32) then (3 : Int32) else (4 : Int32)))) (hsf : sf = (if ld = (224 : Int32) then (160 : Int32) else (if ld = (240 : Int32) then (144 : Int32) else (128 : Int32)))) (hsto : sto = (if ld = (237 : Int32) then (159 : Int32) else (if ld = (244 : Int32) then (143 : Int32) else (191 : Int32)))) (hix : (1 : Int32) + ((p2 &&& (2147483647 : Int32)) % (len - (1 : Int32))) = ix) (hb : p3 &&& (255 : Int32) = b) : fcon ix b sf sto = fex ld len ix b := by
  have r1 := own_rem (p1 &&& 2147483647) 51 51 (by decide) (by decide) (own_mask31 p1)
  have r2 := c_iadd 194 ((p1 &&& 2147483647) % 51)
  have r3 := rng32 ((194 : Int32) + ((p1 &&& 2147483647) % 51))
  rw [hld] at r2 r3
  have e194 : (194 : Int32).toInt = 194 := by decide
  have hl : 194 ≤ ld.toInt ∧ ld.toInt < 245 := by omega
  have b1 := c_and p3 255 (by decide)
  rw [hb] at b1
  have e255 : (255 : Int32).toInt = 255 := by decide
  have l3 : len = 2 ∨ len = 3 ∨ len = 4 := by
    subst hlen
    by_cases c1 : ld < (224 : Int32)
    · rw [if_pos c1]; exact Or.inl rfl
    · rw [if_neg c1]
      by_cases c2 : ld < (240 : Int32)
      · rw [if_pos c2]; exact Or.inr (Or.inl rfl)
      · rw [if_neg c2]; exact Or.inr (Or.inr rfl)
  have i1 : 1 ≤ ix.toInt ∧ ix.toInt < 4 := by
    have k : ∀ (d : Int32) (n : Int), 0 < n → n ≤ 3 → d.toInt = n → len - (1 : Int32) = d → 1 ≤ ix.toInt ∧ ix.toInt < 4 := by
      intro d n hn hn3 hd hd2
      rw [hd2] at hix
      have q := own_rem (p2 &&& 2147483647) d n hn hd (own_mask31 p2)
      have q2 := c_iadd 1 ((p2 &&& 2147483647) % d)
      have q3 := rng32 ((1 : Int32) + ((p2 &&& 2147483647) % d))
      rw [hix] at q2 q3
      have e1 : (1 : Int32).toInt = 1 := by decide
      omega
    rcases l3 with h | h | h
    · exact k 1 1 (by decide) (by decide) (by decide) (by rw [h]; decide)
    · exact k 2 2 (by decide) (by decide) (by decide) (by rw [h]; decide)
    · exact k 3 3 (by decide) (by decide) (by decide) (by rw [h]; decide)
  have key := own_dec ⟨(ld.toInt - 194).toNat, by omega⟩ ⟨b.toInt.toNat, by omega⟩ ⟨ix.toInt.toNat, by omega⟩ (by show 1 ≤ ix.toInt.toNat; omega)
  have a1 : Int32.ofInt (((194 + (ld.toInt - 194).toNat : Nat)) : Int) = ld := by rw [show (((194 + (ld.toInt - 194).toNat : Nat)) : Int) = ld.toInt by omega, Int32.ofInt_toInt]
  have a2 : Int32.ofInt ((b.toInt.toNat : Nat) : Int) = b := by rw [show ((b.toInt.toNat : Nat) : Int) = b.toInt by omega, Int32.ofInt_toInt]
  have a3 : Int32.ofInt ((ix.toInt.toNat : Nat) : Int) = ix := by rw [show ((ix.toInt.toNat : Nat) : Int) = ix.toInt by omega, Int32.ofInt_toInt]
  dsimp only at key
  rw [a1, a2, a3] at key
  rw [hsf, hsto, hlen]
  exact key
abbrev Q0 (Z : State) (p1 p2 p3 : Int32) (h0 : Heap) (v : Option Value) (h : Heap) (L : List Loc) : Prop := v = some (.int (1 : Int32)) ∧ Fr h0.size L
set_option maxRecDepth 65536 in
set_option maxHeartbeats 40000000 in
theorem rm0 (l : Launch) (Z : State) (a0 : Array Value) (hw : ∀ d ∈ tables_1, d.before a0 Z = true) (p1 p2 p3 : Int32) (h0 : Heap)  :
    Con l Z x code maxLocals ret room_1 #[(.int p1), (.int p2), (.int p3)] h0 (Q0 Z p1 p2 p3 h0) := by
  refine Con.of pn_0 (fun p e s m below meth c T0 X0 hx hby hml hret hlk hown hnm hZ e0 => ?_)
  replace hown : s.vm.findClass "com/example/essence/essence/core/Utf8SequenceContinuesPinLaw" = some m.cls := hown
  have ef : entryFrame m #[(.int p1), (.int p2), (.int p3)] maxLocals = mkF m 0 #[.val (.int p1), .val (.int p2), .val (.int p3), .unset, .unset, .unset, .unset, .unset, .unset, .unset] [] := by first | (simp [entryFrame, mkF, argsToLocals, Value.category, maxLocals]; done) | rfl
  rw [ef]
  refine o_sipush (v := (194 : Int32)) (pc' := 3) X0 hx (hb hby at_0) (by decide) rfl ?_
  refine o_iloadN (pc' := 4) X0 hx (hb hby at_3) rfl rfl ?_
  refine o_ldc (pc' := 6) (v := (2147483647 : Int32)) X0 hx (hb hby at_4) hZ hown (hw _ (List.mem_of_getElem? (i := 0) rfl)) rfl ?_
  refine o_iand (pc' := 7) X0 hx (hb hby at_6) rfl ?_
  refine o_bipush (v := (51 : Int32)) (pc' := 9) X0 hx (hb hby at_7) (by decide) rfl ?_
  refine o_irem (pc' := 10) X0 hx (hb hby at_9) (by decide) rfl ?_
  refine o_iadd (pc' := 11) X0 hx (hb hby at_10) rfl ?_
  generalize hld : (194 : Int32) + ((p1 &&& (2147483647 : Int32)) % (51 : Int32)) = ld
  refine o_istoreN (Ls' := #[.val (.int p1), .val (.int p2), .val (.int p3), .val (.int ld), .unset, .unset, .unset, .unset, .unset, .unset]) (pc' := 12) X0 hx (hb hby at_11) rfl rfl ?_
  obtain ⟨len, hlen⟩ : ∃ z : Int32, z = (if ld < (224 : Int32) then (2 : Int32) else (if ld < (240 : Int32) then (3 : Int32) else (4 : Int32))) := ⟨_, rfl⟩
  suffices J35 : Ends p e below s (Q0 Z p1 p2 p3 h0) room_1.cells room_1.slots (T0.setTop (mkF m 35 #[.val (.int p1), .val (.int p2), .val (.int p3), .val (.int ld), .unset, .unset, .unset, .unset, .unset, .unset] [(.int len)])) by
    refine o_iloadN (pc' := 13) X0 hx (hb hby at_12) rfl rfl ?_
    refine o_sipush (v := (224 : Int32)) (pc' := 16) X0 hx (hb hby at_13) (by decide) rfl ?_
    refine o_icmp_ge (p1 := 19) (p2 := 23) X0 hx (hb hby at_16) rfl (by decide) (by decide) (fun hc16 => ?_) (fun hc16 => ?_)
    · refine o_iloadN (pc' := 24) X0 hx (hb hby at_23) rfl rfl ?_
      refine o_sipush (v := (240 : Int32)) (pc' := 27) X0 hx (hb hby at_24) (by decide) rfl ?_
      refine o_icmp_ge (p1 := 30) (p2 := 34) X0 hx (hb hby at_27) rfl (by decide) (by decide) (fun hc27 => ?_) (fun hc27 => ?_)
      · refine o_iconst (v := (4 : Int32)) (pc' := 35) X0 hx (hb hby at_34) (by decide) rfl ?_
        simp only [hlen, if_neg hc16, if_neg hc27] at J35; exact J35
      · refine o_iconst (v := (3 : Int32)) (pc' := 31) X0 hx (hb hby at_30) (by decide) rfl ?_
        refine o_goto (pc' := 35) X0 hx (hb hby at_31) (by decide) (by decide) ?_
        simp only [hlen, if_neg hc16, if_pos hc27] at J35; exact J35
    · refine o_iconst (v := (2 : Int32)) (pc' := 20) X0 hx (hb hby at_19) (by decide) rfl ?_
      refine o_goto (pc' := 35) X0 hx (hb hby at_20) (by decide) (by decide) ?_
      simp only [hlen, if_pos hc16] at J35; exact J35
  refine o_istore (Ls' := #[.val (.int p1), .val (.int p2), .val (.int p3), .val (.int ld), .val (.int len), .unset, .unset, .unset, .unset, .unset]) (pc' := 37) X0 hx (hb hby at_35) rfl rfl ?_
  obtain ⟨sf, hsf⟩ : ∃ z : Int32, z = (if ld = (224 : Int32) then (160 : Int32) else (if ld = (240 : Int32) then (144 : Int32) else (128 : Int32))) := ⟨_, rfl⟩
  suffices J66 : Ends p e below s (Q0 Z p1 p2 p3 h0) room_1.cells room_1.slots (T0.setTop (mkF m 66 #[.val (.int p1), .val (.int p2), .val (.int p3), .val (.int ld), .val (.int len), .unset, .unset, .unset, .unset, .unset] [(.int sf)])) by
    refine o_iloadN (pc' := 38) X0 hx (hb hby at_37) rfl rfl ?_
    refine o_sipush (v := (224 : Int32)) (pc' := 41) X0 hx (hb hby at_38) (by decide) rfl ?_
    refine o_icmp_ne (p1 := 44) (p2 := 50) X0 hx (hb hby at_41) rfl (by decide) (by decide) (fun hc41 => ?_) (fun hc41 => ?_)
    · refine o_iloadN (pc' := 51) X0 hx (hb hby at_50) rfl rfl ?_
      refine o_sipush (v := (240 : Int32)) (pc' := 54) X0 hx (hb hby at_51) (by decide) rfl ?_
      refine o_icmp_ne (p1 := 57) (p2 := 63) X0 hx (hb hby at_54) rfl (by decide) (by decide) (fun hc54 => ?_) (fun hc54 => ?_)
      · refine o_sipush (v := (128 : Int32)) (pc' := 66) X0 hx (hb hby at_63) (by decide) rfl ?_
        simp only [hsf, if_neg hc41, if_neg hc54] at J66; exact J66
      · refine o_sipush (v := (144 : Int32)) (pc' := 60) X0 hx (hb hby at_57) (by decide) rfl ?_
        refine o_goto (pc' := 66) X0 hx (hb hby at_60) (by decide) (by decide) ?_
        simp only [hsf, if_neg hc41, if_pos hc54] at J66; exact J66
    · refine o_sipush (v := (160 : Int32)) (pc' := 47) X0 hx (hb hby at_44) (by decide) rfl ?_
      refine o_goto (pc' := 66) X0 hx (hb hby at_47) (by decide) (by decide) ?_
      simp only [hsf, if_pos hc41] at J66; exact J66
  refine o_istore (Ls' := #[.val (.int p1), .val (.int p2), .val (.int p3), .val (.int ld), .val (.int len), .val (.int sf), .unset, .unset, .unset, .unset]) (pc' := 68) X0 hx (hb hby at_66) rfl rfl ?_
  obtain ⟨sto, hsto⟩ : ∃ z : Int32, z = (if ld = (237 : Int32) then (159 : Int32) else (if ld = (244 : Int32) then (143 : Int32) else (191 : Int32))) := ⟨_, rfl⟩
  suffices J97 : Ends p e below s (Q0 Z p1 p2 p3 h0) room_1.cells room_1.slots (T0.setTop (mkF m 97 #[.val (.int p1), .val (.int p2), .val (.int p3), .val (.int ld), .val (.int len), .val (.int sf), .unset, .unset, .unset, .unset] [(.int sto)])) by
    refine o_iloadN (pc' := 69) X0 hx (hb hby at_68) rfl rfl ?_
    refine o_sipush (v := (237 : Int32)) (pc' := 72) X0 hx (hb hby at_69) (by decide) rfl ?_
    refine o_icmp_ne (p1 := 75) (p2 := 81) X0 hx (hb hby at_72) rfl (by decide) (by decide) (fun hc72 => ?_) (fun hc72 => ?_)
    · refine o_iloadN (pc' := 82) X0 hx (hb hby at_81) rfl rfl ?_
      refine o_sipush (v := (244 : Int32)) (pc' := 85) X0 hx (hb hby at_82) (by decide) rfl ?_
      refine o_icmp_ne (p1 := 88) (p2 := 94) X0 hx (hb hby at_85) rfl (by decide) (by decide) (fun hc85 => ?_) (fun hc85 => ?_)
      · refine o_sipush (v := (191 : Int32)) (pc' := 97) X0 hx (hb hby at_94) (by decide) rfl ?_
        simp only [hsto, if_neg hc72, if_neg hc85] at J97; exact J97
      · refine o_sipush (v := (143 : Int32)) (pc' := 91) X0 hx (hb hby at_88) (by decide) rfl ?_
        refine o_goto (pc' := 97) X0 hx (hb hby at_91) (by decide) (by decide) ?_
        simp only [hsto, if_neg hc72, if_pos hc85] at J97; exact J97
    · refine o_sipush (v := (159 : Int32)) (pc' := 78) X0 hx (hb hby at_75) (by decide) rfl ?_
      refine o_goto (pc' := 97) X0 hx (hb hby at_78) (by decide) (by decide) ?_
      simp only [hsto, if_pos hc72] at J97; exact J97
  have hnz : len - (1 : Int32) ≠ 0 := own_nz ld len hlen
  refine o_istore (Ls' := #[.val (.int p1), .val (.int p2), .val (.int p3), .val (.int ld), .val (.int len), .val (.int sf), .val (.int sto), .unset, .unset, .unset]) (pc' := 99) X0 hx (hb hby at_97) rfl rfl ?_
  refine o_iconst (v := (1 : Int32)) (pc' := 100) X0 hx (hb hby at_99) (by decide) rfl ?_
  refine o_iloadN (pc' := 101) X0 hx (hb hby at_100) rfl rfl ?_
  refine o_ldc (pc' := 103) (v := (2147483647 : Int32)) X0 hx (hb hby at_101) hZ hown (hw _ (List.mem_of_getElem? (i := 0) rfl)) rfl ?_
  refine o_iand (pc' := 104) X0 hx (hb hby at_103) rfl ?_
  refine o_iload (pc' := 106) X0 hx (hb hby at_104) rfl rfl ?_
  refine o_iconst (v := (1 : Int32)) (pc' := 107) X0 hx (hb hby at_106) (by decide) rfl ?_
  refine o_isub (pc' := 108) X0 hx (hb hby at_107) rfl ?_
  refine o_irem (pc' := 109) X0 hx (hb hby at_108) hnz rfl ?_
  refine o_iadd (pc' := 110) X0 hx (hb hby at_109) rfl ?_
  generalize hix : (1 : Int32) + ((p2 &&& (2147483647 : Int32)) % (len - (1 : Int32))) = ix
  refine o_istore (Ls' := #[.val (.int p1), .val (.int p2), .val (.int p3), .val (.int ld), .val (.int len), .val (.int sf), .val (.int sto), .val (.int ix), .unset, .unset]) (pc' := 112) X0 hx (hb hby at_110) rfl rfl ?_
  refine o_iloadN (pc' := 113) X0 hx (hb hby at_112) rfl rfl ?_
  refine o_sipush (v := (255 : Int32)) (pc' := 116) X0 hx (hb hby at_113) (by decide) rfl ?_
  refine o_iand (pc' := 117) X0 hx (hb hby at_116) rfl ?_
  generalize hbb : p3 &&& (255 : Int32) = b
  refine o_istore (Ls' := #[.val (.int p1), .val (.int p2), .val (.int p3), .val (.int ld), .val (.int len), .val (.int sf), .val (.int sto), .val (.int ix), .val (.int b), .unset]) (pc' := 119) X0 hx (hb hby at_117) rfl rfl ?_
  refine o_new (pc' := 122) X0 hx hZ hown (hw _ (List.mem_of_getElem? (i := 1) rfl)) (hw _ (List.mem_of_getElem? (i := 2) rfl)) (hw _ (List.mem_of_getElem? (i := 3) rfl)) e0 (hb hby at_119) rfl (by decide) (by decide) ?_
  intro T119 h119 a g_a e119 E119 X_a D_a X119
  have F0 : Fld Z h119 a "com/example/essence/essence/core/Utf8Sequence" "leadFrom" "I" (.int (0 : Int32)) := D_a (Or.inr (hw _ (List.mem_of_getElem? (i := 16) rfl))) (ty := .int) (by decide)
  have F1 : Fld Z h119 a "com/example/essence/essence/core/Utf8Sequence" "leadTo" "I" (.int (0 : Int32)) := D_a (Or.inr (hw _ (List.mem_of_getElem? (i := 18) rfl))) (ty := .int) (by decide)
  have F2 : Fld Z h119 a "com/example/essence/essence/core/Utf8Sequence" "length" "I" (.int (0 : Int32)) := D_a (Or.inr (hw _ (List.mem_of_getElem? (i := 20) rfl))) (ty := .int) (by decide)
  have F3 : Fld Z h119 a "com/example/essence/essence/core/Utf8Sequence" "secondFrom" "I" (.int (0 : Int32)) := D_a (Or.inr (hw _ (List.mem_of_getElem? (i := 22) rfl))) (ty := .int) (by decide)
  have F4 : Fld Z h119 a "com/example/essence/essence/core/Utf8Sequence" "secondTo" "I" (.int (0 : Int32)) := D_a (Or.inr (hw _ (List.mem_of_getElem? (i := 24) rfl))) (ty := .int) (by decide)
  refine o_dup (pc' := 123) X119 hx (hb hby at_122) rfl rfl ?_
  refine o_iloadN (pc' := 124) X119 hx (hb hby at_123) rfl rfl ?_
  refine o_iloadN (pc' := 125) X119 hx (hb hby at_124) rfl rfl ?_
  refine o_iload (pc' := 127) X119 hx (hb hby at_125) rfl rfl ?_
  refine o_iload (pc' := 129) X119 hx (hb hby at_127) rfl rfl ?_
  refine o_iload (pc' := 131) X119 hx (hb hby at_129) rfl rfl ?_
  have q0 : h0.size ≤ a := Nat.le_of_eq g_a.symm
  refine o_callC (W := 1) (pc' := 134) (rm := ({ frames := 2, cells := 0, slots := 0, locals := 24 } : Room)) (a := a) (argsL := [(.int ld), (.int ld), (.int len), (.int sf), (.int sto)]) (rest := [(.ref a)]) X119 hx hZ rfl hown (hw _ (List.mem_of_getElem? (i := 4) rfl)) (hw _ (List.mem_of_getElem? (i := 5) rfl)) (hw _ (List.mem_of_getElem? (i := 3) rfl)) (hw _ (List.mem_of_getElem? (i := 6) rfl)) (by decide) e119 (rm1 l Z a0 hw a h0.size ld ld len sf sto h119 q0 X_a F0 F1 F2 F3 F4) (by rw [hml]; rfl) pd_1 rfl rfl (hb hby at_131) rfl (by decide) rfl (by decide) (by decide) (by decide) ?_
  rintro _ T131 L131 ⟨rfl, N, K, G3, G4⟩ X131
  show Ends p e below s (Q0 Z p1 p2 p3 h0) room_1.cells room_1.slots (T131.setTop (mkF m 134 #[.val (.int p1), .val (.int p2), .val (.int p3), .val (.int ld), .val (.int len), .val (.int sf), .val (.int sto), .val (.int ix), .val (.int b), .unset] [(.ref a)]))
  replace X_a := X_a.keep K
  obtain ⟨hp, ehp⟩ : ∃ hp, T131.heap = hp := ⟨_, rfl⟩
  rw [ehp] at X_a G3 G4
  refine o_astore (Ls' := #[.val (.int p1), .val (.int p2), .val (.int p3), .val (.int ld), .val (.int len), .val (.int sf), .val (.int sto), .val (.int ix), .val (.int b), .val (.ref a)]) (pc' := 136) X131 hx (hb hby at_134) rfl rfl rfl ?_
  refine o_aload (pc' := 138) X131 hx (hb hby at_136) rfl rfl rfl ?_
  refine o_iload (pc' := 140) X131 hx (hb hby at_138) rfl rfl ?_
  refine o_iload (pc' := 142) X131 hx (hb hby at_140) rfl rfl ?_
  refine o_callV (W := 0) (pc' := 145) (rm := ({ frames := 0, cells := 0, slots := 0, locals := 0 } : Room)) (argsL := [(.int ix), (.int b)]) (rest := []) X131 hx hZ hown (hw _ (List.mem_of_getElem? (i := 25) rfl)) (hw _ (List.mem_of_getElem? (i := 26) rfl)) (hw _ (List.mem_of_getElem? (i := 28) rfl)) (hw _ (List.mem_of_getElem? (i := 27) rfl)) (hw _ (List.mem_of_getElem? (i := 3) rfl)) (hw _ (List.mem_of_getElem? (i := 29) rfl)) (by decide) ehp X_a (rm4 l Z a0 hw a ix b sf sto hp G3 G4) (by rw [hml]; rfl) pd_4 rfl rfl (hb hby at_142) rfl (by decide) rfl (by decide) (by decide) (by decide) ?_
  rintro _ T142 L142 ⟨rfl, rfl, e142⟩ X142
  show Ends p e below s (Q0 Z p1 p2 p3 h0) room_1.cells room_1.slots (T142.setTop (mkF m 145 #[.val (.int p1), .val (.int p2), .val (.int p3), .val (.int ld), .val (.int len), .val (.int sf), .val (.int sto), .val (.int ix), .val (.int b), .val (.ref a)] [(.int (fcon ix b sf sto))]))
  refine o_iloadN (pc' := 146) X142 hx (hb hby at_145) rfl rfl ?_
  refine o_iload (pc' := 148) X142 hx (hb hby at_146) rfl rfl ?_
  refine o_iload (pc' := 150) X142 hx (hb hby at_148) rfl rfl ?_
  refine o_iload (pc' := 152) X142 hx (hb hby at_150) rfl rfl ?_
  refine o_callS (W := 1) (pc' := 155) (rm := ({ frames := 0, cells := 0, slots := 0, locals := 0 } : Room)) (argsL := [(.int ld), (.int len), (.int ix), (.int b)]) (rest := [(.int (fcon ix b sf sto))]) X142 hx hZ hown (hw _ (List.mem_of_getElem? (i := 30) rfl)) (hw _ (List.mem_of_getElem? (i := 31) rfl)) (hw _ (List.mem_of_getElem? (i := 32) rfl)) (hw _ (List.mem_of_getElem? (i := 33) rfl)) (by decide) e142 (rm5 l Z a0 hw ld len ix b hp) (by rw [hml]; rfl) pd_5 rfl rfl (hb hby at_152) rfl (by decide) rfl (by decide) (by decide) (by decide) ?_
  rintro _ T152 L152 ⟨rfl, rfl, e152⟩ X152
  show Ends p e below s (Q0 Z p1 p2 p3 h0) room_1.cells room_1.slots (T152.setTop (mkF m 155 #[.val (.int p1), .val (.int p2), .val (.int p3), .val (.int ld), .val (.int len), .val (.int sf), .val (.int sto), .val (.int ix), .val (.int b), .val (.ref a)] [(.int (fex ld len ix b)), (.int (fcon ix b sf sto))]))
  refine o_icmp_ne (p1 := 158) (p2 := 162) X152 hx (hb hby at_155) rfl (by decide) (by decide) (fun hc155 => absurd (own_law p1 p2 p3 ld len sf sto ix b hld hlen hsf hsto hix hbb) hc155) (fun hc155 => ?_)
  refine o_iconst (v := (1 : Int32)) (pc' := 159) X152 hx (hb hby at_158) (by decide) rfl ?_
  refine o_goto (pc' := 163) X152 hx (hb hby at_159) (by decide) (by decide) ?_
  exact o_retZ X152 hx hlk hret (hb hby at_163) (by decide) ⟨rfl, by first | exact N | simpa using N⟩ (by decide) (by decide)
set_option maxRecDepth 65536 in
set_option maxHeartbeats 40000000 in
theorem comes_1 {Post : Tables → Env → Array Value → State → Outcome → State → Prop} (hpost : ∀ tb e args s v u, (limb_1_1.after args s (.returned v) u = true ∧ limb_1_2.after args s (.returned v) u = true ∧ True) → FrameEnd s (.returned v) u (Jvm.fieldLocs frame_1_writes args s ++ Jvm.arrayLocs frame_1_arrays args s ++ Jvm.staticLocs frame_1_statics s) 16 128 → Post tb e args s (.returned v) u) :
    ArmFor flags0 classFile x code maxLocals ret World_1 tables_1 room_1 Calls_1 rest_1 Pre_1 Post := by
  intro l hfl _ _ p e ha hc hk s m args below hf hA hF happ hP
  obtain ⟨hcalls, hrest, hpre⟩ := hP
  obtain ⟨-, -, -, hnamed, -, -, -, hat⟩ := (Spec.applies_iff hf).mp happ
  obtain ⟨hg, hn⟩ := and_e (Cond.before_iff.mp (show (Jvm.Cond.and given_1 narrow_1).before args s = true from hpre))
  obtain ⟨g0, gr0⟩ := and_e hg
  obtain ⟨g1, gr1⟩ := and_e gr0
  obtain ⟨g2, gr2⟩ := and_e gr1
  obtain ⟨w0, w1, w2, rfl⟩ : ∃ w0 w1 w2 : Value, args = #[w0, w1, w2] := by
    have hs : args.size = 3 := by simpa [Cond.value, given_1] using g0
    obtain ⟨L⟩ := args
    match L, hs with
    | [w0, w1, w2], _ => exact ⟨w0, w1, w2, rfl⟩
  have hw := fun d (hd : d ∈ tables_1) => atoms_spec (ws := Jvm.Cond.code x code maxLocals ret :: tables_1) hat d (List.mem_cons_of_mem _ hd)
  have hfit : Fit s := fun {y c} hc i hi => by
    obtain ⟨ha, rfl⟩ := Array.getElem?_eq_some_iff.mp hc
    have q := List.all_eq_true.mp ((Array.all_eq_true_iff_forall_mem.mp hF) _ (Array.getElem_mem ha)) i (List.mem_range.mpr hi)
    simpa [Array.getElem?_eq_getElem hi] using q
  obtain ⟨i0, ei0⟩ := is_v g1
  obtain rfl : w0 = (.int i0) := Option.some.inj ei0
  obtain ⟨i1, ei1⟩ := is_v g2
  obtain rfl : w1 = (.int i1) := Option.some.inj ei1
  obtain ⟨i2, ei2⟩ := is_v gr2
  obtain rfl : w2 = (.int i2) := Option.some.inj ei2
  obtain ⟨n, o, h1, h2, h3, _, L, rfl, ⟨rfl, N⟩, hq⟩ := rm0 l s _ hw i0 i1 i2 s.heap tables_1 p e ha hc hk s m _ below hf ((Spec.applies_iff_loose hf).mp happ).1 ⟨rfl, State.Warmed39.refl s, rfl⟩ trivial
  refine ⟨n, _, h1, h2, h3, hpost _ _ _ _ _ _ ⟨Cond.after_iff.mpr rfl, Cond.after_iff.mpr (eq_i res_at (Term.int_eval (1)) rfl), trivial⟩ ⟨hq.1, hq.2.1, (hq.2.2.sift fun y hy => Or.inr (N y hy)).mono (by decide) (by decide)⟩⟩
theorem main_1_1 : Claimed_1_1 := comes_1 fun _ _ _ _ _ _ h hF => ⟨h.1, hF⟩
theorem main_1_2 : Claimed_1_2 := comes_1 fun _ _ _ _ _ _ h hF => ⟨h.2.1, hF⟩
end Jvm.Pilot.@@N@@
namespace Jvm.Pilot.@@N@@
open Jvm Jvm.ClassFile Sem Op Lib Jvm.Free Jvm.Stand Jvm.Pilot.@@N@@.Jvm.D
/-! MADE BY PROGRAM (witnessworld.py) out of the Statement's table words and the real class files: 10 classes; the members and pool entries that the words name. The judged class is class 1, her method 1. -/
namespace start1
open Jvm.ClassFile
def u (s : String) : CpInfo := .utf8 (stringToUtf16 s)
/-- a pool by its gaps: so many unusable entries, then the entry; so many at the end -/
def gap : Nat → List CpInfo → List CpInfo
  | 0, r => r
  | n + 1, r => .unusable :: gap n r
def poolList (es : List (Nat × CpInfo)) (last : Nat) : List CpInfo := es.foldr (fun e r => gap e.1 (e.2 :: r)) (gap last [])
def pool (es : List (Nat × CpInfo)) (last : Nat) : Array CpInfo := ⟨poolList es last⟩
def fileOf (pool : Array CpInfo) (this : Nat) (attrs : Array Attribute := #[]) (ms : Array MethodInfo := #[]) (fl : Nat := 33) (sup : Nat := 0) (ifs : Array Nat := #[]) (fds : Array FieldInfo := #[]) : ClassFile where
  minorVersion := 0
  majorVersion := 65
  constantPool := pool
  accessFlags := fl
  thisClass := this
  superClass := sup
  interfaces := ifs
  fields := fds
  methods := ms
  attributes := attrs
def plain (name : String) (sup : Option ClassId) : Class where
  name := name
  kind := .ordinary
  loader := none
  accessFlags := 33
  super := sup
  interfaces := #[]
  cf := none
  fields := #[]
  methods := #[]
  instanceTypes := #[]
  staticTypes := #[]
  resolved := #[]
  callSites := []
  init := .initialized
  statics := none
  mirror := none

def pool0 : Array CpInfo := pool [(5, u "<init>"), (0, u "()V"), (1, .class_ 10), (1, u "java/lang/Object")] 113

def k0c0 : Code := { maxStack := 0, maxLocals := 1, code := object_method_1_code, exceptionTable := #[], attributes := #[] }
def k0m0 : Method := { name := "<init>", desc := "()V", sig := { parameters := [], returnType := none }, accessFlags := 1, code := some k0c0 }
/-- java/lang/Object -/
def k0 : Class := { plain "java/lang/Object" none with
  accessFlags := 33
  interfaces := #[]
  cf := some (fileOf pool0 8 #[] #[{ accessFlags := 1, nameIndex := 5, descriptorIndex := 6, attributes := #[] }] 33 0 #[] #[])
  fields := #[]
  methods := #[k0m0]
  instanceTypes := #[]
  staticTypes := #[]
  resolved := Array.replicate 124 none
  statics := none }

def pool1 : Array CpInfo := pool [(2, .class_ 4), (1, u "java/lang/Object"), (0, u "<init>"), (0, u "()V"), (0, .integer 2147483647), (0, .class_ 9), (0, u "com/example/essence/essence/core/Utf8Sequence"), (0, .methodref 8 11), (0, .nameAndType 5 12), (0, u "(IIIII)V"), (0, .methodref 8 14), (0, .nameAndType 15 16), (0, u "continues"), (0, u "(II)Z"), (0, .methodref 18 19), (0, .class_ 20), (0, .nameAndType 21 22), (0, u "com/example/essence/essence/core/Utf8SequenceContinuesPinLaw"), (0, u "expected"), (0, u "(IIII)Z"), (0, .integer 55296), (0, .integer 57343), (0, .integer 65536), (0, .integer 1114111), (2, u "law"), (0, u "(III)Z")] 3

def k1m0 : Method := { name := "<init>", desc := "()V", sig := { parameters := [], returnType := none }, accessFlags := 1, code := none }
def k1c1 : Code := { maxStack := 7, maxLocals := 10, code := code, exceptionTable := #[], attributes := #[] }
def k1m1 : Method := { name := "law", desc := "(III)Z", sig := { parameters := [.int, .int, .int], returnType := some .boolean }, accessFlags := 9, code := some k1c1 }
def k1c2 : Code := { maxStack := 3, maxLocals := 6, code := method_3_code, exceptionTable := #[], attributes := #[] }
def k1m2 : Method := { name := "expected", desc := "(IIII)Z", sig := { parameters := [.int, .int, .int, .int], returnType := some .boolean }, accessFlags := 10, code := some k1c2 }
/-- com/example/essence/essence/core/Utf8SequenceContinuesPinLaw -/
def k1 : Class := { plain "com/example/essence/essence/core/Utf8SequenceContinuesPinLaw" (some 0) with
  accessFlags := 49
  interfaces := #[]
  cf := some (fileOf pool1 18 #[] #[{ accessFlags := 1, nameIndex := 5, descriptorIndex := 6, attributes := #[] }, { accessFlags := 9, nameIndex := 29, descriptorIndex := 30, attributes := #[] }, { accessFlags := 10, nameIndex := 21, descriptorIndex := 22, attributes := #[] }] 49 2 #[] #[])
  fields := #[]
  methods := #[k1m0, k1m1, k1m2]
  instanceTypes := #[]
  staticTypes := #[]
  resolved := Array.replicate 34 none
  statics := none }

def pool2 : Array CpInfo := pool [(1, .methodref 2 3), (0, .class_ 4), (0, .nameAndType 5 6), (0, u "java/lang/Object"), (0, u "<init>"), (0, u "()V"), (0, .class_ 8), (0, u "java/lang/Record")] 13

def k2c0 : Code := { maxStack := 1, maxLocals := 1, code := jdk_30_method_1_code, exceptionTable := #[], attributes := #[] }
def k2m0 : Method := { name := "<init>", desc := "()V", sig := { parameters := [], returnType := none }, accessFlags := 4, code := some k2c0 }
/-- java/lang/Record -/
def k2 : Class := { plain "java/lang/Record" (some 0) with
  accessFlags := 1057
  interfaces := #[]
  cf := some (fileOf pool2 7 #[] #[{ accessFlags := 4, nameIndex := 5, descriptorIndex := 6, attributes := #[] }] 1057 2 #[] #[])
  fields := #[]
  methods := #[k2m0]
  instanceTypes := #[]
  staticTypes := #[]
  resolved := Array.replicate 22 none
  statics := none }

def pool3 : Array CpInfo := pool [(1, .methodref 2 3), (0, .class_ 4), (0, .nameAndType 5 6), (0, u "java/lang/Record"), (0, u "<init>"), (0, u "()V"), (0, .fieldref 8 9), (0, .class_ 10), (0, .nameAndType 11 12), (0, u "com/example/essence/essence/core/Utf8Sequence"), (0, u "leadFrom"), (0, u "I"), (0, .fieldref 8 14), (0, .nameAndType 15 12), (0, u "leadTo"), (0, .fieldref 8 17), (0, .nameAndType 18 12), (0, u "length"), (0, .fieldref 8 20), (0, .nameAndType 21 12), (0, u "secondFrom"), (0, .fieldref 8 23), (0, .nameAndType 24 12), (0, u "secondTo"), (2, u "BY_LEAD"), (0, u "[Lcom/example/essence/essence/core/Utf8Sequence;"), (14, u "(IIIII)V"), (8, u "SEQUENCES"), (0, u "Ljava/util/List;"), (21, u "continues"), (0, u "(II)Z")] 29

def k3c0 : Code := { maxStack := 2, maxLocals := 6, code := prog_63_method_1_code, exceptionTable := #[], attributes := #[] }
def k3m0 : Method := { name := "<init>", desc := "(IIIII)V", sig := { parameters := [.int, .int, .int, .int, .int], returnType := none }, accessFlags := 0, code := some k3c0 }
def k3c1 : Code := { maxStack := 2, maxLocals := 3, code := prog_63_method_3_code, exceptionTable := #[], attributes := #[] }
def k3m1 : Method := { name := "continues", desc := "(II)Z", sig := { parameters := [.int, .int], returnType := some .boolean }, accessFlags := 0, code := some k3c1 }
/-- com/example/essence/essence/core/Utf8Sequence -/
def k3 : Class := { plain "com/example/essence/essence/core/Utf8Sequence" (some 2) with
  accessFlags := 48
  interfaces := #[]
  cf := some (fileOf pool3 8 #[] #[{ accessFlags := 0, nameIndex := 5, descriptorIndex := 43, attributes := #[] }, { accessFlags := 0, nameIndex := 75, descriptorIndex := 76, attributes := #[] }] 48 2 #[] #[{ accessFlags := 18, nameIndex := 11, descriptorIndex := 12, attributes := #[] }, { accessFlags := 18, nameIndex := 15, descriptorIndex := 12, attributes := #[] }, { accessFlags := 18, nameIndex := 18, descriptorIndex := 12, attributes := #[] }, { accessFlags := 18, nameIndex := 21, descriptorIndex := 12, attributes := #[] }, { accessFlags := 18, nameIndex := 24, descriptorIndex := 12, attributes := #[] }, { accessFlags := 26, nameIndex := 52, descriptorIndex := 53, attributes := #[] }, { accessFlags := 26, nameIndex := 27, descriptorIndex := 28, attributes := #[] }])
  fields := #[{ name := "leadFrom", type := .int, accessFlags := 18, slot := 0, constantValue := 0 }, { name := "leadTo", type := .int, accessFlags := 18, slot := 1, constantValue := 0 }, { name := "length", type := .int, accessFlags := 18, slot := 2, constantValue := 0 }, { name := "secondFrom", type := .int, accessFlags := 18, slot := 3, constantValue := 0 }, { name := "secondTo", type := .int, accessFlags := 18, slot := 4, constantValue := 0 }, { name := "SEQUENCES", type := (.object "java/util/List"), accessFlags := 26, slot := 0, constantValue := 0 }, { name := "BY_LEAD", type := (.array (.object "com/example/essence/essence/core/Utf8Sequence")), accessFlags := 26, slot := 1, constantValue := 0 }]
  methods := #[k3m0, k3m1]
  instanceTypes := #[.int, .int, .int, .int, .int]
  staticTypes := #[(.object "java/util/List"), (.array (.object "com/example/essence/essence/core/Utf8Sequence"))]
  resolved := Array.replicate 106 none
  statics := none }

def pool4 : Array CpInfo := pool [(1, u "java/lang/Cloneable"), (0, .class_ 1), (0, u "java/lang/Object"), (0, .class_ 3)] 3

/-- java/lang/Cloneable -/
def k4 : Class := { plain "java/lang/Cloneable" (some 0) with
  accessFlags := 1537
  interfaces := #[]
  cf := some (fileOf pool4 2 #[] #[] 1537 4 #[] #[])
  fields := #[]
  methods := #[]
  instanceTypes := #[]
  staticTypes := #[]
  resolved := Array.replicate 8 none
  statics := none }

def pool5 : Array CpInfo := pool [(1, u "java/io/Serializable"), (0, .class_ 1), (0, u "java/lang/Object"), (0, .class_ 3)] 3

/-- java/io/Serializable -/
def k5 : Class := { plain "java/io/Serializable" (some 0) with
  accessFlags := 1537
  interfaces := #[]
  cf := some (fileOf pool5 2 #[] #[] 1537 4 #[] #[])
  fields := #[]
  methods := #[]
  instanceTypes := #[]
  staticTypes := #[]
  resolved := Array.replicate 8 none
  statics := none }

/-- the primitive byte -/
def k6 : Class := { plain "byte" none with kind := .primitive 'B', accessFlags := 0x411 }
/-- [B -/
def k7 : Class := { plain "[B" (some 0) with kind := .array 6 .byte, interfaces := #[4, 5], accessFlags := 1041 }

/-- the primitive int -/
def k8 : Class := { plain "int" none with kind := .primitive 'I', accessFlags := 0x411 }
/-- [I -/
def k9 : Class := { plain "[I" (some 0) with kind := .array 8 .int, interfaces := #[4, 5], accessFlags := 1041 }

def heap : Heap := #[]
def classes : Array Class := #[k0, k1, k2, k3, k4, k5, k6, k7, k8, k9]
def interned : List (Array UInt16 × Addr) := []
def slotsUsed : Nat := 0
def theMethod : MethodId := ⟨1, 1⟩
def args0 : Array Value := #[.int 5, .int 3, .int 165]
def aboutOver (below : List Frame) : State where
  vm := { classes := classes, interned := interned.toArray }
  heap := heap
  slotsUsed := slotsUsed
  threads := #[{ frames := .invoking theMethod args0 :: below }]
def below0 : List Frame := [.native { method := ⟨0, 0⟩, args := #[] }]
def about1 : State := aboutOver below0
def p0 : Program := .bare "" "" ""
def e0 : Env := launch0.env 0 0 0
theorem w_frames : about1.frames = Frame.invoking theMethod args0 :: below0 := rfl
set_option maxRecDepth 65536 in
theorem w_args : argsFit about1.vm theMethod args0 = true := by decide +kernel
set_option maxRecDepth 65536 in
theorem w_heap : heapFits about1 = true := by decide +kernel
set_option maxRecDepth 65536 in
theorem w_runnable : about1.curStatus? = some .runnable := by decide +kernel
set_option maxRecDepth 65536 in
theorem w_alone : about1.alone = true := by decide +kernel
set_option maxRecDepth 65536 in
theorem w_named : about1.methodNamed? x = some theMethod := by decide +kernel
set_option maxRecDepth 65536 in
theorem w_hears : about1.hears theMethod below0 = true := by decide +kernel
set_option maxRecDepth 65536 in
theorem w_ripe : about1.ripe theMethod args0 below0 = true := by decide +kernel
theorem w_running : about1.status = .running := rfl
set_option maxRecDepth 65536 in
theorem w_room : about1.hasRoom e0.platform room_1 = true :=
  launch0.hasRoom_least _ room_1 (by decide +kernel) (by decide +kernel) (by decide +kernel) (by decide +kernel) (by decide +kernel) (by decide +kernel)
theorem allAtoms_all (ts : List Jvm.Cond) (a : Array Jvm.Value) (st : Jvm.State) : (allAtoms ts).before a st = ts.all (fun c => c.before a st) := by
  induction ts with
  | nil => rfl
  | cons c t ih =>
    show (Jvm.Cond.and c (allAtoms t)).before a st = _
    rw [Jvm.Cond.before_and, ih, List.all_cons]
def words1 : List Jvm.Cond := Jvm.Cond.code x code maxLocals ret :: tables_1
/-- a 'code' word, met by the world's own term for the bytes: nothing is compared byte by byte -/
theorem code_word {y : MethodName} {bytes : ByteArray} {mx : Nat} {rt : Option FieldType} {a : Array Value} {s : State} {m : MethodId} {meth : Method} {c : Code} (h1 : s.methodNamed? y = some m) (h2 : s.vm.method? m = some meth) (h3 : meth.code = some c) (h4 : c.code = bytes)
    (h5 : (c.maxLocals == mx && c.exceptionTable.isEmpty && decide (c.maxStack ≤ mostOperands) && decide (meth.sig.returnType = rt) && !meth.locks && decide (parseMethodDescriptor y.desc = some meth.sig)) = true) : (Jvm.Cond.code y bytes mx rt).before a s = true := by
  simp only [Bool.and_eq_true, beq_iff_eq, Bool.not_eq_true', decide_eq_true_eq] at h5
  obtain ⟨⟨⟨⟨⟨g1, g2⟩, g3⟩, g4⟩, g5⟩, g6⟩ := h5
  simp [Cond.before, Cond.holds, Cond.value, h1, h2, h3, h4, g1, g2, g3, g4, g5, g6]
def isCode : Jvm.Cond → Bool
  | .code _ _ _ _ => true
  | _ => false
theorem all_split {L : List Jvm.Cond} {P : Jvm.Cond → Bool} (h1 : L.all (fun c => isCode c || P c) = true) (h2 : ∀ c ∈ L.filter isCode, P c = true) : L.all P = true := by
  refine List.all_eq_true.mpr fun c hc => ?_
  have h := List.all_eq_true.mp h1 c hc
  rcases Bool.eq_false_or_eq_true (isCode c) with hi | hi
  · exact h2 c (List.mem_filter.mpr ⟨hc, hi⟩)
  · simpa [hi] using h
set_option maxRecDepth 65536 in
theorem w_c0 : (Jvm.Cond.code x code maxLocals ret).before args0 about1 = true := code_word (m := ⟨1, 1⟩) (meth := k1m1) (c := k1c1) (by decide +kernel) rfl rfl rfl (by decide +kernel)
set_option maxRecDepth 65536 in
theorem w_c1 : (Jvm.Cond.code ({ cls := "com/example/essence/essence/core/Utf8Sequence", name := "<init>", desc := "(IIIII)V" } : Jvm.MethodName) prog_63_method_1_code (6 : Nat) (Option.none : Option Jvm.ClassFile.FieldType)).before args0 about1 = true := code_word (m := ⟨3, 0⟩) (meth := k3m0) (c := k3c0) (by decide +kernel) rfl rfl rfl (by decide +kernel)
set_option maxRecDepth 65536 in
theorem w_c2 : (Jvm.Cond.code ({ cls := "java/lang/Record", name := "<init>", desc := "()V" } : Jvm.MethodName) jdk_30_method_1_code (1 : Nat) (Option.none : Option Jvm.ClassFile.FieldType)).before args0 about1 = true := code_word (m := ⟨2, 0⟩) (meth := k2m0) (c := k2c0) (by decide +kernel) rfl rfl rfl (by decide +kernel)
set_option maxRecDepth 65536 in
theorem w_c3 : (Jvm.Cond.code ({ cls := "java/lang/Object", name := "<init>", desc := "()V" } : Jvm.MethodName) object_method_1_code (1 : Nat) (Option.none : Option Jvm.ClassFile.FieldType)).before args0 about1 = true := code_word (m := ⟨0, 0⟩) (meth := k0m0) (c := k0c0) (by decide +kernel) rfl rfl rfl (by decide +kernel)
set_option maxRecDepth 65536 in
theorem w_c4 : (Jvm.Cond.code ({ cls := "com/example/essence/essence/core/Utf8Sequence", name := "continues", desc := "(II)Z" } : Jvm.MethodName) prog_63_method_3_code (3 : Nat) (Option.some Jvm.ClassFile.FieldType.boolean)).before args0 about1 = true := code_word (m := ⟨3, 1⟩) (meth := k3m1) (c := k3c1) (by decide +kernel) rfl rfl rfl (by decide +kernel)
set_option maxRecDepth 65536 in
theorem w_c5 : (Jvm.Cond.code ({ cls := "com/example/essence/essence/core/Utf8SequenceContinuesPinLaw", name := "expected", desc := "(IIII)Z" } : Jvm.MethodName) method_3_code (6 : Nat) (Option.some Jvm.ClassFile.FieldType.boolean)).before args0 about1 = true := code_word (m := ⟨1, 2⟩) (meth := k1m2) (c := k1c2) (by decide +kernel) rfl rfl rfl (by decide +kernel)
def codes1 : List Jvm.Cond := [Jvm.Cond.code x code maxLocals ret, Jvm.Cond.code ({ cls := "com/example/essence/essence/core/Utf8Sequence", name := "<init>", desc := "(IIIII)V" } : Jvm.MethodName) prog_63_method_1_code (6 : Nat) (Option.none : Option Jvm.ClassFile.FieldType), Jvm.Cond.code ({ cls := "java/lang/Record", name := "<init>", desc := "()V" } : Jvm.MethodName) jdk_30_method_1_code (1 : Nat) (Option.none : Option Jvm.ClassFile.FieldType), Jvm.Cond.code ({ cls := "java/lang/Object", name := "<init>", desc := "()V" } : Jvm.MethodName) object_method_1_code (1 : Nat) (Option.none : Option Jvm.ClassFile.FieldType), Jvm.Cond.code ({ cls := "com/example/essence/essence/core/Utf8Sequence", name := "continues", desc := "(II)Z" } : Jvm.MethodName) prog_63_method_3_code (3 : Nat) (Option.some Jvm.ClassFile.FieldType.boolean), Jvm.Cond.code ({ cls := "com/example/essence/essence/core/Utf8SequenceContinuesPinLaw", name := "expected", desc := "(IIII)Z" } : Jvm.MethodName) method_3_code (6 : Nat) (Option.some Jvm.ClassFile.FieldType.boolean)]
set_option maxRecDepth 65536 in
theorem codes_eq : words1.filter isCode = codes1 := rfl
theorem w_codes : ∀ c ∈ words1.filter isCode, c.before args0 about1 = true := by
  rw [codes_eq]
  intro c hc
  simp only [codes1, List.mem_cons, List.not_mem_nil, or_false] at hc
  rcases hc with rfl | rfl | rfl | rfl | rfl | rfl
  · exact w_c0
  · exact w_c1
  · exact w_c2
  · exact w_c3
  · exact w_c4
  · exact w_c5
set_option maxRecDepth 65536 in
theorem w_t1 : (words1.take 24).all (fun c => isCode c || c.before args0 about1) = true := by decide +kernel
set_option maxRecDepth 65536 in
theorem w_t2 : (words1.drop 24).all (fun c => isCode c || c.before args0 about1) = true := by decide +kernel
theorem w_tables : (allAtoms (Jvm.Cond.code x code maxLocals ret :: tables_1)).before args0 about1 = true := by
  rw [allAtoms_all]
  show words1.all (fun c => c.before args0 about1) = true
  refine all_split ?_ w_codes
  rw [← List.take_append_drop 24 words1, List.all_append, w_t1, w_t2]
  rfl
set_option maxRecDepth 65536 in
theorem w_case : (Jvm.Cond.and given_1 narrow_1).before args0 about1 = true := by decide +kernel
theorem w_applies : (headSpec (Jvm.Cond.code x code maxLocals ret :: tables_1) room_1).applies x e0.platform about1 = true :=
  (Spec.applies_iff w_frames).mpr ⟨w_running, w_runnable, w_alone, w_named, w_hears, w_ripe, w_room, w_tables⟩
theorem atStart : AtStart classFile x code maxLocals ret World_1 tables_1 room_1 Calls_1 rest_1 Pre_1 launch0 p0 e0 about1 theMethod args0 below0 :=
  ⟨lists_1, trivial, launch0.admits_env _ _ _, launch0.least_env, fairChoices_fair.cas, fairChoices_fair.clock, w_frames, w_args, w_heap, w_applies, trivial, trivial, w_case⟩
end start1
theorem witness_1 : WitnessClaimed_1 := ⟨start1.p0, start1.e0, start1.about1, start1.theMethod, start1.args0, start1.below0, start1.atStart⟩
end Jvm.Pilot.@@N@@
