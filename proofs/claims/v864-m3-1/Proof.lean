import JvmDerived
import JvmDerived.Pilot.@@N@@Statement
import JvmDerived.Pilot.@@N@@Code
set_option linter.unusedVariables false
set_option linter.unusedSimpArgs false

namespace Jvm.Pilot.@@N@@
open Jvm Jvm.ClassFile Sem Op Lib Jvm.Free Jvm.Stand Jvm.LawKit Jvm.RoadKit Bundle Jvm.Pilot.@@N@@.Jvm.D
/-- from the state S the invocation runs to its end and Q holds there -/
def Ends (p : Program) (e : Env) (below : List Frame) (s : State) (Q : Option Value → Heap → List Loc → Prop) (K N : Nat) (S : State) : Prop :=
  ∃ s₂ o, Steps p.tables e below S s₂ ∧ s₂.status = .running ∧ Ended s₂ below o ∧ ∃ v L, o = .returned v ∧ Q v s₂.heap L ∧ FrameEnd s o s₂ L K N
/-- a method's contract at given arguments and heap -/
def Con (l : Launch) (Z : State) (y : MethodName) (bytes : ByteArray) (maxL : Nat) (rt : Option FieldType) (rm : Room) (as' : Array Value) (h0 : Heap) (Q : Option Value → Heap → List Loc → Prop) : Prop :=
  ∀ ws, MetFree l y (head1 (Jvm.Cond.code y bytes maxL rt :: ws) rm) (fun a U => a = as' ∧ Z.Warmed39 U.vm ∧ U.heap = h0) (fun _ _ _ _ _ => True) (fun _ U o U' => ∃ v L, o = .returned v ∧ Q v U'.heap L ∧ FrameEnd U o U' L rm.cells rm.slots)
section Own
variable {p : Program} {l : Launch} {e : Env} {R : Room} {s : State} {m : MethodId} {args : Array Value} {below : List Frame} {meth : Method} {c : Code} {T : State} {locs : List Loc} {cells slots : Nat} {Q : Option Value → Heap → List Loc → Prop} {K N : Nat} {pc pc' : Nat} {Ls Ls' : Array Slot} {st : List Value} {Z : State} {a0 : Array Value} {h : Heap}
theorem Ends.go {S S' : State} (g : ∀ t, Steps p.tables e below S' t → Steps p.tables e below S t) (E : Ends p e below s Q K N S') : Ends p e below s Q K N S := by
  obtain ⟨s2, o, h1, r⟩ := E; exact ⟨s2, o, g _ h1, r⟩
theorem Con.ofP {y : MethodName} {bytes : ByteArray} {maxL : Nat} {rt : Option FieldType} {rm : Room} {as' : Array Value} {h0 : Heap} (hn : plainFor y = true)
    (body : ∀ (p : Program) (e : Env) (s : State) (m : MethodId) (below : List Frame) (meth : Method) (c : Code) (T : State), Stand p l e rm s m as' below meth c T [] 0 0 → p.tables.exec = Jvm.exec → c.code = bytes → c.maxLocals = maxL → meth.sig.returnType = rt → meth.locks = false → s.vm.findClass y.cls = some m.cls → meth.name = y.name → Z.Warmed39 s.vm → T.heap = h0 →
      Ends p e below s Q rm.cells rm.slots (T.setTop (entryFrame m as' maxL))) : Con l Z y bytes maxL rt rm as' h0 Q := by
  intro ws
  refine MetFree.of_bodySF hn hisR ?_
  intro p e s m args below meth c s₁ Bd hml0 hP hK
  obtain ⟨ha, hZ, hh⟩ := hP
  subst ha
  have X0 : Stand p l e rm s m _ below meth c s₁ [] 0 0 := Stand.of_body Bd
  have e0 : s₁.heap = h0 := by rw [← hh, Bd.state]; rfl
  exact body p e s m below meth c s₁ X0 Bd.exec Bd.bytes hml0 Bd.returns (BodyLoose.notSynchronized Bd) (findClass_of_methodNamed Bd.named) (name_of_methodNamed Bd.named Bd.method).1 hZ e0
theorem Con.of {y : MethodName} {bytes : ByteArray} {maxL : Nat} {rt : Option FieldType} {rm : Room} {as' : Array Value} {h0 : Heap} (hn : plainName y.cls = true)
    (body : ∀ (p : Program) (e : Env) (s : State) (m : MethodId) (below : List Frame) (meth : Method) (c : Code) (T : State), Stand p l e rm s m as' below meth c T [] 0 0 → p.tables.exec = Jvm.exec → c.code = bytes → c.maxLocals = maxL → meth.sig.returnType = rt → meth.locks = false → s.vm.findClass y.cls = some m.cls → meth.name = y.name → Z.Warmed39 s.vm → T.heap = h0 →
      Ends p e below s Q rm.cells rm.slots (T.setTop (entryFrame m as' maxL))) : Con l Z y bytes maxL rt rm as' h0 Q := Con.ofP (plainFor_of_name hn) body
theorem o_aloadN (X : Stand p l e R s m args below meth c T locs cells slots) (hx : p.tables.exec = Jvm.exec) {k : Fin 4} {v : Value} (hd : decode c.code pc = .ok (.aload_n k, 1)) (hl : Ls[k.val]? = some (.val v)) (hv : v.isRef = true) (hp : pc + 1 = pc') (E : Ends p e below s Q K N (T.setTop (mkF m pc' Ls (v :: st)))) : Ends p e below s Q K N (T.setTop (mkF m pc Ls st)) := by
  subst hp; exact Ends.go (fun t q => XS.aloadN X.here hx rfl hd hl hv q) E
theorem o_aload (X : Stand p l e R s m args below meth c T locs cells slots) (hx : p.tables.exec = Jvm.exec) {k : Nat} {v : Value} (hd : decode c.code pc = .ok (.aload k, 2)) (hl : Ls[k]? = some (.val v)) (hv : v.isRef = true) (hp : pc + 2 = pc') (E : Ends p e below s Q K N (T.setTop (mkF m pc' Ls (v :: st)))) : Ends p e below s Q K N (T.setTop (mkF m pc Ls st)) := by
  subst hp; exact Ends.go (fun t q => XS.aload X.here hx rfl hd hl hv q) E
theorem o_iloadN (X : Stand p l e R s m args below meth c T locs cells slots) (hx : p.tables.exec = Jvm.exec) {k : Fin 4} {v : Int32} (hd : decode c.code pc = .ok (.iload_n k, 1)) (hl : Ls[k.val]? = some (.val (.int v))) (hp : pc + 1 = pc') (E : Ends p e below s Q K N (T.setTop (mkF m pc' Ls (.int v :: st)))) : Ends p e below s Q K N (T.setTop (mkF m pc Ls st)) := by
  subst hp; exact Ends.go (fun t q => XS.iloadN X.here hx rfl hd hl q) E
theorem o_iload (X : Stand p l e R s m args below meth c T locs cells slots) (hx : p.tables.exec = Jvm.exec) {k : Nat} {v : Int32} (hd : decode c.code pc = .ok (.iload k, 2)) (hl : Ls[k]? = some (.val (.int v))) (hp : pc + 2 = pc') (E : Ends p e below s Q K N (T.setTop (mkF m pc' Ls (.int v :: st)))) : Ends p e below s Q K N (T.setTop (mkF m pc Ls st)) := by
  subst hp; exact Ends.go (fun t q => XS.iload X.here hx rfl hd hl q) E
theorem o_istoreN (X : Stand p l e R s m args below meth c T locs cells slots) (hx : p.tables.exec = Jvm.exec) {k : Fin 4} {v : Int32} (hd : decode c.code pc = .ok (.istore_n k, 1)) (hl : storeLocals Ls k.val (.int v) = some Ls') (hp : pc + 1 = pc') (E : Ends p e below s Q K N (T.setTop (mkF m pc' Ls' st))) : Ends p e below s Q K N (T.setTop (mkF m pc Ls (.int v :: st))) := by
  subst hp; exact Ends.go (fun t q => XS.istoreN X.here hx rfl hd rfl hl q) E
theorem o_istore (X : Stand p l e R s m args below meth c T locs cells slots) (hx : p.tables.exec = Jvm.exec) {k : Nat} {v : Int32} (hd : decode c.code pc = .ok (.istore k, 2)) (hl : storeLocals Ls k (.int v) = some Ls') (hp : pc + 2 = pc') (E : Ends p e below s Q K N (T.setTop (mkF m pc' Ls' st))) : Ends p e below s Q K N (T.setTop (mkF m pc Ls (.int v :: st))) := by
  subst hp; exact Ends.go (fun t q => XS.istore X.here hx rfl hd rfl hl q) E
theorem o_astoreN (X : Stand p l e R s m args below meth c T locs cells slots) (hx : p.tables.exec = Jvm.exec) {k : Fin 4} {v : Value} (hd : decode c.code pc = .ok (.astore_n k, 1)) (hv : v.isRef = true) (hl : storeLocals Ls k.val v = some Ls') (hp : pc + 1 = pc') (E : Ends p e below s Q K N (T.setTop (mkF m pc' Ls' st))) : Ends p e below s Q K N (T.setTop (mkF m pc Ls (v :: st))) := by
  subst hp; exact Ends.go (fun t q => XS.astoreN X.here hx rfl hd rfl hv hl q) E
theorem o_astore (X : Stand p l e R s m args below meth c T locs cells slots) (hx : p.tables.exec = Jvm.exec) {k : Nat} {v : Value} (hd : decode c.code pc = .ok (.astore k, 2)) (hv : v.isRef = true) (hl : storeLocals Ls k v = some Ls') (hp : pc + 2 = pc') (E : Ends p e below s Q K N (T.setTop (mkF m pc' Ls' st))) : Ends p e below s Q K N (T.setTop (mkF m pc Ls (v :: st))) := by
  subst hp; exact Ends.go (fun t q => XS.astore X.here hx rfl hd rfl hv hl q) E
theorem o_iconst (X : Stand p l e R s m args below meth c T locs cells slots) (hx : p.tables.exec = Jvm.exec) {i : Int} {v : Int32} (hd : decode c.code pc = .ok (.iconst i, 1)) (hv : Int32.ofInt i = v) (hp : pc + 1 = pc') (E : Ends p e below s Q K N (T.setTop (mkF m pc' Ls (.int v :: st)))) : Ends p e below s Q K N (T.setTop (mkF m pc Ls st)) := by
  subst hp; exact Ends.go (fun t q => XS.iconst X.here hx rfl hd  (by rw [hv]; exact q)) E
theorem o_bipush (X : Stand p l e R s m args below meth c T locs cells slots) (hx : p.tables.exec = Jvm.exec) {i : Int} {v : Int32} (hd : decode c.code pc = .ok (.bipush i, 2)) (hv : (Int8.ofInt i).toInt32 = v) (hp : pc + 2 = pc') (E : Ends p e below s Q K N (T.setTop (mkF m pc' Ls (.int v :: st)))) : Ends p e below s Q K N (T.setTop (mkF m pc Ls st)) := by
  subst hp; exact Ends.go (fun t q => XS.bipush X.here hx rfl hd  (by rw [hv]; exact q)) E
theorem o_sipush (X : Stand p l e R s m args below meth c T locs cells slots) (hx : p.tables.exec = Jvm.exec) {i : Int} {v : Int32} (hd : decode c.code pc = .ok (.sipush i, 3)) (hv : (Int16.ofInt i).toInt32 = v) (hp : pc + 3 = pc') (E : Ends p e below s Q K N (T.setTop (mkF m pc' Ls (.int v :: st)))) : Ends p e below s Q K N (T.setTop (mkF m pc Ls st)) := by
  subst hp; exact Ends.go (fun t q => XS.sipush X.here hx rfl hd  (by rw [hv]; exact q)) E
theorem o_iand (X : Stand p l e R s m args below meth c T locs cells slots) (hx : p.tables.exec = Jvm.exec) {x y : Int32} (hd : decode c.code pc = .ok (.iand, 1))  (hp : pc + 1 = pc') (E : Ends p e below s Q K N (T.setTop (mkF m pc' Ls (.int (x &&& y) :: st)))) : Ends p e below s Q K N (T.setTop (mkF m pc Ls (.int y :: .int x :: st))) := by
  subst hp; exact Ends.go (fun t q => XS.iand X.here hx rfl hd rfl q) E
theorem o_ishr (X : Stand p l e R s m args below meth c T locs cells slots) (hx : p.tables.exec = Jvm.exec) {x y : Int32} (hd : decode c.code pc = .ok (.ishr, 1))  (hp : pc + 1 = pc') (E : Ends p e below s Q K N (T.setTop (mkF m pc' Ls (.int (x >>> (y &&& 31)) :: st)))) : Ends p e below s Q K N (T.setTop (mkF m pc Ls (.int y :: .int x :: st))) := by
  subst hp; exact Ends.go (fun t q => XS.ishr X.here hx rfl hd rfl q) E
theorem o_irem (X : Stand p l e R s m args below meth c T locs cells slots) (hx : p.tables.exec = Jvm.exec) {x y : Int32} (hd : decode c.code pc = .ok (.irem, 1)) (hy : y ≠ 0) (hp : pc + 1 = pc') (E : Ends p e below s Q K N (T.setTop (mkF m pc' Ls (.int (x % y) :: st)))) : Ends p e below s Q K N (T.setTop (mkF m pc Ls (.int y :: .int x :: st))) := by
  subst hp; exact Ends.go (fun t q => iremM (g := mkF m pc Ls (.int y :: .int x :: st)) X hx rfl hd rfl hy q) E
theorem o_i2c (X : Stand p l e R s m args below meth c T locs cells slots) (hx : p.tables.exec = Jvm.exec) {v : Int32} (hd : decode c.code pc = .ok (.i2c, 1))  (hp : pc + 1 = pc') (E : Ends p e below s Q K N (T.setTop (mkF m pc' Ls (.int (v.toUInt32.toUInt16.toUInt32.toInt32) :: st)))) : Ends p e below s Q K N (T.setTop (mkF m pc Ls (.int v :: st))) := by
  subst hp; exact Ends.go (fun t q => XS.i2c X.here hx rfl hd rfl q) E
theorem o_dup (X : Stand p l e R s m args below meth c T locs cells slots) (hx : p.tables.exec = Jvm.exec) {v : Value} (hd : decode c.code pc = .ok (.dup, 1)) (hc : v.category = 1) (hp : pc + 1 = pc') (E : Ends p e below s Q K N (T.setTop (mkF m pc' Ls (v :: v :: st)))) : Ends p e below s Q K N (T.setTop (mkF m pc Ls (v :: st))) := by
  subst hp; exact Ends.go (fun t q => XS.dup X.here hx rfl hd rfl hc q) E
theorem o_pop (X : Stand p l e R s m args below meth c T locs cells slots) (hx : p.tables.exec = Jvm.exec) {v : Value} (hd : decode c.code pc = .ok (.pop, 1)) (hc : v.category = 1) (hp : pc + 1 = pc') (E : Ends p e below s Q K N (T.setTop (mkF m pc' Ls st))) : Ends p e below s Q K N (T.setTop (mkF m pc Ls (v :: st))) := by
  subst hp; exact Ends.go (fun t q => XS.pop X.here hx rfl hd rfl hc q) E
theorem o_ldc (X : Stand p l e R s m args below meth c T locs cells slots) (hx : p.tables.exec = Jvm.exec) {own : String} {index : Nat} {v : Int32} (hd : decode c.code pc = .ok (.ldc index, 2)) (hZ : Z.Warmed39 s.vm) (hown : s.vm.findClass own = some m.cls) (w : (Jvm.Cond.constant own index v).before a0 Z = true) (hp : pc + 2 = pc') (E : Ends p e below s Q K N (T.setTop (mkF m pc' Ls (.int v :: st)))) : Ends p e below s Q K N (T.setTop (mkF m pc Ls st)) := by
  subst hp; exact Ends.go (fun t q => X.ldcInt hx hown (mvT hZ w) (g := mkF m pc Ls st) rfl hd t q) E
theorem o_goto (X : Stand p l e R s m args below meth c T locs cells slots) (hx : p.tables.exec = Jvm.exec) {o : Int} (hd : decode c.code pc = .ok (.goto o, 3)) (ho : 0 ≤ (pc : Int) + o) (hp : ((pc : Int) + o).toNat = pc') (E : Ends p e below s Q K N (T.setTop (mkF m pc' Ls st))) : Ends p e below s Q K N (T.setTop (mkF m pc Ls st)) :=
  Ends.go (fun t q => XS.goto X.here hx rfl (pc0 := pc) rfl hd ho hp q) E
theorem o_icmp_ne (X : Stand p l e R s m args below meth c T locs cells slots) (hx : p.tables.exec = Jvm.exec) {x y : Int32} {o : Int} {p1 p2 : Nat} (hd : decode c.code pc = .ok (.if_icmp .ne o, 3)) (hp : pc + 3 = p1) (ho : 0 ≤ (pc : Int) + o) (hp2 : ((pc : Int) + o).toNat = p2) (E1 : ¬ x = y → Ends p e below s Q K N (T.setTop (mkF m p2 Ls st))) (E2 : x = y → Ends p e below s Q K N (T.setTop (mkF m p1 Ls st))) : Ends p e below s Q K N (T.setTop (mkF m pc Ls (.int y :: .int x :: st))) := by
  subst hp
  by_cases hc : x = y
  · exact Ends.go (fun t q => XS.icmpNo X.here hx rfl hd rfl ((teq hc).2) q) (E2 hc)
  · exact Ends.go (fun t q => XS.icmpYes X.here hx rfl (pc0 := pc) rfl hd rfl ((feq hc).2) ho hp2 q) (E1 hc)
theorem o_icmp_lt (X : Stand p l e R s m args below meth c T locs cells slots) (hx : p.tables.exec = Jvm.exec) {x y : Int32} {o : Int} {p1 p2 : Nat} (hd : decode c.code pc = .ok (.if_icmp .lt o, 3)) (hp : pc + 3 = p1) (ho : 0 ≤ (pc : Int) + o) (hp2 : ((pc : Int) + o).toNat = p2) (E1 : x < y → Ends p e below s Q K N (T.setTop (mkF m p2 Ls st))) (E2 : ¬ x < y → Ends p e below s Q K N (T.setTop (mkF m p1 Ls st))) : Ends p e below s Q K N (T.setTop (mkF m pc Ls (.int y :: .int x :: st))) := by
  subst hp
  by_cases hc : x < y
  · exact Ends.go (fun t q => XS.icmpYes X.here hx rfl (pc0 := pc) rfl hd rfl ((tlt hc).1) ho hp2 q) (E1 hc)
  · exact Ends.go (fun t q => XS.icmpNo X.here hx rfl hd rfl ((flt hc).1) q) (E2 hc)
theorem o_icmp_le (X : Stand p l e R s m args below meth c T locs cells slots) (hx : p.tables.exec = Jvm.exec) {x y : Int32} {o : Int} {p1 p2 : Nat} (hd : decode c.code pc = .ok (.if_icmp .le o, 3)) (hp : pc + 3 = p1) (ho : 0 ≤ (pc : Int) + o) (hp2 : ((pc : Int) + o).toNat = p2) (E1 : ¬ y < x → Ends p e below s Q K N (T.setTop (mkF m p2 Ls st))) (E2 : y < x → Ends p e below s Q K N (T.setTop (mkF m p1 Ls st))) : Ends p e below s Q K N (T.setTop (mkF m pc Ls (.int y :: .int x :: st))) := by
  subst hp
  by_cases hc : y < x
  · exact Ends.go (fun t q => XS.icmpNo X.here hx rfl hd rfl ((tlt hc).2.2.2) q) (E2 hc)
  · exact Ends.go (fun t q => XS.icmpYes X.here hx rfl (pc0 := pc) rfl hd rfl ((flt hc).2.2.2) ho hp2 q) (E1 hc)
theorem o_if_eq (X : Stand p l e R s m args below meth c T locs cells slots) (hx : p.tables.exec = Jvm.exec) {x : Int32} {o : Int} {p1 p2 : Nat} (hd : decode c.code pc = .ok (.ifCond .eq o, 3)) (hp : pc + 3 = p1) (ho : 0 ≤ (pc : Int) + o) (hp2 : ((pc : Int) + o).toNat = p2) (E1 : x = 0 → Ends p e below s Q K N (T.setTop (mkF m p2 Ls st))) (E2 : ¬ x = 0 → Ends p e below s Q K N (T.setTop (mkF m p1 Ls st))) : Ends p e below s Q K N (T.setTop (mkF m pc Ls (.int x :: st))) := by
  subst hp
  by_cases hc : x = 0
  · exact Ends.go (fun t q => XS.ifYes X.here hx rfl (pc0 := pc) rfl hd rfl ((if0 _ _).trans ((teq hc).1)) ho hp2 q) (E1 hc)
  · exact Ends.go (fun t q => XS.ifNo X.here hx rfl hd rfl ((if0 _ _).trans ((feq hc).1)) q) (E2 hc)
theorem o_if_ne (X : Stand p l e R s m args below meth c T locs cells slots) (hx : p.tables.exec = Jvm.exec) {x : Int32} {o : Int} {p1 p2 : Nat} (hd : decode c.code pc = .ok (.ifCond .ne o, 3)) (hp : pc + 3 = p1) (ho : 0 ≤ (pc : Int) + o) (hp2 : ((pc : Int) + o).toNat = p2) (E1 : ¬ x = 0 → Ends p e below s Q K N (T.setTop (mkF m p2 Ls st))) (E2 : x = 0 → Ends p e below s Q K N (T.setTop (mkF m p1 Ls st))) : Ends p e below s Q K N (T.setTop (mkF m pc Ls (.int x :: st))) := by
  subst hp
  by_cases hc : x = 0
  · exact Ends.go (fun t q => XS.ifNo X.here hx rfl hd rfl ((if0 _ _).trans ((teq hc).2)) q) (E2 hc)
  · exact Ends.go (fun t q => XS.ifYes X.here hx rfl (pc0 := pc) rfl hd rfl ((if0 _ _).trans ((feq hc).2)) ho hp2 q) (E1 hc)
theorem o_if_lt (X : Stand p l e R s m args below meth c T locs cells slots) (hx : p.tables.exec = Jvm.exec) {x : Int32} {o : Int} {p1 p2 : Nat} (hd : decode c.code pc = .ok (.ifCond .lt o, 3)) (hp : pc + 3 = p1) (ho : 0 ≤ (pc : Int) + o) (hp2 : ((pc : Int) + o).toNat = p2) (E1 : x < 0 → Ends p e below s Q K N (T.setTop (mkF m p2 Ls st))) (E2 : ¬ x < 0 → Ends p e below s Q K N (T.setTop (mkF m p1 Ls st))) : Ends p e below s Q K N (T.setTop (mkF m pc Ls (.int x :: st))) := by
  subst hp
  by_cases hc : x < 0
  · exact Ends.go (fun t q => XS.ifYes X.here hx rfl (pc0 := pc) rfl hd rfl ((if0 _ _).trans ((tlt hc).1)) ho hp2 q) (E1 hc)
  · exact Ends.go (fun t q => XS.ifNo X.here hx rfl hd rfl ((if0 _ _).trans ((flt hc).1)) q) (E2 hc)
theorem o_if_ge (X : Stand p l e R s m args below meth c T locs cells slots) (hx : p.tables.exec = Jvm.exec) {x : Int32} {o : Int} {p1 p2 : Nat} (hd : decode c.code pc = .ok (.ifCond .ge o, 3)) (hp : pc + 3 = p1) (ho : 0 ≤ (pc : Int) + o) (hp2 : ((pc : Int) + o).toNat = p2) (E1 : ¬ x < 0 → Ends p e below s Q K N (T.setTop (mkF m p2 Ls st))) (E2 : x < 0 → Ends p e below s Q K N (T.setTop (mkF m p1 Ls st))) : Ends p e below s Q K N (T.setTop (mkF m pc Ls (.int x :: st))) := by
  subst hp
  by_cases hc : x < 0
  · exact Ends.go (fun t q => XS.ifNo X.here hx rfl hd rfl ((if0 _ _).trans ((tlt hc).2.1)) q) (E2 hc)
  · exact Ends.go (fun t q => XS.ifYes X.here hx rfl (pc0 := pc) rfl hd rfl ((if0 _ _).trans ((flt hc).2.1)) ho hp2 q) (E1 hc)
theorem o_if_gt (X : Stand p l e R s m args below meth c T locs cells slots) (hx : p.tables.exec = Jvm.exec) {x : Int32} {o : Int} {p1 p2 : Nat} (hd : decode c.code pc = .ok (.ifCond .gt o, 3)) (hp : pc + 3 = p1) (ho : 0 ≤ (pc : Int) + o) (hp2 : ((pc : Int) + o).toNat = p2) (E1 : 0 < x → Ends p e below s Q K N (T.setTop (mkF m p2 Ls st))) (E2 : ¬ 0 < x → Ends p e below s Q K N (T.setTop (mkF m p1 Ls st))) : Ends p e below s Q K N (T.setTop (mkF m pc Ls (.int x :: st))) := by
  subst hp
  by_cases hc : 0 < x
  · exact Ends.go (fun t q => XS.ifYes X.here hx rfl (pc0 := pc) rfl hd rfl ((if0 _ _).trans ((tlt hc).2.2.1)) ho hp2 q) (E1 hc)
  · exact Ends.go (fun t q => XS.ifNo X.here hx rfl hd rfl ((if0 _ _).trans ((flt hc).2.2.1)) q) (E2 hc)
theorem o_if_le (X : Stand p l e R s m args below meth c T locs cells slots) (hx : p.tables.exec = Jvm.exec) {x : Int32} {o : Int} {p1 p2 : Nat} (hd : decode c.code pc = .ok (.ifCond .le o, 3)) (hp : pc + 3 = p1) (ho : 0 ≤ (pc : Int) + o) (hp2 : ((pc : Int) + o).toNat = p2) (E1 : ¬ 0 < x → Ends p e below s Q K N (T.setTop (mkF m p2 Ls st))) (E2 : 0 < x → Ends p e below s Q K N (T.setTop (mkF m p1 Ls st))) : Ends p e below s Q K N (T.setTop (mkF m pc Ls (.int x :: st))) := by
  subst hp
  by_cases hc : 0 < x
  · exact Ends.go (fun t q => XS.ifNo X.here hx rfl hd rfl ((if0 _ _).trans ((tlt hc).2.2.2)) q) (E2 hc)
  · exact Ends.go (fun t q => XS.ifYes X.here hx rfl (pc0 := pc) rfl hd rfl ((if0 _ _).trans ((flt hc).2.2.2)) ho hp2 q) (E1 hc)
theorem o_ret (X : Stand p l e R s m args below meth c T locs cells slots) (hx : p.tables.exec = Jvm.exec) {w : Value} {t : FieldType} {i : Instr} (hlk : meth.locks = false) (hret : meth.sig.returnType = some t) (hd : decode c.code pc = .ok (i, 1)) (hn : narrow t w = w)
    (hi : (i = .ireturn ∧ (t = .int ∨ t = .boolean ∨ t = .byte ∨ t = .char ∨ t = .short) ∧ ∃ z, w = .int z) ∨ (i = .lreturn ∧ t = .long ∧ ∃ z, w = .long z) ∨ (i = .dreturn ∧ t = .double ∧ ∃ z, w = .double z) ∨ (i = .freturn ∧ t = .float ∧ ∃ z, w = .float z) ∨ (i = .areturn ∧ t.isReference = true ∧ w.isRef = true))
    (hq : Q (some w) T.heap locs) (hk : cells ≤ K) (hs : slots ≤ N) : Ends p e below s Q K N (T.setTop (mkF m pc Ls (w :: st))) := by
  obtain ⟨fs, hr, hrun, hended, hW, hsame⟩ := X.leave (v := some w) (fun h => by rw [hret] at h; cases h) hlk
  exact ⟨_, _, retOut X hx hret hn hi hd hr, hrun, hended, _, _, rfl, hq, ⟨_, rfl⟩, hW, hsame.mono hk hs⟩
theorem o_retI (X : Stand p l e R s m args below meth c T locs cells slots) (hx : p.tables.exec = Jvm.exec) {z : Int32} (hlk : meth.locks = false) (hret : meth.sig.returnType = some .int) (hd : decode c.code pc = .ok (.ireturn, 1)) (hq : Q (some (.int z)) T.heap locs) (hk : cells ≤ K) (hs : slots ≤ N) : Ends p e below s Q K N (T.setTop (mkF m pc Ls (.int z :: st))) :=
  o_ret X hx hlk hret hd rfl (Or.inl ⟨rfl, Or.inl rfl, _, rfl⟩) hq hk hs
theorem o_retZ (X : Stand p l e R s m args below meth c T locs cells slots) (hx : p.tables.exec = Jvm.exec) {z : Int32} (hlk : meth.locks = false) (hret : meth.sig.returnType = some .boolean) (hd : decode c.code pc = .ok (.ireturn, 1)) (hz : z &&& 1 = z) (hq : Q (some (.int z)) T.heap locs) (hk : cells ≤ K) (hs : slots ≤ N) : Ends p e below s Q K N (T.setTop (mkF m pc Ls (.int z :: st))) :=
  o_ret X hx hlk hret hd (by show Value.int (z &&& 1) = _; rw [hz]) (Or.inl ⟨rfl, Or.inr (Or.inl rfl), _, rfl⟩) hq hk hs
theorem o_retA (X : Stand p l e R s m args below meth c T locs cells slots) (hx : p.tables.exec = Jvm.exec) {w : Value} {t : FieldType} (ht : t.isReference = true) (hw : w.isRef = true) (hlk : meth.locks = false) (hret : meth.sig.returnType = some t) (hd : decode c.code pc = .ok (.areturn, 1)) (hq : Q (some w) T.heap locs) (hk : cells ≤ K) (hs : slots ≤ N) : Ends p e below s Q K N (T.setTop (mkF m pc Ls (w :: st))) :=
  o_ret X hx hlk hret hd (by cases t <;> first | rfl | (exact absurd ht (by decide))) (Or.inr (Or.inr (Or.inr (Or.inr ⟨rfl, ht, hw⟩)))) hq hk hs
theorem o_ret0 (X : Stand p l e R s m args below meth c T locs cells slots) (hx : p.tables.exec = Jvm.exec) (hlk : meth.locks = false) (hret : meth.sig.returnType = none) (hd : decode c.code pc = .ok (.return_, 1)) (hq : Q none T.heap locs) (hk : cells ≤ K) (hs : slots ≤ N) : Ends p e below s Q K N (T.setTop (mkF m pc Ls [])) := by
  obtain ⟨fs, hr, hrun, hended, hW, hsame⟩ := X.leave (v := none) (fun _ => rfl) hlk
  exact ⟨_, _, X.returnOut hx hret hd hr, hrun, hended, _, _, rfl, hq, ⟨_, rfl⟩, hW, hsame.mono hk hs⟩
theorem o_callS (X : Stand p l e R s m args below meth c T locs cells slots) (hx : p.tables.exec = Jvm.exec) (hZ : Z.Warmed39 s.vm) {own : String} {index : Nat} {y : MethodName} {bytes : ByteArray} {maxL : Nat} {rt : Option FieldType} {rm : Room} {argsL rest : List Value} {Q' : Option Value → Heap → List Loc → Prop} {ps : List FieldType} {pr : Option FieldType} (hown : s.vm.findClass own = some m.cls) (w1 : (Jvm.Cond.methodLink own index y).before a0 Z = true) (w2 : (Jvm.Cond.static y).before a0 Z = true) (w3 : (Jvm.Cond.initialized y.cls).before a0 Z = true) (w4 : (Jvm.Cond.code y bytes maxL rt).before a0 Z = true)
    (hy : y.cls ≠ "java/lang/invoke/MethodHandle" ∧ y.cls ≠ "java/lang/invoke/VarHandle") (eT : T.heap = h) (hM : Con l Z y bytes maxL rt rm argsL.toArray h Q') (hsz : Ls.size = c.maxLocals) (hpd : parseMethodDescriptor y.desc = some ⟨ps, pr⟩) (hlen : argsL.length = ps.length) (hst : st = argsL.reverse ++ rest) (hd : decode c.code pc = .ok (.invokestatic index, 3)) (hp : pc + 3 = pc')
    {W : Nat} (hf : rm.frames + 1 ≤ R.frames) (hW : (rest.map fun v => v.category).sum = W) (hl : W + (maxL + 11) + rm.locals ≤ R.locals) (hc : cells + rm.cells ≤ R.cells) (hs : slots + rm.slots ≤ R.slots)
    (E : ∀ (v : Option Value) (T' : State) (L : List Loc), Q' v T'.heap L → Stand p l e R s m args below meth c T' (locs ++ L) (cells + rm.cells) (slots + rm.slots) → Ends p e below s Q K N (T'.setTop (mkF m pc' Ls (v.toList ++ rest)))) : Ends p e below s Q K N (T.setTop (mkF m pc Ls st)) := by
  subst hp hst
  obtain ⟨v, _, ⟨T2, L2, k2, n2⟩, -, X2, ⟨Lc2, hQ2, l2, y2, z2⟩, st2⟩ := Jvm.LawKit.callS X hx (y := y) hown (mvT hZ w1) (mvT hZ w2) (mvT hZ w3) (mvT hZ w4) hy (backOf (W := W) (hM []) hZ w4 w3 hf hl) (g := mkF m pc Ls (argsL.reverse ++ rest)) rfl hsz (argsL := argsL) (rest := rest) (lenOf hpd hlen) rfl (by show 2 * 0 + _ ≤ _; omega) hd (fun _ _ => ⟨rfl, eT, hc, hs⟩)
  dsimp only [Pt.U, Pt.locs, Pt.cells, Pt.slots] at X2 l2 y2 z2 st2 hQ2
  subst l2 y2 z2
  exact Ends.go st2 (E v T2 Lc2 hQ2 X2)
theorem o_callV (X : Stand p l e R s m args below meth c T locs cells slots) (hx : p.tables.exec = Jvm.exec) (hZ : Z.Warmed39 s.vm) {own C : String} {index : Nat} {y : MethodName} {bytes : ByteArray} {maxL : Nat} {rt : Option FieldType} {rm : Room} {b : Addr} {argsL rest : List Value} {Q' : Option Value → Heap → List Loc → Prop} {ps : List FieldType} {pr : Option FieldType} (hown : s.vm.findClass own = some m.cls) (w1 : (Jvm.Cond.methodLink own index y).before a0 Z = true) (w2 : (Jvm.Cond.declares y).before a0 Z = true) (w5 : (Jvm.Cond.selects C y y).before a0 Z = true) (w6 : (Jvm.Cond.instanceMethod y).before a0 Z = true) (w3 : (Jvm.Cond.initialized y.cls).before a0 Z = true) (w4 : (Jvm.Cond.code y bytes maxL rt).before a0 Z = true)
    (hy : y.cls ≠ "java/lang/invoke/MethodHandle" ∧ y.cls ≠ "java/lang/invoke/VarHandle") (eT : T.heap = h) (X1 : Exa Z h b C) (hM : Con l Z y bytes maxL rt rm (.ref b :: argsL).toArray h Q') (hsz : Ls.size = c.maxLocals) (hpd : parseMethodDescriptor y.desc = some ⟨ps, pr⟩) (hlen : argsL.length = ps.length) (hst : st = argsL.reverse ++ .ref b :: rest) (hd : decode c.code pc = .ok (.invokevirtual index, 3)) (hp : pc + 3 = pc')
    {W : Nat} (hf : rm.frames + 1 ≤ R.frames) (hW : (rest.map fun v => v.category).sum = W) (hl : W + (maxL + 11) + rm.locals ≤ R.locals) (hc : cells + rm.cells ≤ R.cells) (hs : slots + rm.slots ≤ R.slots)
    (E : ∀ (v : Option Value) (T' : State) (L : List Loc), Q' v T'.heap L → Stand p l e R s m args below meth c T' (locs ++ L) (cells + rm.cells) (slots + rm.slots) → Ends p e below s Q K N (T'.setTop (mkF m pc' Ls (v.toList ++ rest)))) : Ends p e below s Q K N (T.setTop (mkF m pc Ls st)) := by
  subst hp hst
  obtain ⟨cq, kq, qa, qb, qc⟩ := isOf (T := T) hZ eT X1
  obtain ⟨v, _, ⟨T2, L2, k2, n2⟩, -, X2, ⟨Lc2, hQ2, l2, y2, z2⟩, st2⟩ := X.virtualBack hx (y := y) (z := y) hown (mvT hZ w1) (mvT hZ w2) (notFace_of_selects (args := #[]) (mvT hZ w5)) (mvT hZ w5) (mvT hZ w6) hy (backOf (W := W) (hM []) hZ w4 w3 hf hl) qa qc (g := mkF m pc Ls (argsL.reverse ++ .ref b :: rest)) rfl hsz (Steps.refl _) (argsL := argsL) (rest := rest) (lenOf hpd hlen) rfl (by show 2 * 0 + _ ≤ _; omega) hd (fun _ _ => ⟨rfl, eT, hc, hs⟩)
  dsimp only [Pt.U, Pt.locs, Pt.cells, Pt.slots] at X2 l2 y2 z2 st2 hQ2
  subst l2 y2 z2
  exact Ends.go (fun t q => st2.trans q) (E v T2 Lc2 hQ2 X2)
theorem o_getF (X : Stand p l e R s m args below meth c T locs cells slots) (hx : p.tables.exec = Jvm.exec) (hZ : Z.Warmed39 s.vm) {own R0 O n d : String} {index : Nat} {a : Addr} {v : Value} (hown : s.vm.findClass own = some m.cls) (w : (Jvm.Cond.fieldLink own index R0 n d).before a0 Z = true) (via : Via Z R0 O n d) (eT : T.heap = h) (F : Fld Z h a O n d v) (hd : decode c.code pc = .ok (.getfield index, 3)) (hp : pc + 3 = pc')
    (E : ∀ T', T'.heap = h → Stand p l e R s m args below meth c T' locs cells slots → Ends p e below s Q K N (T'.setTop (mkF m pc' Ls (v :: st)))) : Ends p e below s Q K N (T.setTop (mkF m pc Ls (.ref a :: st))) := by
  subst hp
  obtain ⟨T1, X1, e1, s1⟩ := getF X hx hZ hown (host := "") (Or.inl w) via eT F (g := mkF m pc Ls (.ref a :: st)) rfl rfl hd
  exact Ends.go s1 (E T1 e1 X1)
theorem o_getS (X : Stand p l e R s m args below meth c T locs cells slots) (hx : p.tables.exec = Jvm.exec) (hZ : Z.Warmed39 s.vm) {own R0 O n d : String} {index : Nat} {v : Value} (hown : s.vm.findClass own = some m.cls) (w : (Jvm.Cond.fieldLink own index R0 n d).before a0 Z = true) (via : Via Z R0 O n d) (eT : T.heap = h) (F : Sta Z h O n d v) (hd : decode c.code pc = .ok (.getstatic index, 3)) (hp : pc + 3 = pc')
    (E : ∀ T', T'.heap = h → Stand p l e R s m args below meth c T' locs cells slots → Ends p e below s Q K N (T'.setTop (mkF m pc' Ls (v :: st)))) : Ends p e below s Q K N (T.setTop (mkF m pc Ls st)) := by
  subst hp
  obtain ⟨T1, X1, e1, s1⟩ := getS X hx hZ hown (host := "") w via eT F (g := mkF m pc Ls st) rfl hd
  exact Ends.go s1 (E T1 e1 X1)
theorem o_len (X : Stand p l e R s m args below meth c T locs cells slots) (hx : p.tables.exec = Jvm.exec) (hZ : Z.Warmed39 s.vm) {a : Addr} {cl : Cell} {ty : FieldType} {n : Int32} (eT : T.heap = h) (A : Arr Z h a cl ty) (hn : cl.slots.size.toInt32 = n) (hd : decode c.code pc = .ok (.arraylength, 1)) (hp : pc + 1 = pc') (E : Ends p e below s Q K N (T.setTop (mkF m pc' Ls (.int n :: st)))) : Ends p e below s Q K N (T.setTop (mkF m pc Ls (.ref a :: st))) := by
  subst hp hn
  exact Ends.go (fun t q => X.arraylength hx (by rw [eT]; exact A.1) (State.isArrayOf_alike hZ.alike A.2.1) (g := mkF m pc Ls (.ref a :: st)) rfl rfl hd _ q) E
theorem o_baloadB (X : Stand p l e R s m args below meth c T locs cells slots) (hx : p.tables.exec = Jvm.exec) (hZ : Z.Warmed39 s.vm) {a : Addr} {cl : Cell} {j : Int32} {v : Value} (eT : T.heap = h) (A : Arr Z h a cl .byte) (hj : ¬ (j < 0 ∨ cl.slots.size ≤ j.toNatClampNeg)) (hv : cl.slots[j.toNatClampNeg]? = some v) (hd : decode c.code pc = .ok (.baload, 1)) (hp : pc + 1 = pc') (E : Ends p e below s Q K N (T.setTop (mkF m pc' Ls (v :: st)))) : Ends p e below s Q K N (T.setTop (mkF m pc Ls (.int j :: .ref a :: st))) := by
  subst hp
  exact Ends.go (fun t q => X.baloadBytes hx (by rw [eT]; exact A.1) (State.isArrayOf_alike hZ.alike A.2.1) A.2.2 hj hv (g := mkF m pc Ls (.int j :: .ref a :: st)) rfl rfl hd _ q) E
theorem o_aaload (X : Stand p l e R s m args below meth c T locs cells slots) (hx : p.tables.exec = Jvm.exec) (hZ : Z.Warmed39 s.vm) {a : Addr} {cl : Cell} {j : Int32} {v : Value} {ty : FieldType} (eT : T.heap = h) (A : Arr Z h a cl ty) (hty : ty.isReference = true) (hj : ¬ (j < 0 ∨ cl.slots.size ≤ j.toNatClampNeg)) (hv : cl.slots[j.toNatClampNeg]? = some v) (hd : decode c.code pc = .ok (.aaload, 1)) (hp : pc + 1 = pc') (E : Ends p e below s Q K N (T.setTop (mkF m pc' Ls (v :: st)))) : Ends p e below s Q K N (T.setTop (mkF m pc Ls (.int j :: .ref a :: st))) := by
  subst hp
  exact Ends.go (fun t q => X.aaload hx (by rw [eT]; exact A.1) (State.isArrayOf_alike hZ.alike A.2.1) hty A.2.2 hj hv (g := mkF m pc Ls (.int j :: .ref a :: st)) rfl rfl hd _ q) E
theorem own_eqI {idx : List Nat} {t : Term} {k : Int32} (h : (Jvm.Cond.eq t (.int k)).value args s none s idx = some true) : t.eval args s none idx s = some (.int k) := by
  obtain ⟨x, y, e1, e2, -, k2⟩ := cmp_v (Or.inl h)
  have hy : y = .int k := (Option.some.inj ((Term.int_eval k).symm.trans e2)).symm
  subst hy
  obtain ⟨z, rfl⟩ := k2
  have hz : z = k := gotT (Cond.eq_ints e1 e2) h
  rw [e1, hz]
theorem own_fldI {t : Term} {C n d : String} {a : Addr} {k : Int32} (ht : t.eval args s none [] s = some (.ref a)) (h : (Jvm.Cond.eq (.field t C n d) (.int k)).value args s none s [] = some true) : Fld s s.heap a C n d (.int k) :=
  Fld.start ((fld_at ht).symm.trans (own_eqI h))
def Cont (cl : Cell) (n : Nat) (g : Nat → Value) : Prop := cl.slots.size = n ∧ ∀ k, k < n → cl.slots[k]? = some (g k)
theorem Cont.new (cA : ClassId) (ty : FieldType) (z : Int32) (n : Nat) (hn : z.toNatClampNeg = n) : Cont (newA cA ty z) n (fun _ => defaultValue ty) := by
  subst hn; exact ⟨sz_new _ _ _, fun k hk => by simp [newA, hk]⟩
theorem Cont.put {cl : Cell} {n : Nat} {g : Nat → Value} (C : Cont cl n g) (j : Nat) (v : Value) : Cont (cl.setSlot j v) n (fun k => if k = j then v else g k) := by
  refine ⟨(sz_set _ _ _).trans C.1, fun k hk => ?_⟩
  by_cases q : k = j
  · subst q; simp [Cell.setSlot, C.1, hk]
  · show (cl.slots.setIfInBounds j v)[k]? = _
    rw [Array.getElem?_setIfInBounds_ne (fun r => q r.symm)]
    simp only [if_neg q]; exact C.2 k hk
theorem Cont.inb {cl : Cell} {n : Nat} {g : Nat → Value} (C : Cont cl n g) {j : Int32} (h0 : 0 ≤ j.toInt) (h1 : j.toInt < n) : ¬ (j < 0 ∨ cl.slots.size ≤ j.toNatClampNeg) := by
  rw [C.1]; simp only [Int32.lt_iff_toInt_lt, Int32.toNatClampNeg, Int32.reduceToInt]; omega
theorem Cont.at {cl : Cell} {n : Nat} {g : Nat → Value} (C : Cont cl n g) {j : Int32} (h0 : 0 ≤ j.toInt) (h1 : j.toInt < n) : cl.slots[j.toNatClampNeg]? = some (g j.toNatClampNeg) := C.2 _ (by simp only [Int32.toNatClampNeg]; omega)
theorem o_anewarr (X : Stand p l e R s m args below meth c T locs cells slots) (hx : p.tables.exec = Jvm.exec) (hZ : Z.Warmed39 s.vm) {own C : String} {index : Nat} {n : Int32} {cap : Nat} (hown : s.vm.findClass own = some m.cls) (w1 : (Jvm.Cond.classLink own index C).before a0 Z = true) (w2 : (Jvm.Cond.arrayOver (.object C)).before a0 Z = true) (eT : T.heap = h) (hd : decode c.code pc = .ok (.anewarray index, 3)) (hp : pc + 3 = pc') (hn : ¬ n < 0) (hcap : n.toNatClampNeg ≤ cap) (hb : cap * 8 ≤ 536870912) (hc : cells + 1 ≤ R.cells) (hl : slots + cap ≤ R.slots)
    (E : ∀ T' h' cA a, a = h.size → T'.heap = h' → Ext h h' → Arr Z h' a (newA cA (.object C) n) (.object C) → Ovr Z cA C → Stand p l e R s m args below meth c T' locs (cells + 1) (slots + cap) → Ends p e below s Q K N (T'.setTop (mkF m pc' Ls (.ref a :: st)))) : Ends p e below s Q K N (T.setTop (mkF m pc Ls (.int n :: st))) := by
  subst hp
  obtain ⟨T1, h1, cA, X1, e1, E1, A1, O1, s1⟩ := newR X hx hZ hown w1 w2 eT (g := mkF m pc Ls (.int n :: st)) rfl hd rfl hn hcap hb hc hl
  exact Ends.go s1 (E T1 h1 cA _ rfl e1 E1 A1 O1 X1)
theorem o_aastore (X : Stand p l e R s m args below meth c T locs cells slots) (hx : p.tables.exec = Jvm.exec) (hZ : Z.Warmed39 s.vm) {a : Addr} {cl : Cell} {ty : FieldType} {j : Int32} {v : Value} (eT : T.heap = h) (A : Arr Z h a cl ty) (hj : ¬ (j < 0 ∨ cl.slots.size ≤ j.toNatClampNeg)) (hty : ty.isReference = true) (F : Sto Z h a v) (hd : decode c.code pc = .ok (.aastore, 1)) (hp : pc + 1 = pc') (E : ∀ T' h', T'.heap = h' → Wr h h' a j.toNatClampNeg v → Stand p l e R s m args below meth c T' (locs ++ [⟨a, j.toNatClampNeg⟩]) cells slots → Ends p e below s Q K N (T'.setTop (mkF m pc' Ls st))) : Ends p e below s Q K N (T.setTop (mkF m pc Ls (v :: .int j :: .ref a :: st))) := by
  subst hp
  obtain ⟨T1, h1, X1, e1, W1, s1⟩ := stR X hx hZ eT A hj hty F (g := mkF m pc Ls (v :: .int j :: .ref a :: st)) rfl rfl hd
  exact Ends.go s1 (E T1 h1 e1 W1 X1)
theorem o_tsw (X : Stand p l e R s m args below meth c T locs cells slots) (hx : p.tables.exec = Jvm.exec) {dflt low high : Int} {offs : Array Int} {len : Nat} {o : Int} {i : Int32} (hd : decode c.code pc = .ok (.tableswitch dflt low high offs, len)) (hin : ¬ (i.toInt < low ∨ i.toInt > high)) (hoff : offs[(i.toInt - low).toNat]? = some o) (ho : 0 ≤ (pc : Int) + o) (hp : ((pc : Int) + o).toNat = pc') (E : Ends p e below s Q K N (T.setTop (mkF m pc' Ls st))) : Ends p e below s Q K N (T.setTop (mkF m pc Ls (.int i :: st))) :=
  Ends.go (fun t q => XS.tswIn X.here hx rfl (pc0 := pc) rfl hd rfl hin hoff ho hp q) E
theorem o_callU (X : Stand p l e R s m args below meth c T locs cells slots) (hx : p.tables.exec = Jvm.exec) (hZ : Z.Warmed39 s.vm) {own C owner : String} {index : Nat} {y z : MethodName} {bytes : ByteArray} {maxL : Nat} {rt : Option FieldType} {rm : Room} {b : Addr} {argsL rest : List Value} {Q' : Option Value → Heap → List Loc → Prop} {ps : List FieldType} {pr : Option FieldType} (hown : s.vm.findClass own = some m.cls) (w1 : (Jvm.Cond.methodLink own index y).before a0 Z = true) (w7 : (Jvm.Cond.sameMethod y.cls owner y.name y.desc).before a0 Z = true) (w2 : (Jvm.Cond.declares ⟨owner, y.name, y.desc⟩).before a0 Z = true) (w5 : (Jvm.Cond.selects C y z).before a0 Z = true) (w6 : (Jvm.Cond.instanceMethod z).before a0 Z = true) (w3 : (Jvm.Cond.initialized z.cls).before a0 Z = true) (w4 : (Jvm.Cond.code z bytes maxL rt).before a0 Z = true)
    (hy : owner ≠ "java/lang/invoke/MethodHandle" ∧ owner ≠ "java/lang/invoke/VarHandle") (eT : T.heap = h) (X1 : Exa Z h b C) (hM : Con l Z z bytes maxL rt rm (.ref b :: argsL).toArray h Q') (hsz : Ls.size = c.maxLocals) (hpd : parseMethodDescriptor y.desc = some ⟨ps, pr⟩) (hlen : argsL.length = ps.length) (hst : st = argsL.reverse ++ .ref b :: rest) (hd : decode c.code pc = .ok (.invokevirtual index, 3)) (hp : pc + 3 = pc')
    {W : Nat} (hf : rm.frames + 1 ≤ R.frames) (hW : (rest.map fun v => v.category).sum = W) (hl : W + (maxL + 11) + rm.locals ≤ R.locals) (hc : cells + rm.cells ≤ R.cells) (hs : slots + rm.slots ≤ R.slots)
    (E : ∀ (v : Option Value) (T' : State) (L : List Loc), Q' v T'.heap L → Stand p l e R s m args below meth c T' (locs ++ L) (cells + rm.cells) (slots + rm.slots) → Ends p e below s Q K N (T'.setTop (mkF m pc' Ls (v.toList ++ rest)))) : Ends p e below s Q K N (T.setTop (mkF m pc Ls st)) := by
  subst hp hst
  obtain ⟨cq, kq, qa, qb, qc⟩ := isOf (T := T) hZ eT X1
  obtain ⟨v, _, ⟨T2, L2, k2, n2⟩, -, X2, ⟨Lc2, hQ2, l2, y2, z2⟩, st2⟩ := X.virtualBackUp hx (x := y) (y := z) hown (mvT hZ w1) (mvT hZ w7) (mvT hZ w2) hy (mvT hZ w5) (mvT hZ w6) (backOf (W := W) (hM []) hZ w4 w3 hf hl) qa qc (g := mkF m pc Ls (argsL.reverse ++ .ref b :: rest)) rfl hsz (Steps.refl _) (argsL := argsL) (rest := rest) (lenOf hpd hlen) rfl (by show 2 * 0 + _ ≤ _; omega) hd (fun _ _ => ⟨rfl, eT, hc, hs⟩)
  dsimp only [Pt.U, Pt.locs, Pt.cells, Pt.slots] at X2 l2 y2 z2 st2 hQ2
  subst l2 y2 z2
  exact Ends.go (fun t q => st2.trans q) (E v T2 Lc2 hQ2 X2)
theorem own_staK {h' : Heap} {ws : List Addr} {C n d : String} {v : Value} (F : Sta Z h C n d v) (Kp : Keep h h' ws) (q : ∀ x c, h[x]? = some c → c.vm.isStatics = true → x ∉ ws) : Sta Z h' C n d v := by
  obtain ⟨cf, i, k, f, st, cell, h1, h2, h3, h4, h5, h6, h7⟩ := F
  exact ⟨cf, i, k, f, st, cell, h1, h2, h3, h4, Kp.2.1 _ _ h5 (q _ _ h5 h6), h6, h7⟩
theorem own_staK0 {h' : Heap} {C n d : String} {v : Value} (F : Sta Z h C n d v) (Kp : Keep h h' []) : Sta Z h' C n d v := own_staK F Kp (fun _ _ _ _ q => nomatch q)
theorem own_arrK0 {h' : Heap} {a : Addr} {cl : Cell} {ty : FieldType} (F : Arr Z h a cl ty) (Kp : Keep h h' []) : Arr Z h' a cl ty := ⟨Kp.2.1 _ _ F.1 (fun q => nomatch q), F.2⟩
theorem own_not {idx : List Nat} {d : Jvm.Cond} (q : (Jvm.Cond.not d).value args s none s idx = some true) : d.value args s none s idx = some false := by
  simp only [Cond.value] at q
  cases hc : d.value args s none s idx with
  | none => simp [hc] at q
  | some b => cases b <;> simp [hc] at q ⊢
end Own
end Jvm.Pilot.@@N@@
namespace Jvm.Pilot.@@N@@
open Jvm Jvm.ClassFile Sem Op Lib Jvm.Free Jvm.Stand Jvm.LawKit Jvm.RoadKit Bundle Jvm.Pilot.@@N@@.Jvm.D
theorem pn_0 : plainName "org/chronolake/OperatorHoldsPinLaw" = true := by first | (simp [plainName, overriddenIn]; done) | decide +kernel
theorem pd_0 : parseMethodDescriptor "(II)Z" = some ⟨[.int, .int], some .boolean⟩ := by decide +kernel
theorem d1_0 : decode prog_23_method_4_code 0 = .ok (.aload_n 0, 1) := by decide +kernel
theorem d1_1 : decode prog_23_method_4_code 1 = .ok (.getfield 38, 3) := by decide +kernel
theorem d1_4 : decode prog_23_method_4_code 4 = .ok (.areturn, 1) := by decide +kernel
theorem pn_1 : plainName "org/chronolake/Condition$Operator" = true := by first | (simp [plainName, overriddenIn]; done) | decide +kernel
theorem pd_1 : parseMethodDescriptor "()Ljava/lang/String;" = some ⟨[], some (.object "java/lang/String")⟩ := by decide +kernel
theorem d2_0 : decode method_3_code 0 = .ok (.aload_n 0, 1) := by decide +kernel
theorem d2_1 : decode method_3_code 1 = .ok (.invokevirtual 40, 3) := by decide +kernel
theorem d2_4 : decode method_3_code 4 = .ok (.ifCond .le 16, 3) := by decide +kernel
theorem d2_7 : decode method_3_code 7 = .ok (.aload_n 0, 1) := by decide +kernel
theorem d2_8 : decode method_3_code 8 = .ok (.iconst 0, 1) := by decide +kernel
theorem d2_9 : decode method_3_code 9 = .ok (.invokevirtual 46, 3) := by decide +kernel
theorem d2_12 : decode method_3_code 12 = .ok (.iload_n 1, 1) := by decide +kernel
theorem d2_13 : decode method_3_code 13 = .ok (.if_icmp .ne 7, 3) := by decide +kernel
theorem d2_16 : decode method_3_code 16 = .ok (.iconst 1, 1) := by decide +kernel
theorem d2_17 : decode method_3_code 17 = .ok (.goto 4, 3) := by decide +kernel
theorem d2_20 : decode method_3_code 20 = .ok (.iconst 0, 1) := by decide +kernel
theorem d2_21 : decode method_3_code 21 = .ok (.istore_n 2, 1) := by decide +kernel
theorem d2_22 : decode method_3_code 22 = .ok (.aload_n 0, 1) := by decide +kernel
theorem d2_23 : decode method_3_code 23 = .ok (.invokevirtual 40, 3) := by decide +kernel
theorem d2_26 : decode method_3_code 26 = .ok (.iconst 1, 1) := by decide +kernel
theorem d2_27 : decode method_3_code 27 = .ok (.if_icmp .le 16, 3) := by decide +kernel
theorem d2_30 : decode method_3_code 30 = .ok (.aload_n 0, 1) := by decide +kernel
theorem d2_31 : decode method_3_code 31 = .ok (.iconst 1, 1) := by decide +kernel
theorem d2_32 : decode method_3_code 32 = .ok (.invokevirtual 46, 3) := by decide +kernel
theorem d2_35 : decode method_3_code 35 = .ok (.iload_n 1, 1) := by decide +kernel
theorem d2_36 : decode method_3_code 36 = .ok (.if_icmp .ne 7, 3) := by decide +kernel
theorem d2_39 : decode method_3_code 39 = .ok (.iconst 1, 1) := by decide +kernel
theorem d2_40 : decode method_3_code 40 = .ok (.goto 4, 3) := by decide +kernel
theorem d2_43 : decode method_3_code 43 = .ok (.iconst 0, 1) := by decide +kernel
theorem d2_44 : decode method_3_code 44 = .ok (.istore_n 3, 1) := by decide +kernel
theorem d2_45 : decode method_3_code 45 = .ok (.iload_n 2, 1) := by decide +kernel
theorem d2_46 : decode method_3_code 46 = .ok (.ifCond .ne 7, 3) := by decide +kernel
theorem d2_49 : decode method_3_code 49 = .ok (.iload_n 3, 1) := by decide +kernel
theorem d2_50 : decode method_3_code 50 = .ok (.ifCond .eq 7, 3) := by decide +kernel
theorem d2_53 : decode method_3_code 53 = .ok (.iconst 1, 1) := by decide +kernel
theorem d2_54 : decode method_3_code 54 = .ok (.goto 4, 3) := by decide +kernel
theorem d2_57 : decode method_3_code 57 = .ok (.iconst 0, 1) := by decide +kernel
theorem d2_58 : decode method_3_code 58 = .ok (.ireturn, 1) := by decide +kernel
theorem pn_2 : plainName "org/chronolake/OperatorHoldsPinLaw" = true := by first | (simp [plainName, overriddenIn]; done) | decide +kernel
theorem pd_2 : parseMethodDescriptor "(Ljava/lang/String;C)Z" = some ⟨[(.object "java/lang/String"), .char], some .boolean⟩ := by decide +kernel
theorem d3_0 : decode jdk_42_method_54_code 0 = .ok (.aload_n 0, 1) := by decide +kernel
theorem d3_1 : decode jdk_42_method_54_code 1 = .ok (.getfield 9, 3) := by decide +kernel
theorem d3_4 : decode jdk_42_method_54_code 4 = .ok (.arraylength, 1) := by decide +kernel
theorem d3_5 : decode jdk_42_method_54_code 5 = .ok (.aload_n 0, 1) := by decide +kernel
theorem d3_6 : decode jdk_42_method_54_code 6 = .ok (.invokevirtual 335, 3) := by decide +kernel
theorem d3_9 : decode jdk_42_method_54_code 9 = .ok (.ishr, 1) := by decide +kernel
theorem d3_10 : decode jdk_42_method_54_code 10 = .ok (.ireturn, 1) := by decide +kernel
theorem pn_3 : plainName "java/lang/String" = true := by first | (simp [plainName, overriddenIn]; done) | decide +kernel
theorem pd_3 : parseMethodDescriptor "()I" = some ⟨[], some .int⟩ := by decide +kernel
theorem d4_0 : decode jdk_42_method_152_code 0 = .ok (.getstatic 38, 3) := by decide +kernel
theorem d4_3 : decode jdk_42_method_152_code 3 = .ok (.ifCond .eq 10, 3) := by decide +kernel
theorem d4_6 : decode jdk_42_method_152_code 6 = .ok (.aload_n 0, 1) := by decide +kernel
theorem d4_7 : decode jdk_42_method_152_code 7 = .ok (.getfield 15, 3) := by decide +kernel
theorem d4_10 : decode jdk_42_method_152_code 10 = .ok (.goto 4, 3) := by decide +kernel
theorem d4_13 : decode jdk_42_method_152_code 13 = .ok (.iconst 1, 1) := by decide +kernel
theorem d4_14 : decode jdk_42_method_152_code 14 = .ok (.ireturn, 1) := by decide +kernel
theorem pn_4 : plainName "java/lang/String" = true := by first | (simp [plainName, overriddenIn]; done) | decide +kernel
theorem pd_4 : parseMethodDescriptor "()B" = some ⟨[], some .byte⟩ := by decide +kernel
theorem d5_0 : decode jdk_42_method_56_code 0 = .ok (.aload_n 0, 1) := by decide +kernel
theorem d5_1 : decode jdk_42_method_56_code 1 = .ok (.invokevirtual 492, 3) := by decide +kernel
theorem d5_4 : decode jdk_42_method_56_code 4 = .ok (.ifCond .eq 12, 3) := by decide +kernel
theorem d5_7 : decode jdk_42_method_56_code 7 = .ok (.aload_n 0, 1) := by decide +kernel
theorem d5_8 : decode jdk_42_method_56_code 8 = .ok (.getfield 9, 3) := by decide +kernel
theorem d5_11 : decode jdk_42_method_56_code 11 = .ok (.iload_n 1, 1) := by decide +kernel
theorem d5_12 : decode jdk_42_method_56_code 12 = .ok (.invokestatic 495, 3) := by decide +kernel
theorem d5_15 : decode jdk_42_method_56_code 15 = .ok (.ireturn, 1) := by decide +kernel
theorem d5_16 : decode jdk_42_method_56_code 16 = .ok (.aload_n 0, 1) := by decide +kernel
theorem d5_17 : decode jdk_42_method_56_code 17 = .ok (.getfield 9, 3) := by decide +kernel
theorem d5_20 : decode jdk_42_method_56_code 20 = .ok (.iload_n 1, 1) := by decide +kernel
theorem d5_21 : decode jdk_42_method_56_code 21 = .ok (.invokestatic 498, 3) := by decide +kernel
theorem d5_24 : decode jdk_42_method_56_code 24 = .ok (.ireturn, 1) := by decide +kernel
theorem pn_5 : plainName "java/lang/String" = true := by first | (simp [plainName, overriddenIn]; done) | decide +kernel
theorem pd_5 : parseMethodDescriptor "(I)C" = some ⟨[.int], some .char⟩ := by decide +kernel
theorem d6_0 : decode jdk_42_method_154_code 0 = .ok (.getstatic 38, 3) := by decide +kernel
theorem d6_3 : decode jdk_42_method_154_code 3 = .ok (.ifCond .eq 14, 3) := by decide +kernel
theorem d6_6 : decode jdk_42_method_154_code 6 = .ok (.aload_n 0, 1) := by decide +kernel
theorem d6_7 : decode jdk_42_method_154_code 7 = .ok (.getfield 15, 3) := by decide +kernel
theorem d6_10 : decode jdk_42_method_154_code 10 = .ok (.ifCond .ne 7, 3) := by decide +kernel
theorem d6_13 : decode jdk_42_method_154_code 13 = .ok (.iconst 1, 1) := by decide +kernel
theorem d6_14 : decode jdk_42_method_154_code 14 = .ok (.goto 4, 3) := by decide +kernel
theorem d6_17 : decode jdk_42_method_154_code 17 = .ok (.iconst 0, 1) := by decide +kernel
theorem d6_18 : decode jdk_42_method_154_code 18 = .ok (.ireturn, 1) := by decide +kernel
theorem pn_6 : plainName "java/lang/String" = true := by first | (simp [plainName, overriddenIn]; done) | decide +kernel
theorem pd_6 : parseMethodDescriptor "()Z" = some ⟨[], some .boolean⟩ := by decide +kernel
theorem d7_0 : decode jdk_43_method_2_code 0 = .ok (.iload_n 1, 1) := by decide +kernel
theorem d7_1 : decode jdk_43_method_2_code 1 = .ok (.aload_n 0, 1) := by decide +kernel
theorem d7_2 : decode jdk_43_method_2_code 2 = .ok (.arraylength, 1) := by decide +kernel
theorem d7_3 : decode jdk_43_method_2_code 3 = .ok (.invokestatic 9, 3) := by decide +kernel
theorem d7_6 : decode jdk_43_method_2_code 6 = .ok (.aload_n 0, 1) := by decide +kernel
theorem d7_7 : decode jdk_43_method_2_code 7 = .ok (.iload_n 1, 1) := by decide +kernel
theorem d7_8 : decode jdk_43_method_2_code 8 = .ok (.baload, 1) := by decide +kernel
theorem d7_9 : decode jdk_43_method_2_code 9 = .ok (.sipush 255, 3) := by decide +kernel
theorem d7_12 : decode jdk_43_method_2_code 12 = .ok (.iand, 1) := by decide +kernel
theorem d7_13 : decode jdk_43_method_2_code 13 = .ok (.i2c, 1) := by decide +kernel
theorem d7_14 : decode jdk_43_method_2_code 14 = .ok (.ireturn, 1) := by decide +kernel
theorem pn_7 : plainName "java/lang/StringLatin1" = true := by first | (simp [plainName, overriddenIn]; done) | decide +kernel
theorem pd_7 : parseMethodDescriptor "([BI)C" = some ⟨[(.array .byte), .int], some .char⟩ := by decide +kernel
theorem d8_0 : decode jdk_42_method_155_code 0 = .ok (.iload_n 0, 1) := by decide +kernel
theorem d8_1 : decode jdk_42_method_155_code 1 = .ok (.iload_n 1, 1) := by decide +kernel
theorem d8_2 : decode jdk_42_method_155_code 2 = .ok (.getstatic 1053, 3) := by decide +kernel
theorem d8_5 : decode jdk_42_method_155_code 5 = .ok (.invokestatic 1059, 3) := by decide +kernel
theorem d8_8 : decode jdk_42_method_155_code 8 = .ok (.pop, 1) := by decide +kernel
theorem d8_9 : decode jdk_42_method_155_code 9 = .ok (.return_, 1) := by decide +kernel
theorem pn_8 : plainName "java/lang/String" = true := by first | (simp [plainName, overriddenIn]; done) | decide +kernel
theorem pd_8 : parseMethodDescriptor "(II)V" = some ⟨[.int, .int], none⟩ := by decide +kernel
theorem d9_0 : decode jdk_41_method_11_code 0 = .ok (.iload_n 0, 1) := by decide +kernel
theorem d9_1 : decode jdk_41_method_11_code 1 = .ok (.ifCond .lt 8, 3) := by decide +kernel
theorem d9_4 : decode jdk_41_method_11_code 4 = .ok (.iload_n 0, 1) := by decide +kernel
theorem d9_5 : decode jdk_41_method_11_code 5 = .ok (.iload_n 1, 1) := by decide +kernel
theorem d9_6 : decode jdk_41_method_11_code 6 = .ok (.if_icmp .lt 10, 3) := by decide +kernel
theorem d9_9 : decode jdk_41_method_11_code 9 = .ok (.aload_n 2, 1) := by decide +kernel
theorem d9_10 : decode jdk_41_method_11_code 10 = .ok (.iload_n 0, 1) := by decide +kernel
theorem d9_11 : decode jdk_41_method_11_code 11 = .ok (.iload_n 1, 1) := by decide +kernel
theorem d9_12 : decode jdk_41_method_11_code 12 = .ok (.invokestatic 95, 3) := by decide +kernel
theorem d9_15 : decode jdk_41_method_11_code 15 = .ok (.athrow, 1) := by decide +kernel
theorem d9_16 : decode jdk_41_method_11_code 16 = .ok (.iload_n 0, 1) := by decide +kernel
theorem d9_17 : decode jdk_41_method_11_code 17 = .ok (.ireturn, 1) := by decide +kernel
theorem pn_9 : plainName "jdk/internal/util/Preconditions" = true := by first | (simp [plainName, overriddenIn]; done) | decide +kernel
theorem pd_9 : parseMethodDescriptor "(IILjava/util/function/BiFunction;)I" = some ⟨[.int, .int, (.object "java/util/function/BiFunction")], some .int⟩ := by decide +kernel
theorem d10_0 : decode prog_23_method_5_code 0 = .ok (.aload_n 0, 1) := by decide +kernel
theorem d10_1 : decode prog_23_method_5_code 1 = .ok (.invokevirtual 42, 3) := by decide +kernel
theorem d10_4 : decode prog_23_method_5_code 4 = .ok (.tableswitch 36 0 4 #[46, 58, 70, 82, 94], 36) := by decide +kernel
theorem d10_40 : decode prog_23_method_5_code 40 = .ok (.new 46, 3) := by decide +kernel
theorem d10_43 : decode prog_23_method_5_code 43 = .ok (.dup, 1) := by decide +kernel
theorem d10_44 : decode prog_23_method_5_code 44 = .ok (.aconst_null, 1) := by decide +kernel
theorem d10_45 : decode prog_23_method_5_code 45 = .ok (.aconst_null, 1) := by decide +kernel
theorem d10_46 : decode prog_23_method_5_code 46 = .ok (.invokespecial 48, 3) := by decide +kernel
theorem d10_49 : decode prog_23_method_5_code 49 = .ok (.athrow, 1) := by decide +kernel
theorem d10_50 : decode prog_23_method_5_code 50 = .ok (.iload_n 1, 1) := by decide +kernel
theorem d10_51 : decode prog_23_method_5_code 51 = .ok (.ifCond .ne 7, 3) := by decide +kernel
theorem d10_54 : decode prog_23_method_5_code 54 = .ok (.iconst 1, 1) := by decide +kernel
theorem d10_55 : decode prog_23_method_5_code 55 = .ok (.goto 52, 3) := by decide +kernel
theorem d10_58 : decode prog_23_method_5_code 58 = .ok (.iconst 0, 1) := by decide +kernel
theorem d10_59 : decode prog_23_method_5_code 59 = .ok (.goto 48, 3) := by decide +kernel
theorem d10_62 : decode prog_23_method_5_code 62 = .ok (.iload_n 1, 1) := by decide +kernel
theorem d10_63 : decode prog_23_method_5_code 63 = .ok (.ifCond .ge 7, 3) := by decide +kernel
theorem d10_66 : decode prog_23_method_5_code 66 = .ok (.iconst 1, 1) := by decide +kernel
theorem d10_67 : decode prog_23_method_5_code 67 = .ok (.goto 40, 3) := by decide +kernel
theorem d10_70 : decode prog_23_method_5_code 70 = .ok (.iconst 0, 1) := by decide +kernel
theorem d10_71 : decode prog_23_method_5_code 71 = .ok (.goto 36, 3) := by decide +kernel
theorem d10_74 : decode prog_23_method_5_code 74 = .ok (.iload_n 1, 1) := by decide +kernel
theorem d10_75 : decode prog_23_method_5_code 75 = .ok (.ifCond .gt 7, 3) := by decide +kernel
theorem d10_78 : decode prog_23_method_5_code 78 = .ok (.iconst 1, 1) := by decide +kernel
theorem d10_79 : decode prog_23_method_5_code 79 = .ok (.goto 28, 3) := by decide +kernel
theorem d10_82 : decode prog_23_method_5_code 82 = .ok (.iconst 0, 1) := by decide +kernel
theorem d10_83 : decode prog_23_method_5_code 83 = .ok (.goto 24, 3) := by decide +kernel
theorem d10_86 : decode prog_23_method_5_code 86 = .ok (.iload_n 1, 1) := by decide +kernel
theorem d10_87 : decode prog_23_method_5_code 87 = .ok (.ifCond .le 7, 3) := by decide +kernel
theorem d10_90 : decode prog_23_method_5_code 90 = .ok (.iconst 1, 1) := by decide +kernel
theorem d10_91 : decode prog_23_method_5_code 91 = .ok (.goto 16, 3) := by decide +kernel
theorem d10_94 : decode prog_23_method_5_code 94 = .ok (.iconst 0, 1) := by decide +kernel
theorem d10_95 : decode prog_23_method_5_code 95 = .ok (.goto 12, 3) := by decide +kernel
theorem d10_98 : decode prog_23_method_5_code 98 = .ok (.iload_n 1, 1) := by decide +kernel
theorem d10_99 : decode prog_23_method_5_code 99 = .ok (.ifCond .lt 7, 3) := by decide +kernel
theorem d10_102 : decode prog_23_method_5_code 102 = .ok (.iconst 1, 1) := by decide +kernel
theorem d10_103 : decode prog_23_method_5_code 103 = .ok (.goto 4, 3) := by decide +kernel
theorem d10_106 : decode prog_23_method_5_code 106 = .ok (.iconst 0, 1) := by decide +kernel
theorem d10_107 : decode prog_23_method_5_code 107 = .ok (.ireturn, 1) := by decide +kernel
theorem pn_10 : plainName "org/chronolake/Condition$Operator" = true := by first | (simp [plainName, overriddenIn]; done) | decide +kernel
theorem pd_10 : parseMethodDescriptor "(I)Z" = some ⟨[.int], some .boolean⟩ := by decide +kernel
theorem d11_0 : decode jdk_37_method_2_code 0 = .ok (.aload_n 0, 1) := by decide +kernel
theorem d11_1 : decode jdk_37_method_2_code 1 = .ok (.getfield 7, 3) := by decide +kernel
theorem d11_4 : decode jdk_37_method_2_code 4 = .ok (.ireturn, 1) := by decide +kernel
theorem pn_11 : plainName "java/lang/Enum" = true := by first | (simp [plainName, overriddenIn]; done) | decide +kernel
theorem pd_11 : parseMethodDescriptor "()I" = some ⟨[], some .int⟩ := by decide +kernel

theorem own_mask31 (x : Int32) : 0 ≤ (x &&& 2147483647).toInt := by
  have := c_mask x 2147483647 31 (by decide) (by decide)
  omega
theorem own_rem (x k : Int32) (n : Int) (hn : 0 < n) (hk : k.toInt = n) (hx : 0 ≤ x.toInt) : 0 ≤ (x % k).toInt ∧ (x % k).toInt < n := by
  have := (c_irem x k n hk).1 hx
  rw [this]
  exact ⟨Int.emod_nonneg _ (by omega), Int.emod_lt_of_pos _ hn⟩
theorem own_is {v : Int32} {k : Int} (h : v.toInt = k) : v = Int32.ofInt k := by rw [← h, Int32.ofInt_toInt]
theorem own_s5 (v : Int32) (h0 : 0 ≤ v.toInt) (h1 : v.toInt < 5) : v = (0 : Int32) ∨ v = (1 : Int32) ∨ v = (2 : Int32) ∨ v = (3 : Int32) ∨ v = (4 : Int32) := by
  have h : v.toInt = 0 ∨ v.toInt = 1 ∨ v.toInt = 2 ∨ v.toInt = 3 ∨ v.toInt = 4 := by omega
  rcases h with h | h | h | h | h
  · exact Or.inl (own_is h)
  · exact Or.inr (Or.inl (own_is h))
  · exact Or.inr (Or.inr (Or.inl (own_is h)))
  · exact Or.inr (Or.inr (Or.inr (Or.inl (own_is h))))
  · exact Or.inr (Or.inr (Or.inr (Or.inr (own_is h))))
abbrev Q1 (Z : State) (a b : Addr) (h0 : Heap) (v : Option Value) (h : Heap) (L : List Loc) : Prop := v = some (.ref b) ∧ L = [] ∧ h = h0
set_option maxRecDepth 65536 in
set_option maxHeartbeats 40000000 in
theorem rm1 (l : Launch) (Z : State) (a0 : Array Value) (hw : ∀ d ∈ tables_1, d.before a0 Z = true) (a b : Addr) (h0 : Heap) (G : Fld Z h0 a "org/chronolake/Condition$Operator" "symbol" "Ljava/lang/String;" (.ref b)) :
    Con l Z (⟨"org/chronolake/Condition$Operator", "symbol", "()Ljava/lang/String;"⟩ : MethodName) prog_23_method_4_code 1 (some (.object "java/lang/String")) ({ frames := 0, cells := 0, slots := 0, locals := 0 } : Room) #[(.ref a)] h0 (Q1 Z a b h0) := by
  refine Con.of pn_1 (fun p e s m below meth c T0 X0 hx hby hml hret hlk hown hnm hZ e0 => ?_)
  replace hown : s.vm.findClass "org/chronolake/Condition$Operator" = some m.cls := hown
  have ef : entryFrame m #[(.ref a)] 1 = mkF m 0 #[.val (.ref a)] [] := by first | (simp [entryFrame, mkF, argsToLocals, Value.category]; done) | rfl
  rw [ef]
  refine o_aloadN (pc' := 1) X0 hx (hb hby d1_0) rfl rfl rfl ?_
  refine o_getF (pc' := 4) X0 hx hZ hown (hw _ (List.mem_of_getElem? (i := 20) rfl)) Via.refl e0 G (hb hby d1_1) rfl ?_
  intro T1 e1 X1
  exact o_retA (t := .object "java/lang/String") X1 hx rfl rfl hlk hret (hb hby d1_4) ⟨rfl, rfl, e1⟩ (by decide) (by decide)
abbrev Q11 (Z : State) (a : Addr) (p1 : Int32) (h0 : Heap) (v : Option Value) (h : Heap) (L : List Loc) : Prop := v = some (.int p1) ∧ L = [] ∧ h = h0
set_option maxRecDepth 65536 in
set_option maxHeartbeats 40000000 in
theorem rm11 (l : Launch) (Z : State) (a0 : Array Value) (hw : ∀ d ∈ tables_1, d.before a0 Z = true) (a : Addr) (p1 : Int32) (h0 : Heap) (G : Fld Z h0 a "java/lang/Enum" "ordinal" "I" (.int p1)) :
    Con l Z (⟨"java/lang/Enum", "ordinal", "()I"⟩ : MethodName) jdk_37_method_2_code 1 (some .int) ({ frames := 0, cells := 0, slots := 0, locals := 0 } : Room) #[(.ref a)] h0 (Q11 Z a p1 h0) := by
  refine Con.of pn_11 (fun p e s m below meth c T0 X0 hx hby hml hret hlk hown hnm hZ e0 => ?_)
  replace hown : s.vm.findClass "java/lang/Enum" = some m.cls := hown
  have ef : entryFrame m #[(.ref a)] 1 = mkF m 0 #[.val (.ref a)] [] := by first | (simp [entryFrame, mkF, argsToLocals, Value.category]; done) | rfl
  rw [ef]
  refine o_aloadN (pc' := 1) X0 hx (hb hby d11_0) rfl rfl rfl ?_
  refine o_getF (pc' := 4) X0 hx hZ hown (hw _ (List.mem_of_getElem? (i := 76) rfl)) Via.refl e0 G (hb hby d11_1) rfl ?_
  intro T1 e1 X1
  exact o_retI X1 hx hlk hret (hb hby d11_4) ⟨rfl, rfl, e1⟩ (by decide) (by decide)
abbrev Q4 (Z : State) (a : Addr) (cs : Int32) (h0 : Heap) (v : Option Value) (h : Heap) (L : List Loc) : Prop := v = some (.int (0 : Int32)) ∧ L = [] ∧ h = h0
set_option maxRecDepth 65536 in
set_option maxHeartbeats 40000000 in
theorem rm4 (l : Launch) (Z : State) (a0 : Array Value) (hw : ∀ d ∈ tables_1, d.before a0 Z = true) (a : Addr) (cs : Int32) (h0 : Heap) (S1 : Sta Z h0 "java/lang/String" "COMPACT_STRINGS" "Z" (.int cs)) (hcs : ¬ cs = 0) (G : Fld Z h0 a "java/lang/String" "coder" "B" (.int (0 : Int32))) :
    Con l Z (⟨"java/lang/String", "coder", "()B"⟩ : MethodName) jdk_42_method_152_code 1 (some .byte) ({ frames := 0, cells := 0, slots := 0, locals := 0 } : Room) #[(.ref a)] h0 (Q4 Z a cs h0) := by
  refine Con.of pn_4 (fun p e s m below meth c T0 X0 hx hby hml hret hlk hown hnm hZ e0 => ?_)
  replace hown : s.vm.findClass "java/lang/String" = some m.cls := hown
  have ef : entryFrame m #[(.ref a)] 1 = mkF m 0 #[.val (.ref a)] [] := by first | (simp [entryFrame, mkF, argsToLocals, Value.category]; done) | rfl
  rw [ef]
  refine o_getS (pc' := 3) X0 hx hZ hown (hw _ (List.mem_of_getElem? (i := 39) rfl)) Via.refl e0 S1 (hb hby d4_0) rfl ?_
  intro T0 e0 X0
  refine o_if_eq (p1 := 6) (p2 := 13) X0 hx (hb hby d4_3) rfl (by decide) (by decide) (fun hc3 => absurd hc3 hcs) (fun hc3 => ?_)
  refine o_aloadN (pc' := 7) X0 hx (hb hby d4_6) rfl rfl rfl ?_
  refine o_getF (pc' := 10) X0 hx hZ hown (hw _ (List.mem_of_getElem? (i := 40) rfl)) Via.refl e0 G (hb hby d4_7) rfl ?_
  intro T7 e7 X7
  refine o_goto (pc' := 14) X7 hx (hb hby d4_10) (by decide) (by decide) ?_
  exact o_ret X7 hx hlk hret (hb hby d4_14) rfl (Or.inl ⟨rfl, Or.inr (Or.inr (Or.inl rfl)), _, rfl⟩) ⟨rfl, rfl, e7⟩ (by decide) (by decide)
abbrev Q6 (Z : State) (a : Addr) (cs : Int32) (h0 : Heap) (v : Option Value) (h : Heap) (L : List Loc) : Prop := v = some (.int (1 : Int32)) ∧ L = [] ∧ h = h0
set_option maxRecDepth 65536 in
set_option maxHeartbeats 40000000 in
theorem rm6 (l : Launch) (Z : State) (a0 : Array Value) (hw : ∀ d ∈ tables_1, d.before a0 Z = true) (a : Addr) (cs : Int32) (h0 : Heap) (S1 : Sta Z h0 "java/lang/String" "COMPACT_STRINGS" "Z" (.int cs)) (hcs : ¬ cs = 0) (G : Fld Z h0 a "java/lang/String" "coder" "B" (.int (0 : Int32))) :
    Con l Z (⟨"java/lang/String", "isLatin1", "()Z"⟩ : MethodName) jdk_42_method_154_code 1 (some .boolean) ({ frames := 0, cells := 0, slots := 0, locals := 0 } : Room) #[(.ref a)] h0 (Q6 Z a cs h0) := by
  refine Con.of pn_6 (fun p e s m below meth c T0 X0 hx hby hml hret hlk hown hnm hZ e0 => ?_)
  replace hown : s.vm.findClass "java/lang/String" = some m.cls := hown
  have ef : entryFrame m #[(.ref a)] 1 = mkF m 0 #[.val (.ref a)] [] := by first | (simp [entryFrame, mkF, argsToLocals, Value.category]; done) | rfl
  rw [ef]
  refine o_getS (pc' := 3) X0 hx hZ hown (hw _ (List.mem_of_getElem? (i := 39) rfl)) Via.refl e0 S1 (hb hby d6_0) rfl ?_
  intro T0 e0 X0
  refine o_if_eq (p1 := 6) (p2 := 17) X0 hx (hb hby d6_3) rfl (by decide) (by decide) (fun hc3 => absurd hc3 hcs) (fun hc3 => ?_)
  refine o_aloadN (pc' := 7) X0 hx (hb hby d6_6) rfl rfl rfl ?_
  refine o_getF (pc' := 10) X0 hx hZ hown (hw _ (List.mem_of_getElem? (i := 40) rfl)) Via.refl e0 G (hb hby d6_7) rfl ?_
  intro T7 e7 X7
  refine o_if_ne (p1 := 13) (p2 := 17) X7 hx (hb hby d6_10) rfl (by decide) (by decide) (fun hc10 => absurd (by decide) hc10) (fun hc10 => ?_)
  refine o_iconst (v := (1 : Int32)) (pc' := 14) X7 hx (hb hby d6_13) (by decide) rfl ?_
  refine o_goto (pc' := 18) X7 hx (hb hby d6_14) (by decide) (by decide) ?_
  exact o_retZ X7 hx hlk hret (hb hby d6_18) (by decide) ⟨rfl, rfl, e7⟩ (by decide) (by decide)

theorem own_shr0 (x : Int32) : x >>> ((0 : Int32) &&& 31) = x := by
  have := c_ishr x 0 0 (by decide)
  exact Int32.toInt_inj.mp (by rw [this]; simp)
theorem own_cl {cl : Cell} {n : Nat} {g : Nat → Value} {nn : Int32} (C : Cont cl n g) (hn : nn.toInt = n) : cl.slots.size.toInt32 = nn := by
  rw [C.1]; exact Int32.toInt_inj.mp (by rw [len_toInt (by have := nn.toInt_lt; omega), hn])
theorem own_char (x : Int32) : narrow .char (.int (x &&& 255)) = .int (x &&& 255) := by
  show Value.int ((x &&& 255).toUInt32.toUInt16.toUInt32.toInt32) = _
  rw [i2c_mask]
abbrev Q3 (Z : State) (a b : Addr) (cs : Int32) (cl : Cell) (n : Nat) (nn : Int32) (gb : Nat → Int32) (h0 : Heap) (v : Option Value) (h : Heap) (L : List Loc) : Prop := v = some (.int nn) ∧ L = [] ∧ h = h0
set_option maxRecDepth 65536 in
set_option maxHeartbeats 40000000 in
theorem rm3 (l : Launch) (Z : State) (a0 : Array Value) (hw : ∀ d ∈ tables_1, d.before a0 Z = true) (a b : Addr) (cs : Int32) (cl : Cell) (n : Nat) (nn : Int32) (gb : Nat → Int32) (h0 : Heap) (S1 : Sta Z h0 "java/lang/String" "COMPACT_STRINGS" "Z" (.int cs)) (hcs : ¬ cs = 0) (E : Exa Z h0 a "java/lang/String") (V : Fld Z h0 a "java/lang/String" "value" "[B" (.ref b)) (G : Fld Z h0 a "java/lang/String" "coder" "B" (.int (0 : Int32))) (A : Arr Z h0 b cl .byte) (C : Cont cl n (fun k => .int (gb k))) (hn : nn.toInt = n) :
    Con l Z (⟨"java/lang/String", "length", "()I"⟩ : MethodName) jdk_42_method_54_code 1 (some .int) ({ frames := 1, cells := 0, slots := 0, locals := 13 } : Room) #[(.ref a)] h0 (Q3 Z a b cs cl n nn gb h0) := by
  refine Con.of pn_3 (fun p e s m below meth c T0 X0 hx hby hml hret hlk hown hnm hZ e0 => ?_)
  replace hown : s.vm.findClass "java/lang/String" = some m.cls := hown
  have ef : entryFrame m #[(.ref a)] 1 = mkF m 0 #[.val (.ref a)] [] := by first | (simp [entryFrame, mkF, argsToLocals, Value.category]; done) | rfl
  rw [ef]
  refine o_aloadN (pc' := 1) X0 hx (hb hby d3_0) rfl rfl rfl ?_
  refine o_getF (pc' := 4) X0 hx hZ hown (hw _ (List.mem_of_getElem? (i := 32) rfl)) Via.refl e0 V (hb hby d3_1) rfl ?_
  intro T1 e1 X1
  refine o_len (pc' := 5) (n := nn) X1 hx hZ e1 A (own_cl C hn) (hb hby d3_4) rfl ?_
  refine o_aloadN (pc' := 6) X1 hx (hb hby d3_5) rfl rfl rfl ?_
  refine o_callV (W := 1) (pc' := 9) (rm := ({ frames := 0, cells := 0, slots := 0, locals := 0 } : Room)) (argsL := []) (rest := [(.int nn)]) X1 hx hZ hown (hw _ (List.mem_of_getElem? (i := 34) rfl)) (hw _ (List.mem_of_getElem? (i := 35) rfl)) (hw _ (List.mem_of_getElem? (i := 37) rfl)) (hw _ (List.mem_of_getElem? (i := 36) rfl)) (hw _ (List.mem_of_getElem? (i := 30) rfl)) (hw _ (List.mem_of_getElem? (i := 38) rfl)) (by decide) e1 E (rm4 l Z a0 hw a cs h0 S1 hcs G) (by rw [hml]; rfl) pd_4 rfl rfl (hb hby d3_6) rfl (by decide) rfl (by decide) (by decide) (by decide) ?_
  rintro _ T6 L6 ⟨rfl, rfl, e6⟩ X6
  show Ends p e below s (Q3 Z a b cs cl n nn gb h0) ({ frames := 1, cells := 0, slots := 0, locals := 13 } : Room).cells ({ frames := 1, cells := 0, slots := 0, locals := 13 } : Room).slots (T6.setTop (mkF m 9 #[.val (.ref a)] [(.int (0 : Int32)), (.int nn)]))
  refine o_ishr (pc' := 10) X6 hx (hb hby d3_9) rfl ?_
  rw [own_shr0]
  exact o_retI X6 hx hlk hret (hb hby d3_10) ⟨rfl, rfl, e6⟩ (by decide) (by decide)
abbrev Q9 (Z : State) (p1 p2 : Int32) (vf : Value) (h0 : Heap) (v : Option Value) (h : Heap) (L : List Loc) : Prop := v = some (.int p1) ∧ L = [] ∧ h = h0
set_option maxRecDepth 65536 in
set_option maxHeartbeats 40000000 in
theorem rm9 (l : Launch) (Z : State) (a0 : Array Value) (hw : ∀ d ∈ tables_1, d.before a0 Z = true) (p1 p2 : Int32) (vf : Value) (h0 : Heap) (q0 : 0 ≤ p1.toInt) (q1 : p1.toInt < p2.toInt) (hvf : vf.isRef = true) :
    Con l Z (⟨"jdk/internal/util/Preconditions", "checkIndex", "(IILjava/util/function/BiFunction;)I"⟩ : MethodName) jdk_41_method_11_code 3 (some .int) ({ frames := 0, cells := 0, slots := 0, locals := 0 } : Room) #[(.int p1), (.int p2), vf] h0 (Q9 Z p1 p2 vf h0) := by
  refine Con.of pn_9 (fun p e s m below meth c T0 X0 hx hby hml hret hlk hown hnm hZ e0 => ?_)
  replace hown : s.vm.findClass "jdk/internal/util/Preconditions" = some m.cls := hown
  have ef : entryFrame m #[(.int p1), (.int p2), vf] 3 = mkF m 0 #[.val (.int p1), .val (.int p2), .val vf] [] := by rcases ref_cases hvf with rfl | ⟨z, rfl⟩ <;> (first | (simp [entryFrame, mkF, argsToLocals, Value.category]; done) | rfl)
  rw [ef]
  refine o_iloadN (pc' := 1) X0 hx (hb hby d9_0) rfl rfl ?_
  refine o_if_lt (p1 := 4) (p2 := 9) X0 hx (hb hby d9_1) rfl (by decide) (by decide) (fun hc1 => absurd hc1 (fun q => by have := Int32.lt_iff_toInt_lt.mp q; simp only [Int32.reduceToInt] at this; omega)) (fun hc1 => ?_)
  refine o_iloadN (pc' := 5) X0 hx (hb hby d9_4) rfl rfl ?_
  refine o_iloadN (pc' := 6) X0 hx (hb hby d9_5) rfl rfl ?_
  refine o_icmp_lt (p1 := 9) (p2 := 16) X0 hx (hb hby d9_6) rfl (by decide) (by decide) (fun hc6 => ?_) (fun hc6 => absurd (Int32.lt_iff_toInt_lt.mpr q1) hc6)
  refine o_iloadN (pc' := 17) X0 hx (hb hby d9_16) rfl rfl ?_
  exact o_retI X0 hx hlk hret (hb hby d9_17) ⟨rfl, rfl, e0⟩ (by decide) (by decide)
abbrev Q8 (Z : State) (p1 p2 : Int32) (vf : Value) (h0 : Heap) (v : Option Value) (h : Heap) (L : List Loc) : Prop := v = none ∧ L = [] ∧ h = h0
set_option maxRecDepth 65536 in
set_option maxHeartbeats 40000000 in
theorem rm8 (l : Launch) (Z : State) (a0 : Array Value) (hw : ∀ d ∈ tables_1, d.before a0 Z = true) (p1 p2 : Int32) (vf : Value) (h0 : Heap) (q0 : 0 ≤ p1.toInt) (q1 : p1.toInt < p2.toInt) (hvf : vf.isRef = true) (S2 : Sta Z h0 "jdk/internal/util/Preconditions" "SIOOBE_FORMATTER" "Ljava/util/function/BiFunction;" vf) :
    Con l Z (⟨"java/lang/String", "checkIndex", "(II)V"⟩ : MethodName) jdk_42_method_155_code 2 none ({ frames := 1, cells := 0, slots := 0, locals := 14 } : Room) #[(.int p1), (.int p2)] h0 (Q8 Z p1 p2 vf h0) := by
  refine Con.of pn_8 (fun p e s m below meth c T0 X0 hx hby hml hret hlk hown hnm hZ e0 => ?_)
  replace hown : s.vm.findClass "java/lang/String" = some m.cls := hown
  have ef : entryFrame m #[(.int p1), (.int p2)] 2 = mkF m 0 #[.val (.int p1), .val (.int p2)] [] := by first | (simp [entryFrame, mkF, argsToLocals, Value.category]; done) | rfl
  rw [ef]
  refine o_iloadN (pc' := 1) X0 hx (hb hby d8_0) rfl rfl ?_
  refine o_iloadN (pc' := 2) X0 hx (hb hby d8_1) rfl rfl ?_
  refine o_getS (pc' := 5) X0 hx hZ hown (hw _ (List.mem_of_getElem? (i := 59) rfl)) Via.refl e0 S2 (hb hby d8_2) rfl ?_
  intro T2 e2 X2
  refine o_callS (W := 0) (pc' := 8) (rm := ({ frames := 0, cells := 0, slots := 0, locals := 0 } : Room)) (argsL := [(.int p1), (.int p2), vf]) (rest := []) X2 hx hZ hown (hw _ (List.mem_of_getElem? (i := 61) rfl)) (hw _ (List.mem_of_getElem? (i := 62) rfl)) (hw _ (List.mem_of_getElem? (i := 60) rfl)) (hw _ (List.mem_of_getElem? (i := 63) rfl)) (by decide) e2 (rm9 l Z a0 hw p1 p2 vf h0 q0 q1 hvf) (by rw [hml]; rfl) pd_9 rfl rfl (hb hby d8_5) rfl (by decide) rfl (by decide) (by decide) (by decide) ?_
  rintro _ T5 L5 ⟨rfl, rfl, e5⟩ X5
  show Ends p e below s (Q8 Z p1 p2 vf h0) ({ frames := 1, cells := 0, slots := 0, locals := 14 } : Room).cells ({ frames := 1, cells := 0, slots := 0, locals := 14 } : Room).slots (T5.setTop (mkF m 8 #[.val (.int p1), .val (.int p2)] [(.int p1)]))
  refine o_pop (pc' := 9) X5 hx (hb hby d8_8) rfl rfl ?_
  exact o_ret0 X5 hx hlk hret (hb hby d8_9) ⟨rfl, rfl, e5⟩ (by decide) (by decide)
abbrev Q7 (Z : State) (b : Addr) (p1 : Int32) (vf : Value) (cl : Cell) (n : Nat) (nn : Int32) (gb : Nat → Int32) (h0 : Heap) (v : Option Value) (h : Heap) (L : List Loc) : Prop := v = some (.int (gb p1.toNatClampNeg &&& (255 : Int32))) ∧ L = [] ∧ h = h0
set_option maxRecDepth 65536 in
set_option maxHeartbeats 40000000 in
theorem rm7 (l : Launch) (Z : State) (a0 : Array Value) (hw : ∀ d ∈ tables_1, d.before a0 Z = true) (b : Addr) (p1 : Int32) (vf : Value) (cl : Cell) (n : Nat) (nn : Int32) (gb : Nat → Int32) (h0 : Heap) (A : Arr Z h0 b cl .byte) (C : Cont cl n (fun k => .int (gb k))) (hn : nn.toInt = n) (hvf : vf.isRef = true) (S2 : Sta Z h0 "jdk/internal/util/Preconditions" "SIOOBE_FORMATTER" "Ljava/util/function/BiFunction;" vf) (q0 : 0 ≤ p1.toInt) (q1 : p1.toInt < nn.toInt) :
    Con l Z (⟨"java/lang/StringLatin1", "charAt", "([BI)C"⟩ : MethodName) jdk_43_method_2_code 2 (some .char) ({ frames := 2, cells := 0, slots := 0, locals := 27 } : Room) #[(.ref b), (.int p1)] h0 (Q7 Z b p1 vf cl n nn gb h0) := by
  refine Con.of pn_7 (fun p e s m below meth c T0 X0 hx hby hml hret hlk hown hnm hZ e0 => ?_)
  replace hown : s.vm.findClass "java/lang/StringLatin1" = some m.cls := hown
  have ef : entryFrame m #[(.ref b), (.int p1)] 2 = mkF m 0 #[.val (.ref b), .val (.int p1)] [] := by first | (simp [entryFrame, mkF, argsToLocals, Value.category]; done) | rfl
  rw [ef]
  refine o_iloadN (pc' := 1) X0 hx (hb hby d7_0) rfl rfl ?_
  refine o_aloadN (pc' := 2) X0 hx (hb hby d7_1) rfl rfl rfl ?_
  refine o_len (pc' := 3) (n := nn) X0 hx hZ e0 A (own_cl C hn) (hb hby d7_2) rfl ?_
  refine o_callS (W := 0) (pc' := 6) (rm := ({ frames := 1, cells := 0, slots := 0, locals := 14 } : Room)) (argsL := [(.int p1), (.int nn)]) (rest := []) X0 hx hZ hown (hw _ (List.mem_of_getElem? (i := 56) rfl)) (hw _ (List.mem_of_getElem? (i := 57) rfl)) (hw _ (List.mem_of_getElem? (i := 30) rfl)) (hw _ (List.mem_of_getElem? (i := 58) rfl)) (by decide) e0 (rm8 l Z a0 hw p1 nn vf h0 q0 q1 hvf S2) (by rw [hml]; rfl) pd_8 rfl rfl (hb hby d7_3) rfl (by decide) rfl (by decide) (by decide) (by decide) ?_
  rintro _ T3 L3 ⟨rfl, rfl, e3⟩ X3
  show Ends p e below s (Q7 Z b p1 vf cl n nn gb h0) ({ frames := 2, cells := 0, slots := 0, locals := 27 } : Room).cells ({ frames := 2, cells := 0, slots := 0, locals := 27 } : Room).slots (T3.setTop (mkF m 6 #[.val (.ref b), .val (.int p1)] []))
  refine o_aloadN (pc' := 7) X3 hx (hb hby d7_6) rfl rfl rfl ?_
  refine o_iloadN (pc' := 8) X3 hx (hb hby d7_7) rfl rfl ?_
  refine o_baloadB (pc' := 9) X3 hx hZ e3 A (C.inb q0 (by omega)) (C.at q0 (by omega)) (hb hby d7_8) rfl ?_
  show Ends p e below s (Q7 Z b p1 vf cl n nn gb h0) ({ frames := 2, cells := 0, slots := 0, locals := 27 } : Room).cells ({ frames := 2, cells := 0, slots := 0, locals := 27 } : Room).slots (T3.setTop (mkF m 9 #[.val (.ref b), .val (.int p1)] [(.int (gb p1.toNatClampNeg))]))
  refine o_sipush (v := (255 : Int32)) (pc' := 12) X3 hx (hb hby d7_9) (by decide) rfl ?_
  refine o_iand (pc' := 13) X3 hx (hb hby d7_12) rfl ?_
  refine o_i2c (pc' := 14) X3 hx (hb hby d7_13) rfl ?_
  rw [i2c_mask]
  exact o_ret X3 hx hlk hret (hb hby d7_14) (own_char _) (Or.inl ⟨rfl, Or.inr (Or.inr (Or.inr (Or.inl rfl))), _, rfl⟩) ⟨rfl, rfl, e3⟩ (by decide) (by decide)
abbrev Q5 (Z : State) (a b : Addr) (p1 cs : Int32) (vf : Value) (cl : Cell) (n : Nat) (nn : Int32) (gb : Nat → Int32) (h0 : Heap) (v : Option Value) (h : Heap) (L : List Loc) : Prop := v = some (.int (gb p1.toNatClampNeg &&& (255 : Int32))) ∧ L = [] ∧ h = h0
set_option maxRecDepth 65536 in
set_option maxHeartbeats 40000000 in
theorem rm5 (l : Launch) (Z : State) (a0 : Array Value) (hw : ∀ d ∈ tables_1, d.before a0 Z = true) (a b : Addr) (p1 cs : Int32) (vf : Value) (cl : Cell) (n : Nat) (nn : Int32) (gb : Nat → Int32) (h0 : Heap) (S1 : Sta Z h0 "java/lang/String" "COMPACT_STRINGS" "Z" (.int cs)) (hcs : ¬ cs = 0) (hvf : vf.isRef = true) (S2 : Sta Z h0 "jdk/internal/util/Preconditions" "SIOOBE_FORMATTER" "Ljava/util/function/BiFunction;" vf) (E : Exa Z h0 a "java/lang/String") (V : Fld Z h0 a "java/lang/String" "value" "[B" (.ref b)) (G : Fld Z h0 a "java/lang/String" "coder" "B" (.int (0 : Int32))) (A : Arr Z h0 b cl .byte) (C : Cont cl n (fun k => .int (gb k))) (hn : nn.toInt = n) (q0 : 0 ≤ p1.toInt) (q1 : p1.toInt < nn.toInt) :
    Con l Z (⟨"java/lang/String", "charAt", "(I)C"⟩ : MethodName) jdk_42_method_56_code 2 (some .char) ({ frames := 3, cells := 0, slots := 0, locals := 40 } : Room) #[(.ref a), (.int p1)] h0 (Q5 Z a b p1 cs vf cl n nn gb h0) := by
  refine Con.of pn_5 (fun p e s m below meth c T0 X0 hx hby hml hret hlk hown hnm hZ e0 => ?_)
  replace hown : s.vm.findClass "java/lang/String" = some m.cls := hown
  have ef : entryFrame m #[(.ref a), (.int p1)] 2 = mkF m 0 #[.val (.ref a), .val (.int p1)] [] := by first | (simp [entryFrame, mkF, argsToLocals, Value.category]; done) | rfl
  rw [ef]
  refine o_aloadN (pc' := 1) X0 hx (hb hby d5_0) rfl rfl rfl ?_
  refine o_callV (W := 0) (pc' := 4) (rm := ({ frames := 0, cells := 0, slots := 0, locals := 0 } : Room)) (argsL := []) (rest := []) X0 hx hZ hown (hw _ (List.mem_of_getElem? (i := 47) rfl)) (hw _ (List.mem_of_getElem? (i := 48) rfl)) (hw _ (List.mem_of_getElem? (i := 50) rfl)) (hw _ (List.mem_of_getElem? (i := 49) rfl)) (hw _ (List.mem_of_getElem? (i := 30) rfl)) (hw _ (List.mem_of_getElem? (i := 51) rfl)) (by decide) e0 E (rm6 l Z a0 hw a cs h0 S1 hcs G) (by rw [hml]; rfl) pd_6 rfl rfl (hb hby d5_1) rfl (by decide) rfl (by decide) (by decide) (by decide) ?_
  rintro _ T1 L1 ⟨rfl, rfl, e1⟩ X1
  show Ends p e below s (Q5 Z a b p1 cs vf cl n nn gb h0) ({ frames := 3, cells := 0, slots := 0, locals := 40 } : Room).cells ({ frames := 3, cells := 0, slots := 0, locals := 40 } : Room).slots (T1.setTop (mkF m 4 #[.val (.ref a), .val (.int p1)] [(.int (1 : Int32))]))
  refine o_if_eq (p1 := 7) (p2 := 16) X1 hx (hb hby d5_4) rfl (by decide) (by decide) (fun hc4 => absurd hc4 (by decide)) (fun hc4 => ?_)
  refine o_aloadN (pc' := 8) X1 hx (hb hby d5_7) rfl rfl rfl ?_
  refine o_getF (pc' := 11) X1 hx hZ hown (hw _ (List.mem_of_getElem? (i := 32) rfl)) Via.refl e1 V (hb hby d5_8) rfl ?_
  intro T8 e8 X8
  refine o_iloadN (pc' := 12) X8 hx (hb hby d5_11) rfl rfl ?_
  refine o_callS (W := 0) (pc' := 15) (rm := ({ frames := 2, cells := 0, slots := 0, locals := 27 } : Room)) (argsL := [(.ref b), (.int p1)]) (rest := []) X8 hx hZ hown (hw _ (List.mem_of_getElem? (i := 52) rfl)) (hw _ (List.mem_of_getElem? (i := 53) rfl)) (hw _ (List.mem_of_getElem? (i := 54) rfl)) (hw _ (List.mem_of_getElem? (i := 55) rfl)) (by decide) e8 (rm7 l Z a0 hw b p1 vf cl n nn gb h0 A C hn hvf S2 q0 q1) (by rw [hml]; rfl) pd_7 rfl rfl (hb hby d5_12) rfl (by decide) rfl (by decide) (by decide) (by decide) ?_
  rintro _ T12 L12 ⟨rfl, rfl, e12⟩ X12
  show Ends p e below s (Q5 Z a b p1 cs vf cl n nn gb h0) ({ frames := 3, cells := 0, slots := 0, locals := 40 } : Room).cells ({ frames := 3, cells := 0, slots := 0, locals := 40 } : Room).slots (T12.setTop (mkF m 15 #[.val (.ref a), .val (.int p1)] [(.int (gb p1.toNatClampNeg &&& (255 : Int32)))]))
  exact o_ret X12 hx hlk hret (hb hby d5_15) (own_char _) (Or.inl ⟨rfl, Or.inr (Or.inr (Or.inr (Or.inl rfl))), _, rfl⟩) ⟨rfl, rfl, e12⟩ (by decide) (by decide)
def fh1 (gb : Nat → Int32) (p1 : Int32) : Int32 := (if (gb 0 &&& (255 : Int32)) = p1 then (1 : Int32) else (0 : Int32))
abbrev QH1 (Z : State) (a b : Addr) (p1 cs : Int32) (vf : Value) (cl : Cell) (gb : Nat → Int32) (h0 : Heap) (v : Option Value) (h : Heap) (L : List Loc) : Prop := v = some (.int (fh1 gb p1)) ∧ L = [] ∧ h = h0
set_option maxRecDepth 65536 in
set_option maxHeartbeats 40000000 in
theorem rmH1 (l : Launch) (Z : State) (a0 : Array Value) (hw : ∀ d ∈ tables_1, d.before a0 Z = true) (a b : Addr) (p1 cs : Int32) (vf : Value) (cl : Cell) (gb : Nat → Int32) (h0 : Heap) (S1 : Sta Z h0 "java/lang/String" "COMPACT_STRINGS" "Z" (.int cs)) (hcs : ¬ cs = 0) (hvf : vf.isRef = true) (S2 : Sta Z h0 "jdk/internal/util/Preconditions" "SIOOBE_FORMATTER" "Ljava/util/function/BiFunction;" vf) (E : Exa Z h0 a "java/lang/String") (V : Fld Z h0 a "java/lang/String" "value" "[B" (.ref b)) (G : Fld Z h0 a "java/lang/String" "coder" "B" (.int (0 : Int32))) (A : Arr Z h0 b cl .byte) (C : Cont cl 1 (fun k => .int (gb k)))  :
    Con l Z (⟨"org/chronolake/OperatorHoldsPinLaw", "has", "(Ljava/lang/String;C)Z"⟩ : MethodName) method_3_code 4 (some .boolean) ({ frames := 4, cells := 0, slots := 0, locals := 53 } : Room) #[(.ref a), (.int p1)] h0 (QH1 Z a b p1 cs vf cl gb h0) := by
  refine Con.of pn_2 (fun p e s m below meth c T0 X0 hx hby hml hret hlk hown hnm hZ e0 => ?_)
  replace hown : s.vm.findClass "org/chronolake/OperatorHoldsPinLaw" = some m.cls := hown
  have ef : entryFrame m #[(.ref a), (.int p1)] 4 = mkF m 0 #[.val (.ref a), .val (.int p1), .unset, .unset] [] := by first | (simp [entryFrame, mkF, argsToLocals, Value.category]; done) | rfl
  rw [ef]
  refine o_aloadN (pc' := 1) X0 hx (hb hby d2_0) rfl rfl rfl ?_
  refine o_callV (W := 0) (pc' := 4) (rm := ({ frames := 1, cells := 0, slots := 0, locals := 13 } : Room)) (argsL := []) (rest := []) X0 hx hZ hown (hw _ (List.mem_of_getElem? (i := 26) rfl)) (hw _ (List.mem_of_getElem? (i := 27) rfl)) (hw _ (List.mem_of_getElem? (i := 29) rfl)) (hw _ (List.mem_of_getElem? (i := 28) rfl)) (hw _ (List.mem_of_getElem? (i := 30) rfl)) (hw _ (List.mem_of_getElem? (i := 31) rfl)) (by decide) e0 E (rm3 l Z a0 hw a b cs cl 1 (1 : Int32) gb h0 S1 hcs E V G A C (by decide)) (by rw [hml]; rfl) pd_3 rfl rfl (hb hby d2_1) rfl (by decide) rfl (by decide) (by decide) (by decide) ?_
  rintro _ T1 L1 ⟨rfl, rfl, e1⟩ X1
  show Ends p e below s (QH1 Z a b p1 cs vf cl gb h0) ({ frames := 4, cells := 0, slots := 0, locals := 53 } : Room).cells ({ frames := 4, cells := 0, slots := 0, locals := 53 } : Room).slots (T1.setTop (mkF m 4 #[.val (.ref a), .val (.int p1), .unset, .unset] [(.int (1 : Int32))]))
  refine o_if_le (p1 := 7) (p2 := 20) X1 hx (hb hby d2_4) rfl (by decide) (by decide) (fun hc4 => absurd (by decide) hc4) (fun hc4 => ?_)
  refine o_aloadN (pc' := 8) X1 hx (hb hby d2_7) rfl rfl rfl ?_
  refine o_iconst (v := (0 : Int32)) (pc' := 9) X1 hx (hb hby d2_8) (by decide) rfl ?_
  refine o_callV (W := 0) (pc' := 12) (rm := ({ frames := 3, cells := 0, slots := 0, locals := 40 } : Room)) (argsL := [(.int (0 : Int32))]) (rest := []) X1 hx hZ hown (hw _ (List.mem_of_getElem? (i := 42) rfl)) (hw _ (List.mem_of_getElem? (i := 43) rfl)) (hw _ (List.mem_of_getElem? (i := 45) rfl)) (hw _ (List.mem_of_getElem? (i := 44) rfl)) (hw _ (List.mem_of_getElem? (i := 30) rfl)) (hw _ (List.mem_of_getElem? (i := 46) rfl)) (by decide) e1 E (rm5 l Z a0 hw a b (0 : Int32) cs vf cl 1 (1 : Int32) gb h0 S1 hcs hvf S2 E V G A C (by decide) (by decide) (by decide)) (by rw [hml]; rfl) pd_5 rfl rfl (hb hby d2_9) rfl (by decide) rfl (by decide) (by decide) (by decide) ?_
  rintro _ T9 L9 ⟨rfl, rfl, e9⟩ X9
  show Ends p e below s (QH1 Z a b p1 cs vf cl gb h0) ({ frames := 4, cells := 0, slots := 0, locals := 53 } : Room).cells ({ frames := 4, cells := 0, slots := 0, locals := 53 } : Room).slots (T9.setTop (mkF m 12 #[.val (.ref a), .val (.int p1), .unset, .unset] [(.int (gb (0 : Int32).toNatClampNeg &&& (255 : Int32)))]))
  rw [show (0 : Int32).toNatClampNeg = 0 from by decide]
  refine o_iloadN (pc' := 13) X9 hx (hb hby d2_12) rfl rfl ?_
  refine o_icmp_ne (p1 := 16) (p2 := 20) X9 hx (hb hby d2_13) rfl (by decide) (by decide) (fun hc13 => ?_) (fun hc13 => ?_)
  · refine o_iconst (v := (0 : Int32)) (pc' := 21) X9 hx (hb hby d2_20) (by decide) rfl ?_
    refine o_istoreN (Ls' := #[.val (.ref a), .val (.int p1), .val (.int (0 : Int32)), .unset]) (pc' := 22) X9 hx (hb hby d2_21) rfl rfl ?_
    refine o_aloadN (pc' := 23) X9 hx (hb hby d2_22) rfl rfl rfl ?_
    refine o_callV (W := 0) (pc' := 26) (rm := ({ frames := 1, cells := 0, slots := 0, locals := 13 } : Room)) (argsL := []) (rest := []) X9 hx hZ hown (hw _ (List.mem_of_getElem? (i := 26) rfl)) (hw _ (List.mem_of_getElem? (i := 27) rfl)) (hw _ (List.mem_of_getElem? (i := 29) rfl)) (hw _ (List.mem_of_getElem? (i := 28) rfl)) (hw _ (List.mem_of_getElem? (i := 30) rfl)) (hw _ (List.mem_of_getElem? (i := 31) rfl)) (by decide) e9 E (rm3 l Z a0 hw a b cs cl 1 (1 : Int32) gb h0 S1 hcs E V G A C (by decide)) (by rw [hml]; rfl) pd_3 rfl rfl (hb hby d2_23) rfl (by decide) rfl (by decide) (by decide) (by decide) ?_
    rintro _ T23 L23 ⟨rfl, rfl, e23⟩ X23
    show Ends p e below s (QH1 Z a b p1 cs vf cl gb h0) ({ frames := 4, cells := 0, slots := 0, locals := 53 } : Room).cells ({ frames := 4, cells := 0, slots := 0, locals := 53 } : Room).slots (T23.setTop (mkF m 26 #[.val (.ref a), .val (.int p1), .val (.int (0 : Int32)), .unset] [(.int (1 : Int32))]))
    refine o_iconst (v := (1 : Int32)) (pc' := 27) X23 hx (hb hby d2_26) (by decide) rfl ?_
    refine o_icmp_le (p1 := 30) (p2 := 43) X23 hx (hb hby d2_27) rfl (by decide) (by decide) (fun hc27 => ?_) (fun hc27 => absurd hc27 (by decide))
    refine o_iconst (v := (0 : Int32)) (pc' := 44) X23 hx (hb hby d2_43) (by decide) rfl ?_
    refine o_istoreN (Ls' := #[.val (.ref a), .val (.int p1), .val (.int (0 : Int32)), .val (.int (0 : Int32))]) (pc' := 45) X23 hx (hb hby d2_44) rfl rfl ?_
    refine o_iloadN (pc' := 46) X23 hx (hb hby d2_45) rfl rfl ?_
    refine o_if_ne (p1 := 49) (p2 := 53) X23 hx (hb hby d2_46) rfl (by decide) (by decide) (fun hc46 => absurd (by decide) hc46) (fun hc46 => ?_)
    refine o_iloadN (pc' := 50) X23 hx (hb hby d2_49) rfl rfl ?_
    refine o_if_eq (p1 := 53) (p2 := 57) X23 hx (hb hby d2_50) rfl (by decide) (by decide) (fun hc50 => ?_) (fun hc50 => absurd (by decide) hc50)
    refine o_iconst (v := (0 : Int32)) (pc' := 58) X23 hx (hb hby d2_57) (by decide) rfl ?_
    exact o_retZ X23 hx hlk hret (hb hby d2_58) (by decide) ⟨by simp only [fh1, if_neg hc13], rfl, e23⟩ (by decide) (by decide)
  · refine o_iconst (v := (1 : Int32)) (pc' := 17) X9 hx (hb hby d2_16) (by decide) rfl ?_
    refine o_goto (pc' := 21) X9 hx (hb hby d2_17) (by decide) (by decide) ?_
    refine o_istoreN (Ls' := #[.val (.ref a), .val (.int p1), .val (.int (1 : Int32)), .unset]) (pc' := 22) X9 hx (hb hby d2_21) rfl rfl ?_
    refine o_aloadN (pc' := 23) X9 hx (hb hby d2_22) rfl rfl rfl ?_
    refine o_callV (W := 0) (pc' := 26) (rm := ({ frames := 1, cells := 0, slots := 0, locals := 13 } : Room)) (argsL := []) (rest := []) X9 hx hZ hown (hw _ (List.mem_of_getElem? (i := 26) rfl)) (hw _ (List.mem_of_getElem? (i := 27) rfl)) (hw _ (List.mem_of_getElem? (i := 29) rfl)) (hw _ (List.mem_of_getElem? (i := 28) rfl)) (hw _ (List.mem_of_getElem? (i := 30) rfl)) (hw _ (List.mem_of_getElem? (i := 31) rfl)) (by decide) e9 E (rm3 l Z a0 hw a b cs cl 1 (1 : Int32) gb h0 S1 hcs E V G A C (by decide)) (by rw [hml]; rfl) pd_3 rfl rfl (hb hby d2_23) rfl (by decide) rfl (by decide) (by decide) (by decide) ?_
    rintro _ T23 L23 ⟨rfl, rfl, e23⟩ X23
    show Ends p e below s (QH1 Z a b p1 cs vf cl gb h0) ({ frames := 4, cells := 0, slots := 0, locals := 53 } : Room).cells ({ frames := 4, cells := 0, slots := 0, locals := 53 } : Room).slots (T23.setTop (mkF m 26 #[.val (.ref a), .val (.int p1), .val (.int (1 : Int32)), .unset] [(.int (1 : Int32))]))
    refine o_iconst (v := (1 : Int32)) (pc' := 27) X23 hx (hb hby d2_26) (by decide) rfl ?_
    refine o_icmp_le (p1 := 30) (p2 := 43) X23 hx (hb hby d2_27) rfl (by decide) (by decide) (fun hc27 => ?_) (fun hc27 => absurd hc27 (by decide))
    refine o_iconst (v := (0 : Int32)) (pc' := 44) X23 hx (hb hby d2_43) (by decide) rfl ?_
    refine o_istoreN (Ls' := #[.val (.ref a), .val (.int p1), .val (.int (1 : Int32)), .val (.int (0 : Int32))]) (pc' := 45) X23 hx (hb hby d2_44) rfl rfl ?_
    refine o_iloadN (pc' := 46) X23 hx (hb hby d2_45) rfl rfl ?_
    refine o_if_ne (p1 := 49) (p2 := 53) X23 hx (hb hby d2_46) rfl (by decide) (by decide) (fun hc46 => ?_) (fun hc46 => absurd hc46 (by decide))
    refine o_iconst (v := (1 : Int32)) (pc' := 54) X23 hx (hb hby d2_53) (by decide) rfl ?_
    refine o_goto (pc' := 58) X23 hx (hb hby d2_54) (by decide) (by decide) ?_
    exact o_retZ X23 hx hlk hret (hb hby d2_58) (by decide) ⟨by simp only [fh1, if_pos hc13], rfl, e23⟩ (by decide) (by decide)
def fh2 (gb : Nat → Int32) (p1 : Int32) : Int32 := (if (gb 0 &&& (255 : Int32)) = p1 then (1 : Int32) else (if (gb 1 &&& (255 : Int32)) = p1 then (1 : Int32) else (0 : Int32)))
abbrev QH2 (Z : State) (a b : Addr) (p1 cs : Int32) (vf : Value) (cl : Cell) (gb : Nat → Int32) (h0 : Heap) (v : Option Value) (h : Heap) (L : List Loc) : Prop := v = some (.int (fh2 gb p1)) ∧ L = [] ∧ h = h0
set_option maxRecDepth 65536 in
set_option maxHeartbeats 40000000 in
theorem rmH2 (l : Launch) (Z : State) (a0 : Array Value) (hw : ∀ d ∈ tables_1, d.before a0 Z = true) (a b : Addr) (p1 cs : Int32) (vf : Value) (cl : Cell) (gb : Nat → Int32) (h0 : Heap) (S1 : Sta Z h0 "java/lang/String" "COMPACT_STRINGS" "Z" (.int cs)) (hcs : ¬ cs = 0) (hvf : vf.isRef = true) (S2 : Sta Z h0 "jdk/internal/util/Preconditions" "SIOOBE_FORMATTER" "Ljava/util/function/BiFunction;" vf) (E : Exa Z h0 a "java/lang/String") (V : Fld Z h0 a "java/lang/String" "value" "[B" (.ref b)) (G : Fld Z h0 a "java/lang/String" "coder" "B" (.int (0 : Int32))) (A : Arr Z h0 b cl .byte) (C : Cont cl 2 (fun k => .int (gb k)))  :
    Con l Z (⟨"org/chronolake/OperatorHoldsPinLaw", "has", "(Ljava/lang/String;C)Z"⟩ : MethodName) method_3_code 4 (some .boolean) ({ frames := 4, cells := 0, slots := 0, locals := 53 } : Room) #[(.ref a), (.int p1)] h0 (QH2 Z a b p1 cs vf cl gb h0) := by
  refine Con.of pn_2 (fun p e s m below meth c T0 X0 hx hby hml hret hlk hown hnm hZ e0 => ?_)
  replace hown : s.vm.findClass "org/chronolake/OperatorHoldsPinLaw" = some m.cls := hown
  have ef : entryFrame m #[(.ref a), (.int p1)] 4 = mkF m 0 #[.val (.ref a), .val (.int p1), .unset, .unset] [] := by first | (simp [entryFrame, mkF, argsToLocals, Value.category]; done) | rfl
  rw [ef]
  refine o_aloadN (pc' := 1) X0 hx (hb hby d2_0) rfl rfl rfl ?_
  refine o_callV (W := 0) (pc' := 4) (rm := ({ frames := 1, cells := 0, slots := 0, locals := 13 } : Room)) (argsL := []) (rest := []) X0 hx hZ hown (hw _ (List.mem_of_getElem? (i := 26) rfl)) (hw _ (List.mem_of_getElem? (i := 27) rfl)) (hw _ (List.mem_of_getElem? (i := 29) rfl)) (hw _ (List.mem_of_getElem? (i := 28) rfl)) (hw _ (List.mem_of_getElem? (i := 30) rfl)) (hw _ (List.mem_of_getElem? (i := 31) rfl)) (by decide) e0 E (rm3 l Z a0 hw a b cs cl 2 (2 : Int32) gb h0 S1 hcs E V G A C (by decide)) (by rw [hml]; rfl) pd_3 rfl rfl (hb hby d2_1) rfl (by decide) rfl (by decide) (by decide) (by decide) ?_
  rintro _ T1 L1 ⟨rfl, rfl, e1⟩ X1
  show Ends p e below s (QH2 Z a b p1 cs vf cl gb h0) ({ frames := 4, cells := 0, slots := 0, locals := 53 } : Room).cells ({ frames := 4, cells := 0, slots := 0, locals := 53 } : Room).slots (T1.setTop (mkF m 4 #[.val (.ref a), .val (.int p1), .unset, .unset] [(.int (2 : Int32))]))
  refine o_if_le (p1 := 7) (p2 := 20) X1 hx (hb hby d2_4) rfl (by decide) (by decide) (fun hc4 => absurd (by decide) hc4) (fun hc4 => ?_)
  refine o_aloadN (pc' := 8) X1 hx (hb hby d2_7) rfl rfl rfl ?_
  refine o_iconst (v := (0 : Int32)) (pc' := 9) X1 hx (hb hby d2_8) (by decide) rfl ?_
  refine o_callV (W := 0) (pc' := 12) (rm := ({ frames := 3, cells := 0, slots := 0, locals := 40 } : Room)) (argsL := [(.int (0 : Int32))]) (rest := []) X1 hx hZ hown (hw _ (List.mem_of_getElem? (i := 42) rfl)) (hw _ (List.mem_of_getElem? (i := 43) rfl)) (hw _ (List.mem_of_getElem? (i := 45) rfl)) (hw _ (List.mem_of_getElem? (i := 44) rfl)) (hw _ (List.mem_of_getElem? (i := 30) rfl)) (hw _ (List.mem_of_getElem? (i := 46) rfl)) (by decide) e1 E (rm5 l Z a0 hw a b (0 : Int32) cs vf cl 2 (2 : Int32) gb h0 S1 hcs hvf S2 E V G A C (by decide) (by decide) (by decide)) (by rw [hml]; rfl) pd_5 rfl rfl (hb hby d2_9) rfl (by decide) rfl (by decide) (by decide) (by decide) ?_
  rintro _ T9 L9 ⟨rfl, rfl, e9⟩ X9
  show Ends p e below s (QH2 Z a b p1 cs vf cl gb h0) ({ frames := 4, cells := 0, slots := 0, locals := 53 } : Room).cells ({ frames := 4, cells := 0, slots := 0, locals := 53 } : Room).slots (T9.setTop (mkF m 12 #[.val (.ref a), .val (.int p1), .unset, .unset] [(.int (gb (0 : Int32).toNatClampNeg &&& (255 : Int32)))]))
  rw [show (0 : Int32).toNatClampNeg = 0 from by decide]
  refine o_iloadN (pc' := 13) X9 hx (hb hby d2_12) rfl rfl ?_
  refine o_icmp_ne (p1 := 16) (p2 := 20) X9 hx (hb hby d2_13) rfl (by decide) (by decide) (fun hc13 => ?_) (fun hc13 => ?_)
  · refine o_iconst (v := (0 : Int32)) (pc' := 21) X9 hx (hb hby d2_20) (by decide) rfl ?_
    refine o_istoreN (Ls' := #[.val (.ref a), .val (.int p1), .val (.int (0 : Int32)), .unset]) (pc' := 22) X9 hx (hb hby d2_21) rfl rfl ?_
    refine o_aloadN (pc' := 23) X9 hx (hb hby d2_22) rfl rfl rfl ?_
    refine o_callV (W := 0) (pc' := 26) (rm := ({ frames := 1, cells := 0, slots := 0, locals := 13 } : Room)) (argsL := []) (rest := []) X9 hx hZ hown (hw _ (List.mem_of_getElem? (i := 26) rfl)) (hw _ (List.mem_of_getElem? (i := 27) rfl)) (hw _ (List.mem_of_getElem? (i := 29) rfl)) (hw _ (List.mem_of_getElem? (i := 28) rfl)) (hw _ (List.mem_of_getElem? (i := 30) rfl)) (hw _ (List.mem_of_getElem? (i := 31) rfl)) (by decide) e9 E (rm3 l Z a0 hw a b cs cl 2 (2 : Int32) gb h0 S1 hcs E V G A C (by decide)) (by rw [hml]; rfl) pd_3 rfl rfl (hb hby d2_23) rfl (by decide) rfl (by decide) (by decide) (by decide) ?_
    rintro _ T23 L23 ⟨rfl, rfl, e23⟩ X23
    show Ends p e below s (QH2 Z a b p1 cs vf cl gb h0) ({ frames := 4, cells := 0, slots := 0, locals := 53 } : Room).cells ({ frames := 4, cells := 0, slots := 0, locals := 53 } : Room).slots (T23.setTop (mkF m 26 #[.val (.ref a), .val (.int p1), .val (.int (0 : Int32)), .unset] [(.int (2 : Int32))]))
    refine o_iconst (v := (1 : Int32)) (pc' := 27) X23 hx (hb hby d2_26) (by decide) rfl ?_
    refine o_icmp_le (p1 := 30) (p2 := 43) X23 hx (hb hby d2_27) rfl (by decide) (by decide) (fun hc27 => absurd (by decide) hc27) (fun hc27 => ?_)
    refine o_aloadN (pc' := 31) X23 hx (hb hby d2_30) rfl rfl rfl ?_
    refine o_iconst (v := (1 : Int32)) (pc' := 32) X23 hx (hb hby d2_31) (by decide) rfl ?_
    refine o_callV (W := 0) (pc' := 35) (rm := ({ frames := 3, cells := 0, slots := 0, locals := 40 } : Room)) (argsL := [(.int (1 : Int32))]) (rest := []) X23 hx hZ hown (hw _ (List.mem_of_getElem? (i := 42) rfl)) (hw _ (List.mem_of_getElem? (i := 43) rfl)) (hw _ (List.mem_of_getElem? (i := 45) rfl)) (hw _ (List.mem_of_getElem? (i := 44) rfl)) (hw _ (List.mem_of_getElem? (i := 30) rfl)) (hw _ (List.mem_of_getElem? (i := 46) rfl)) (by decide) e23 E (rm5 l Z a0 hw a b (1 : Int32) cs vf cl 2 (2 : Int32) gb h0 S1 hcs hvf S2 E V G A C (by decide) (by decide) (by decide)) (by rw [hml]; rfl) pd_5 rfl rfl (hb hby d2_32) rfl (by decide) rfl (by decide) (by decide) (by decide) ?_
    rintro _ T32 L32 ⟨rfl, rfl, e32⟩ X32
    show Ends p e below s (QH2 Z a b p1 cs vf cl gb h0) ({ frames := 4, cells := 0, slots := 0, locals := 53 } : Room).cells ({ frames := 4, cells := 0, slots := 0, locals := 53 } : Room).slots (T32.setTop (mkF m 35 #[.val (.ref a), .val (.int p1), .val (.int (0 : Int32)), .unset] [(.int (gb (1 : Int32).toNatClampNeg &&& (255 : Int32)))]))
    rw [show (1 : Int32).toNatClampNeg = 1 from by decide]
    refine o_iloadN (pc' := 36) X32 hx (hb hby d2_35) rfl rfl ?_
    refine o_icmp_ne (p1 := 39) (p2 := 43) X32 hx (hb hby d2_36) rfl (by decide) (by decide) (fun hc36 => ?_) (fun hc36 => ?_)
    · refine o_iconst (v := (0 : Int32)) (pc' := 44) X32 hx (hb hby d2_43) (by decide) rfl ?_
      refine o_istoreN (Ls' := #[.val (.ref a), .val (.int p1), .val (.int (0 : Int32)), .val (.int (0 : Int32))]) (pc' := 45) X32 hx (hb hby d2_44) rfl rfl ?_
      refine o_iloadN (pc' := 46) X32 hx (hb hby d2_45) rfl rfl ?_
      refine o_if_ne (p1 := 49) (p2 := 53) X32 hx (hb hby d2_46) rfl (by decide) (by decide) (fun hc46 => absurd (by decide) hc46) (fun hc46 => ?_)
      refine o_iloadN (pc' := 50) X32 hx (hb hby d2_49) rfl rfl ?_
      refine o_if_eq (p1 := 53) (p2 := 57) X32 hx (hb hby d2_50) rfl (by decide) (by decide) (fun hc50 => ?_) (fun hc50 => absurd (by decide) hc50)
      refine o_iconst (v := (0 : Int32)) (pc' := 58) X32 hx (hb hby d2_57) (by decide) rfl ?_
      exact o_retZ X32 hx hlk hret (hb hby d2_58) (by decide) ⟨by simp only [fh2, if_neg hc13, if_neg hc36], rfl, e32⟩ (by decide) (by decide)
    · refine o_iconst (v := (1 : Int32)) (pc' := 40) X32 hx (hb hby d2_39) (by decide) rfl ?_
      refine o_goto (pc' := 44) X32 hx (hb hby d2_40) (by decide) (by decide) ?_
      refine o_istoreN (Ls' := #[.val (.ref a), .val (.int p1), .val (.int (0 : Int32)), .val (.int (1 : Int32))]) (pc' := 45) X32 hx (hb hby d2_44) rfl rfl ?_
      refine o_iloadN (pc' := 46) X32 hx (hb hby d2_45) rfl rfl ?_
      refine o_if_ne (p1 := 49) (p2 := 53) X32 hx (hb hby d2_46) rfl (by decide) (by decide) (fun hc46 => absurd (by decide) hc46) (fun hc46 => ?_)
      refine o_iloadN (pc' := 50) X32 hx (hb hby d2_49) rfl rfl ?_
      refine o_if_eq (p1 := 53) (p2 := 57) X32 hx (hb hby d2_50) rfl (by decide) (by decide) (fun hc50 => absurd hc50 (by decide)) (fun hc50 => ?_)
      refine o_iconst (v := (1 : Int32)) (pc' := 54) X32 hx (hb hby d2_53) (by decide) rfl ?_
      refine o_goto (pc' := 58) X32 hx (hb hby d2_54) (by decide) (by decide) ?_
      exact o_retZ X32 hx hlk hret (hb hby d2_58) (by decide) ⟨by simp only [fh2, if_neg hc13, if_pos hc36], rfl, e32⟩ (by decide) (by decide)
  · refine o_iconst (v := (1 : Int32)) (pc' := 17) X9 hx (hb hby d2_16) (by decide) rfl ?_
    refine o_goto (pc' := 21) X9 hx (hb hby d2_17) (by decide) (by decide) ?_
    refine o_istoreN (Ls' := #[.val (.ref a), .val (.int p1), .val (.int (1 : Int32)), .unset]) (pc' := 22) X9 hx (hb hby d2_21) rfl rfl ?_
    refine o_aloadN (pc' := 23) X9 hx (hb hby d2_22) rfl rfl rfl ?_
    refine o_callV (W := 0) (pc' := 26) (rm := ({ frames := 1, cells := 0, slots := 0, locals := 13 } : Room)) (argsL := []) (rest := []) X9 hx hZ hown (hw _ (List.mem_of_getElem? (i := 26) rfl)) (hw _ (List.mem_of_getElem? (i := 27) rfl)) (hw _ (List.mem_of_getElem? (i := 29) rfl)) (hw _ (List.mem_of_getElem? (i := 28) rfl)) (hw _ (List.mem_of_getElem? (i := 30) rfl)) (hw _ (List.mem_of_getElem? (i := 31) rfl)) (by decide) e9 E (rm3 l Z a0 hw a b cs cl 2 (2 : Int32) gb h0 S1 hcs E V G A C (by decide)) (by rw [hml]; rfl) pd_3 rfl rfl (hb hby d2_23) rfl (by decide) rfl (by decide) (by decide) (by decide) ?_
    rintro _ T23 L23 ⟨rfl, rfl, e23⟩ X23
    show Ends p e below s (QH2 Z a b p1 cs vf cl gb h0) ({ frames := 4, cells := 0, slots := 0, locals := 53 } : Room).cells ({ frames := 4, cells := 0, slots := 0, locals := 53 } : Room).slots (T23.setTop (mkF m 26 #[.val (.ref a), .val (.int p1), .val (.int (1 : Int32)), .unset] [(.int (2 : Int32))]))
    refine o_iconst (v := (1 : Int32)) (pc' := 27) X23 hx (hb hby d2_26) (by decide) rfl ?_
    refine o_icmp_le (p1 := 30) (p2 := 43) X23 hx (hb hby d2_27) rfl (by decide) (by decide) (fun hc27 => absurd (by decide) hc27) (fun hc27 => ?_)
    refine o_aloadN (pc' := 31) X23 hx (hb hby d2_30) rfl rfl rfl ?_
    refine o_iconst (v := (1 : Int32)) (pc' := 32) X23 hx (hb hby d2_31) (by decide) rfl ?_
    refine o_callV (W := 0) (pc' := 35) (rm := ({ frames := 3, cells := 0, slots := 0, locals := 40 } : Room)) (argsL := [(.int (1 : Int32))]) (rest := []) X23 hx hZ hown (hw _ (List.mem_of_getElem? (i := 42) rfl)) (hw _ (List.mem_of_getElem? (i := 43) rfl)) (hw _ (List.mem_of_getElem? (i := 45) rfl)) (hw _ (List.mem_of_getElem? (i := 44) rfl)) (hw _ (List.mem_of_getElem? (i := 30) rfl)) (hw _ (List.mem_of_getElem? (i := 46) rfl)) (by decide) e23 E (rm5 l Z a0 hw a b (1 : Int32) cs vf cl 2 (2 : Int32) gb h0 S1 hcs hvf S2 E V G A C (by decide) (by decide) (by decide)) (by rw [hml]; rfl) pd_5 rfl rfl (hb hby d2_32) rfl (by decide) rfl (by decide) (by decide) (by decide) ?_
    rintro _ T32 L32 ⟨rfl, rfl, e32⟩ X32
    show Ends p e below s (QH2 Z a b p1 cs vf cl gb h0) ({ frames := 4, cells := 0, slots := 0, locals := 53 } : Room).cells ({ frames := 4, cells := 0, slots := 0, locals := 53 } : Room).slots (T32.setTop (mkF m 35 #[.val (.ref a), .val (.int p1), .val (.int (1 : Int32)), .unset] [(.int (gb (1 : Int32).toNatClampNeg &&& (255 : Int32)))]))
    rw [show (1 : Int32).toNatClampNeg = 1 from by decide]
    refine o_iloadN (pc' := 36) X32 hx (hb hby d2_35) rfl rfl ?_
    refine o_icmp_ne (p1 := 39) (p2 := 43) X32 hx (hb hby d2_36) rfl (by decide) (by decide) (fun hc36 => ?_) (fun hc36 => ?_)
    · refine o_iconst (v := (0 : Int32)) (pc' := 44) X32 hx (hb hby d2_43) (by decide) rfl ?_
      refine o_istoreN (Ls' := #[.val (.ref a), .val (.int p1), .val (.int (1 : Int32)), .val (.int (0 : Int32))]) (pc' := 45) X32 hx (hb hby d2_44) rfl rfl ?_
      refine o_iloadN (pc' := 46) X32 hx (hb hby d2_45) rfl rfl ?_
      refine o_if_ne (p1 := 49) (p2 := 53) X32 hx (hb hby d2_46) rfl (by decide) (by decide) (fun hc46 => ?_) (fun hc46 => absurd hc46 (by decide))
      refine o_iconst (v := (1 : Int32)) (pc' := 54) X32 hx (hb hby d2_53) (by decide) rfl ?_
      refine o_goto (pc' := 58) X32 hx (hb hby d2_54) (by decide) (by decide) ?_
      exact o_retZ X32 hx hlk hret (hb hby d2_58) (by decide) ⟨by simp only [fh2, if_pos hc13, if_neg hc36], rfl, e32⟩ (by decide) (by decide)
    · refine o_iconst (v := (1 : Int32)) (pc' := 40) X32 hx (hb hby d2_39) (by decide) rfl ?_
      refine o_goto (pc' := 44) X32 hx (hb hby d2_40) (by decide) (by decide) ?_
      refine o_istoreN (Ls' := #[.val (.ref a), .val (.int p1), .val (.int (1 : Int32)), .val (.int (1 : Int32))]) (pc' := 45) X32 hx (hb hby d2_44) rfl rfl ?_
      refine o_iloadN (pc' := 46) X32 hx (hb hby d2_45) rfl rfl ?_
      refine o_if_ne (p1 := 49) (p2 := 53) X32 hx (hb hby d2_46) rfl (by decide) (by decide) (fun hc46 => ?_) (fun hc46 => absurd hc46 (by decide))
      refine o_iconst (v := (1 : Int32)) (pc' := 54) X32 hx (hb hby d2_53) (by decide) rfl ?_
      refine o_goto (pc' := 58) X32 hx (hb hby d2_54) (by decide) (by decide) ?_
      exact o_retZ X32 hx hlk hret (hb hby d2_58) (by decide) ⟨by simp only [fh2, if_pos hc13, if_pos hc36], rfl, e32⟩ (by decide) (by decide)
def fo0 (p1 : Int32) : Int32 := (if p1 = (0 : Int32) then (1 : Int32) else (0 : Int32))
abbrev QO0 (Z : State) (a : Addr) (p1 : Int32) (h0 : Heap) (v : Option Value) (h : Heap) (L : List Loc) : Prop := v = some (.int (fo0 p1)) ∧ L = [] ∧ h = h0
set_option maxRecDepth 65536 in
set_option maxHeartbeats 40000000 in
theorem rmO0 (l : Launch) (Z : State) (a0 : Array Value) (hw : ∀ d ∈ tables_1, d.before a0 Z = true) (a : Addr) (p1 : Int32) (h0 : Heap) (E : Exa Z h0 a "org/chronolake/Condition$Operator") (G : Fld Z h0 a "java/lang/Enum" "ordinal" "I" (.int (0 : Int32))) :
    Con l Z (⟨"org/chronolake/Condition$Operator", "holds", "(I)Z"⟩ : MethodName) prog_23_method_5_code 2 (some .boolean) ({ frames := 1, cells := 0, slots := 0, locals := 12 } : Room) #[(.ref a), (.int p1)] h0 (QO0 Z a p1 h0) := by
  refine Con.of pn_10 (fun p e s m below meth c T0 X0 hx hby hml hret hlk hown hnm hZ e0 => ?_)
  replace hown : s.vm.findClass "org/chronolake/Condition$Operator" = some m.cls := hown
  have ef : entryFrame m #[(.ref a), (.int p1)] 2 = mkF m 0 #[.val (.ref a), .val (.int p1)] [] := by first | (simp [entryFrame, mkF, argsToLocals, Value.category]; done) | rfl
  rw [ef]
  refine o_aloadN (pc' := 1) X0 hx (hb hby d10_0) rfl rfl rfl ?_
  refine o_callU (W := 0) (pc' := 4) (owner := "java/lang/Enum") (y := ⟨"org/chronolake/Condition$Operator", "ordinal", "()I"⟩) (z := ⟨"java/lang/Enum", "ordinal", "()I"⟩) (rm := ({ frames := 0, cells := 0, slots := 0, locals := 0 } : Room)) (argsL := []) (rest := []) X0 hx hZ hown (hw _ (List.mem_of_getElem? (i := 69) rfl)) (hw _ (List.mem_of_getElem? (i := 70) rfl)) (hw _ (List.mem_of_getElem? (i := 71) rfl)) (hw _ (List.mem_of_getElem? (i := 73) rfl)) (hw _ (List.mem_of_getElem? (i := 72) rfl)) (hw _ (List.mem_of_getElem? (i := 74) rfl)) (hw _ (List.mem_of_getElem? (i := 75) rfl)) (by decide) e0 E (rm11 l Z a0 hw a (0 : Int32) h0 G) (by rw [hml]; rfl) pd_11 rfl rfl (hb hby d10_1) rfl (by decide) rfl (by decide) (by decide) (by decide) ?_
  rintro _ T1 L1 ⟨rfl, rfl, e1⟩ X1
  show Ends p e below s (QO0 Z a p1 h0) ({ frames := 1, cells := 0, slots := 0, locals := 12 } : Room).cells ({ frames := 1, cells := 0, slots := 0, locals := 12 } : Room).slots (T1.setTop (mkF m 4 #[.val (.ref a), .val (.int p1)] [(.int (0 : Int32))]))
  refine o_tsw (pc' := 50) (o := 46) X1 hx (hb hby d10_4) (by decide) (by decide) (by decide) (by decide) ?_
  refine o_iloadN (pc' := 51) X1 hx (hb hby d10_50) rfl rfl ?_
  refine o_if_ne (p1 := 54) (p2 := 58) X1 hx (hb hby d10_51) rfl (by decide) (by decide) (fun hc51 => ?_) (fun hc51 => ?_)
  · refine o_iconst (v := (0 : Int32)) (pc' := 59) X1 hx (hb hby d10_58) (by decide) rfl ?_
    refine o_goto (pc' := 107) X1 hx (hb hby d10_59) (by decide) (by decide) ?_
    exact o_retZ X1 hx hlk hret (hb hby d10_107) (by decide) ⟨by simp only [fo0, if_neg hc51], rfl, e1⟩ (by decide) (by decide)
  · refine o_iconst (v := (1 : Int32)) (pc' := 55) X1 hx (hb hby d10_54) (by decide) rfl ?_
    refine o_goto (pc' := 107) X1 hx (hb hby d10_55) (by decide) (by decide) ?_
    exact o_retZ X1 hx hlk hret (hb hby d10_107) (by decide) ⟨by simp only [fo0, if_pos hc51], rfl, e1⟩ (by decide) (by decide)
def fo1 (p1 : Int32) : Int32 := (if p1 < (0 : Int32) then (1 : Int32) else (0 : Int32))
abbrev QO1 (Z : State) (a : Addr) (p1 : Int32) (h0 : Heap) (v : Option Value) (h : Heap) (L : List Loc) : Prop := v = some (.int (fo1 p1)) ∧ L = [] ∧ h = h0
set_option maxRecDepth 65536 in
set_option maxHeartbeats 40000000 in
theorem rmO1 (l : Launch) (Z : State) (a0 : Array Value) (hw : ∀ d ∈ tables_1, d.before a0 Z = true) (a : Addr) (p1 : Int32) (h0 : Heap) (E : Exa Z h0 a "org/chronolake/Condition$Operator") (G : Fld Z h0 a "java/lang/Enum" "ordinal" "I" (.int (1 : Int32))) :
    Con l Z (⟨"org/chronolake/Condition$Operator", "holds", "(I)Z"⟩ : MethodName) prog_23_method_5_code 2 (some .boolean) ({ frames := 1, cells := 0, slots := 0, locals := 12 } : Room) #[(.ref a), (.int p1)] h0 (QO1 Z a p1 h0) := by
  refine Con.of pn_10 (fun p e s m below meth c T0 X0 hx hby hml hret hlk hown hnm hZ e0 => ?_)
  replace hown : s.vm.findClass "org/chronolake/Condition$Operator" = some m.cls := hown
  have ef : entryFrame m #[(.ref a), (.int p1)] 2 = mkF m 0 #[.val (.ref a), .val (.int p1)] [] := by first | (simp [entryFrame, mkF, argsToLocals, Value.category]; done) | rfl
  rw [ef]
  refine o_aloadN (pc' := 1) X0 hx (hb hby d10_0) rfl rfl rfl ?_
  refine o_callU (W := 0) (pc' := 4) (owner := "java/lang/Enum") (y := ⟨"org/chronolake/Condition$Operator", "ordinal", "()I"⟩) (z := ⟨"java/lang/Enum", "ordinal", "()I"⟩) (rm := ({ frames := 0, cells := 0, slots := 0, locals := 0 } : Room)) (argsL := []) (rest := []) X0 hx hZ hown (hw _ (List.mem_of_getElem? (i := 69) rfl)) (hw _ (List.mem_of_getElem? (i := 70) rfl)) (hw _ (List.mem_of_getElem? (i := 71) rfl)) (hw _ (List.mem_of_getElem? (i := 73) rfl)) (hw _ (List.mem_of_getElem? (i := 72) rfl)) (hw _ (List.mem_of_getElem? (i := 74) rfl)) (hw _ (List.mem_of_getElem? (i := 75) rfl)) (by decide) e0 E (rm11 l Z a0 hw a (1 : Int32) h0 G) (by rw [hml]; rfl) pd_11 rfl rfl (hb hby d10_1) rfl (by decide) rfl (by decide) (by decide) (by decide) ?_
  rintro _ T1 L1 ⟨rfl, rfl, e1⟩ X1
  show Ends p e below s (QO1 Z a p1 h0) ({ frames := 1, cells := 0, slots := 0, locals := 12 } : Room).cells ({ frames := 1, cells := 0, slots := 0, locals := 12 } : Room).slots (T1.setTop (mkF m 4 #[.val (.ref a), .val (.int p1)] [(.int (1 : Int32))]))
  refine o_tsw (pc' := 62) (o := 58) X1 hx (hb hby d10_4) (by decide) (by decide) (by decide) (by decide) ?_
  refine o_iloadN (pc' := 63) X1 hx (hb hby d10_62) rfl rfl ?_
  refine o_if_ge (p1 := 66) (p2 := 70) X1 hx (hb hby d10_63) rfl (by decide) (by decide) (fun hc63 => ?_) (fun hc63 => ?_)
  · refine o_iconst (v := (0 : Int32)) (pc' := 71) X1 hx (hb hby d10_70) (by decide) rfl ?_
    refine o_goto (pc' := 107) X1 hx (hb hby d10_71) (by decide) (by decide) ?_
    exact o_retZ X1 hx hlk hret (hb hby d10_107) (by decide) ⟨by simp only [fo1, if_neg hc63], rfl, e1⟩ (by decide) (by decide)
  · refine o_iconst (v := (1 : Int32)) (pc' := 67) X1 hx (hb hby d10_66) (by decide) rfl ?_
    refine o_goto (pc' := 107) X1 hx (hb hby d10_67) (by decide) (by decide) ?_
    exact o_retZ X1 hx hlk hret (hb hby d10_107) (by decide) ⟨by simp only [fo1, if_pos hc63], rfl, e1⟩ (by decide) (by decide)
def fo2 (p1 : Int32) : Int32 := (if (0 : Int32) < p1 then (0 : Int32) else (1 : Int32))
abbrev QO2 (Z : State) (a : Addr) (p1 : Int32) (h0 : Heap) (v : Option Value) (h : Heap) (L : List Loc) : Prop := v = some (.int (fo2 p1)) ∧ L = [] ∧ h = h0
set_option maxRecDepth 65536 in
set_option maxHeartbeats 40000000 in
theorem rmO2 (l : Launch) (Z : State) (a0 : Array Value) (hw : ∀ d ∈ tables_1, d.before a0 Z = true) (a : Addr) (p1 : Int32) (h0 : Heap) (E : Exa Z h0 a "org/chronolake/Condition$Operator") (G : Fld Z h0 a "java/lang/Enum" "ordinal" "I" (.int (2 : Int32))) :
    Con l Z (⟨"org/chronolake/Condition$Operator", "holds", "(I)Z"⟩ : MethodName) prog_23_method_5_code 2 (some .boolean) ({ frames := 1, cells := 0, slots := 0, locals := 12 } : Room) #[(.ref a), (.int p1)] h0 (QO2 Z a p1 h0) := by
  refine Con.of pn_10 (fun p e s m below meth c T0 X0 hx hby hml hret hlk hown hnm hZ e0 => ?_)
  replace hown : s.vm.findClass "org/chronolake/Condition$Operator" = some m.cls := hown
  have ef : entryFrame m #[(.ref a), (.int p1)] 2 = mkF m 0 #[.val (.ref a), .val (.int p1)] [] := by first | (simp [entryFrame, mkF, argsToLocals, Value.category]; done) | rfl
  rw [ef]
  refine o_aloadN (pc' := 1) X0 hx (hb hby d10_0) rfl rfl rfl ?_
  refine o_callU (W := 0) (pc' := 4) (owner := "java/lang/Enum") (y := ⟨"org/chronolake/Condition$Operator", "ordinal", "()I"⟩) (z := ⟨"java/lang/Enum", "ordinal", "()I"⟩) (rm := ({ frames := 0, cells := 0, slots := 0, locals := 0 } : Room)) (argsL := []) (rest := []) X0 hx hZ hown (hw _ (List.mem_of_getElem? (i := 69) rfl)) (hw _ (List.mem_of_getElem? (i := 70) rfl)) (hw _ (List.mem_of_getElem? (i := 71) rfl)) (hw _ (List.mem_of_getElem? (i := 73) rfl)) (hw _ (List.mem_of_getElem? (i := 72) rfl)) (hw _ (List.mem_of_getElem? (i := 74) rfl)) (hw _ (List.mem_of_getElem? (i := 75) rfl)) (by decide) e0 E (rm11 l Z a0 hw a (2 : Int32) h0 G) (by rw [hml]; rfl) pd_11 rfl rfl (hb hby d10_1) rfl (by decide) rfl (by decide) (by decide) (by decide) ?_
  rintro _ T1 L1 ⟨rfl, rfl, e1⟩ X1
  show Ends p e below s (QO2 Z a p1 h0) ({ frames := 1, cells := 0, slots := 0, locals := 12 } : Room).cells ({ frames := 1, cells := 0, slots := 0, locals := 12 } : Room).slots (T1.setTop (mkF m 4 #[.val (.ref a), .val (.int p1)] [(.int (2 : Int32))]))
  refine o_tsw (pc' := 74) (o := 70) X1 hx (hb hby d10_4) (by decide) (by decide) (by decide) (by decide) ?_
  refine o_iloadN (pc' := 75) X1 hx (hb hby d10_74) rfl rfl ?_
  refine o_if_gt (p1 := 78) (p2 := 82) X1 hx (hb hby d10_75) rfl (by decide) (by decide) (fun hc75 => ?_) (fun hc75 => ?_)
  · refine o_iconst (v := (0 : Int32)) (pc' := 83) X1 hx (hb hby d10_82) (by decide) rfl ?_
    refine o_goto (pc' := 107) X1 hx (hb hby d10_83) (by decide) (by decide) ?_
    exact o_retZ X1 hx hlk hret (hb hby d10_107) (by decide) ⟨by simp only [fo2, if_pos hc75], rfl, e1⟩ (by decide) (by decide)
  · refine o_iconst (v := (1 : Int32)) (pc' := 79) X1 hx (hb hby d10_78) (by decide) rfl ?_
    refine o_goto (pc' := 107) X1 hx (hb hby d10_79) (by decide) (by decide) ?_
    exact o_retZ X1 hx hlk hret (hb hby d10_107) (by decide) ⟨by simp only [fo2, if_neg hc75], rfl, e1⟩ (by decide) (by decide)
def fo3 (p1 : Int32) : Int32 := (if (0 : Int32) < p1 then (1 : Int32) else (0 : Int32))
abbrev QO3 (Z : State) (a : Addr) (p1 : Int32) (h0 : Heap) (v : Option Value) (h : Heap) (L : List Loc) : Prop := v = some (.int (fo3 p1)) ∧ L = [] ∧ h = h0
set_option maxRecDepth 65536 in
set_option maxHeartbeats 40000000 in
theorem rmO3 (l : Launch) (Z : State) (a0 : Array Value) (hw : ∀ d ∈ tables_1, d.before a0 Z = true) (a : Addr) (p1 : Int32) (h0 : Heap) (E : Exa Z h0 a "org/chronolake/Condition$Operator") (G : Fld Z h0 a "java/lang/Enum" "ordinal" "I" (.int (3 : Int32))) :
    Con l Z (⟨"org/chronolake/Condition$Operator", "holds", "(I)Z"⟩ : MethodName) prog_23_method_5_code 2 (some .boolean) ({ frames := 1, cells := 0, slots := 0, locals := 12 } : Room) #[(.ref a), (.int p1)] h0 (QO3 Z a p1 h0) := by
  refine Con.of pn_10 (fun p e s m below meth c T0 X0 hx hby hml hret hlk hown hnm hZ e0 => ?_)
  replace hown : s.vm.findClass "org/chronolake/Condition$Operator" = some m.cls := hown
  have ef : entryFrame m #[(.ref a), (.int p1)] 2 = mkF m 0 #[.val (.ref a), .val (.int p1)] [] := by first | (simp [entryFrame, mkF, argsToLocals, Value.category]; done) | rfl
  rw [ef]
  refine o_aloadN (pc' := 1) X0 hx (hb hby d10_0) rfl rfl rfl ?_
  refine o_callU (W := 0) (pc' := 4) (owner := "java/lang/Enum") (y := ⟨"org/chronolake/Condition$Operator", "ordinal", "()I"⟩) (z := ⟨"java/lang/Enum", "ordinal", "()I"⟩) (rm := ({ frames := 0, cells := 0, slots := 0, locals := 0 } : Room)) (argsL := []) (rest := []) X0 hx hZ hown (hw _ (List.mem_of_getElem? (i := 69) rfl)) (hw _ (List.mem_of_getElem? (i := 70) rfl)) (hw _ (List.mem_of_getElem? (i := 71) rfl)) (hw _ (List.mem_of_getElem? (i := 73) rfl)) (hw _ (List.mem_of_getElem? (i := 72) rfl)) (hw _ (List.mem_of_getElem? (i := 74) rfl)) (hw _ (List.mem_of_getElem? (i := 75) rfl)) (by decide) e0 E (rm11 l Z a0 hw a (3 : Int32) h0 G) (by rw [hml]; rfl) pd_11 rfl rfl (hb hby d10_1) rfl (by decide) rfl (by decide) (by decide) (by decide) ?_
  rintro _ T1 L1 ⟨rfl, rfl, e1⟩ X1
  show Ends p e below s (QO3 Z a p1 h0) ({ frames := 1, cells := 0, slots := 0, locals := 12 } : Room).cells ({ frames := 1, cells := 0, slots := 0, locals := 12 } : Room).slots (T1.setTop (mkF m 4 #[.val (.ref a), .val (.int p1)] [(.int (3 : Int32))]))
  refine o_tsw (pc' := 86) (o := 82) X1 hx (hb hby d10_4) (by decide) (by decide) (by decide) (by decide) ?_
  refine o_iloadN (pc' := 87) X1 hx (hb hby d10_86) rfl rfl ?_
  refine o_if_le (p1 := 90) (p2 := 94) X1 hx (hb hby d10_87) rfl (by decide) (by decide) (fun hc87 => ?_) (fun hc87 => ?_)
  · refine o_iconst (v := (0 : Int32)) (pc' := 95) X1 hx (hb hby d10_94) (by decide) rfl ?_
    refine o_goto (pc' := 107) X1 hx (hb hby d10_95) (by decide) (by decide) ?_
    exact o_retZ X1 hx hlk hret (hb hby d10_107) (by decide) ⟨by simp only [fo3, if_neg hc87], rfl, e1⟩ (by decide) (by decide)
  · refine o_iconst (v := (1 : Int32)) (pc' := 91) X1 hx (hb hby d10_90) (by decide) rfl ?_
    refine o_goto (pc' := 107) X1 hx (hb hby d10_91) (by decide) (by decide) ?_
    exact o_retZ X1 hx hlk hret (hb hby d10_107) (by decide) ⟨by simp only [fo3, if_pos hc87], rfl, e1⟩ (by decide) (by decide)
def fo4 (p1 : Int32) : Int32 := (if p1 < (0 : Int32) then (0 : Int32) else (1 : Int32))
abbrev QO4 (Z : State) (a : Addr) (p1 : Int32) (h0 : Heap) (v : Option Value) (h : Heap) (L : List Loc) : Prop := v = some (.int (fo4 p1)) ∧ L = [] ∧ h = h0
set_option maxRecDepth 65536 in
set_option maxHeartbeats 40000000 in
theorem rmO4 (l : Launch) (Z : State) (a0 : Array Value) (hw : ∀ d ∈ tables_1, d.before a0 Z = true) (a : Addr) (p1 : Int32) (h0 : Heap) (E : Exa Z h0 a "org/chronolake/Condition$Operator") (G : Fld Z h0 a "java/lang/Enum" "ordinal" "I" (.int (4 : Int32))) :
    Con l Z (⟨"org/chronolake/Condition$Operator", "holds", "(I)Z"⟩ : MethodName) prog_23_method_5_code 2 (some .boolean) ({ frames := 1, cells := 0, slots := 0, locals := 12 } : Room) #[(.ref a), (.int p1)] h0 (QO4 Z a p1 h0) := by
  refine Con.of pn_10 (fun p e s m below meth c T0 X0 hx hby hml hret hlk hown hnm hZ e0 => ?_)
  replace hown : s.vm.findClass "org/chronolake/Condition$Operator" = some m.cls := hown
  have ef : entryFrame m #[(.ref a), (.int p1)] 2 = mkF m 0 #[.val (.ref a), .val (.int p1)] [] := by first | (simp [entryFrame, mkF, argsToLocals, Value.category]; done) | rfl
  rw [ef]
  refine o_aloadN (pc' := 1) X0 hx (hb hby d10_0) rfl rfl rfl ?_
  refine o_callU (W := 0) (pc' := 4) (owner := "java/lang/Enum") (y := ⟨"org/chronolake/Condition$Operator", "ordinal", "()I"⟩) (z := ⟨"java/lang/Enum", "ordinal", "()I"⟩) (rm := ({ frames := 0, cells := 0, slots := 0, locals := 0 } : Room)) (argsL := []) (rest := []) X0 hx hZ hown (hw _ (List.mem_of_getElem? (i := 69) rfl)) (hw _ (List.mem_of_getElem? (i := 70) rfl)) (hw _ (List.mem_of_getElem? (i := 71) rfl)) (hw _ (List.mem_of_getElem? (i := 73) rfl)) (hw _ (List.mem_of_getElem? (i := 72) rfl)) (hw _ (List.mem_of_getElem? (i := 74) rfl)) (hw _ (List.mem_of_getElem? (i := 75) rfl)) (by decide) e0 E (rm11 l Z a0 hw a (4 : Int32) h0 G) (by rw [hml]; rfl) pd_11 rfl rfl (hb hby d10_1) rfl (by decide) rfl (by decide) (by decide) (by decide) ?_
  rintro _ T1 L1 ⟨rfl, rfl, e1⟩ X1
  show Ends p e below s (QO4 Z a p1 h0) ({ frames := 1, cells := 0, slots := 0, locals := 12 } : Room).cells ({ frames := 1, cells := 0, slots := 0, locals := 12 } : Room).slots (T1.setTop (mkF m 4 #[.val (.ref a), .val (.int p1)] [(.int (4 : Int32))]))
  refine o_tsw (pc' := 98) (o := 94) X1 hx (hb hby d10_4) (by decide) (by decide) (by decide) (by decide) ?_
  refine o_iloadN (pc' := 99) X1 hx (hb hby d10_98) rfl rfl ?_
  refine o_if_lt (p1 := 102) (p2 := 106) X1 hx (hb hby d10_99) rfl (by decide) (by decide) (fun hc99 => ?_) (fun hc99 => ?_)
  · refine o_iconst (v := (0 : Int32)) (pc' := 107) X1 hx (hb hby d10_106) (by decide) rfl ?_
    exact o_retZ X1 hx hlk hret (hb hby d10_107) (by decide) ⟨by simp only [fo4, if_pos hc99], rfl, e1⟩ (by decide) (by decide)
  · refine o_iconst (v := (1 : Int32)) (pc' := 103) X1 hx (hb hby d10_102) (by decide) rfl ?_
    refine o_goto (pc' := 107) X1 hx (hb hby d10_103) (by decide) (by decide) ?_
    exact o_retZ X1 hx hlk hret (hb hby d10_107) (by decide) ⟨by simp only [fo4, if_neg hc99], rfl, e1⟩ (by decide) (by decide)
abbrev Q0 (Z : State) (p1 p2 cs : Int32) (vf : Value) (o0 s0 b0 : Addr) (cl0 : Cell) (g0 : Nat → Int32) (o1 s1 b1 : Addr) (cl1 : Cell) (g1 : Nat → Int32) (o2 s2 b2 : Addr) (cl2 : Cell) (g2 : Nat → Int32) (o3 s3 b3 : Addr) (cl3 : Cell) (g3 : Nat → Int32) (o4 s4 b4 : Addr) (cl4 : Cell) (g4 : Nat → Int32) (h0 : Heap) (v : Option Value) (h : Heap) (L : List Loc) : Prop := v = some (.int (1 : Int32)) ∧ Fr h0.size L
set_option maxRecDepth 65536 in
set_option maxHeartbeats 40000000 in
theorem rm0 (l : Launch) (Z : State) (a0 : Array Value) (hw : ∀ d ∈ tables_1, d.before a0 Z = true) (p1 p2 cs : Int32) (vf : Value) (o0 s0 b0 : Addr) (cl0 : Cell) (g0 : Nat → Int32) (o1 s1 b1 : Addr) (cl1 : Cell) (g1 : Nat → Int32) (o2 s2 b2 : Addr) (cl2 : Cell) (g2 : Nat → Int32) (o3 s3 b3 : Addr) (cl3 : Cell) (g3 : Nat → Int32) (o4 s4 b4 : Addr) (cl4 : Cell) (g4 : Nat → Int32) (h0 : Heap) (S1 : Sta Z h0 "java/lang/String" "COMPACT_STRINGS" "Z" (.int cs)) (hcs : ¬ cs = 0) (hvf : vf.isRef = true) (S2 : Sta Z h0 "jdk/internal/util/Preconditions" "SIOOBE_FORMATTER" "Ljava/util/function/BiFunction;" vf) (U0 : Sta Z h0 "org/chronolake/Condition$Operator" "EQUAL" "Lorg/chronolake/Condition$Operator;" (.ref o0)) (E0 : Exa Z h0 o0 "org/chronolake/Condition$Operator") (Y0 : Fld Z h0 o0 "org/chronolake/Condition$Operator" "symbol" "Ljava/lang/String;" (.ref s0)) (G0 : Fld Z h0 o0 "java/lang/Enum" "ordinal" "I" (.int (0 : Int32))) (D0 : Exa Z h0 s0 "java/lang/String") (V0 : Fld Z h0 s0 "java/lang/String" "value" "[B" (.ref b0)) (H0 : Fld Z h0 s0 "java/lang/String" "coder" "B" (.int (0 : Int32))) (A0 : Arr Z h0 b0 cl0 .byte) (C0 : Cont cl0 1 (fun k => .int (g0 k))) (B0_0 : g0 0 = 61) (U1 : Sta Z h0 "org/chronolake/Condition$Operator" "LESS" "Lorg/chronolake/Condition$Operator;" (.ref o1)) (E1 : Exa Z h0 o1 "org/chronolake/Condition$Operator") (Y1 : Fld Z h0 o1 "org/chronolake/Condition$Operator" "symbol" "Ljava/lang/String;" (.ref s1)) (G1 : Fld Z h0 o1 "java/lang/Enum" "ordinal" "I" (.int (1 : Int32))) (D1 : Exa Z h0 s1 "java/lang/String") (V1 : Fld Z h0 s1 "java/lang/String" "value" "[B" (.ref b1)) (H1 : Fld Z h0 s1 "java/lang/String" "coder" "B" (.int (0 : Int32))) (A1 : Arr Z h0 b1 cl1 .byte) (C1 : Cont cl1 1 (fun k => .int (g1 k))) (B1_0 : g1 0 = 60) (U2 : Sta Z h0 "org/chronolake/Condition$Operator" "LESS_OR_EQUAL" "Lorg/chronolake/Condition$Operator;" (.ref o2)) (E2 : Exa Z h0 o2 "org/chronolake/Condition$Operator") (Y2 : Fld Z h0 o2 "org/chronolake/Condition$Operator" "symbol" "Ljava/lang/String;" (.ref s2)) (G2 : Fld Z h0 o2 "java/lang/Enum" "ordinal" "I" (.int (2 : Int32))) (D2 : Exa Z h0 s2 "java/lang/String") (V2 : Fld Z h0 s2 "java/lang/String" "value" "[B" (.ref b2)) (H2 : Fld Z h0 s2 "java/lang/String" "coder" "B" (.int (0 : Int32))) (A2 : Arr Z h0 b2 cl2 .byte) (C2 : Cont cl2 2 (fun k => .int (g2 k))) (B2_0 : g2 0 = 60) (B2_1 : g2 1 = 61) (U3 : Sta Z h0 "org/chronolake/Condition$Operator" "GREATER" "Lorg/chronolake/Condition$Operator;" (.ref o3)) (E3 : Exa Z h0 o3 "org/chronolake/Condition$Operator") (Y3 : Fld Z h0 o3 "org/chronolake/Condition$Operator" "symbol" "Ljava/lang/String;" (.ref s3)) (G3 : Fld Z h0 o3 "java/lang/Enum" "ordinal" "I" (.int (3 : Int32))) (D3 : Exa Z h0 s3 "java/lang/String") (V3 : Fld Z h0 s3 "java/lang/String" "value" "[B" (.ref b3)) (H3 : Fld Z h0 s3 "java/lang/String" "coder" "B" (.int (0 : Int32))) (A3 : Arr Z h0 b3 cl3 .byte) (C3 : Cont cl3 1 (fun k => .int (g3 k))) (B3_0 : g3 0 = 62) (U4 : Sta Z h0 "org/chronolake/Condition$Operator" "GREATER_OR_EQUAL" "Lorg/chronolake/Condition$Operator;" (.ref o4)) (E4 : Exa Z h0 o4 "org/chronolake/Condition$Operator") (Y4 : Fld Z h0 o4 "org/chronolake/Condition$Operator" "symbol" "Ljava/lang/String;" (.ref s4)) (G4 : Fld Z h0 o4 "java/lang/Enum" "ordinal" "I" (.int (4 : Int32))) (D4 : Exa Z h0 s4 "java/lang/String") (V4 : Fld Z h0 s4 "java/lang/String" "value" "[B" (.ref b4)) (H4 : Fld Z h0 s4 "java/lang/String" "coder" "B" (.int (0 : Int32))) (A4 : Arr Z h0 b4 cl4 .byte) (C4 : Cont cl4 2 (fun k => .int (g4 k))) (B4_0 : g4 0 = 62) (B4_1 : g4 1 = 61)  :
    Con l Z x code maxLocals ret room_1 #[(.int p1), (.int p2)] h0 (Q0 Z p1 p2 cs vf o0 s0 b0 cl0 g0 o1 s1 b1 cl1 g1 o2 s2 b2 cl2 g2 o3 s3 b3 cl3 g3 o4 s4 b4 cl4 g4 h0) := by
  refine Con.of pn_0 (fun p e s m below meth c T0 X0 hx hby hml hret hlk hown hnm hZ e0 => ?_)
  replace hown : s.vm.findClass "org/chronolake/OperatorHoldsPinLaw" = some m.cls := hown
  have ef : entryFrame m #[(.int p1), (.int p2)] maxLocals = mkF m 0 #[.val (.int p1), .val (.int p2), .unset, .unset, .unset, .unset, .unset, .unset, .unset] [] := by first | (simp [entryFrame, mkF, argsToLocals, Value.category, maxLocals]; done) | rfl
  rw [ef]
  refine o_iconst (v := (5 : Int32)) (pc' := 1) X0 hx (hb hby at_0) (by decide) rfl ?_
  refine o_anewarr (pc' := 4) (cap := 5) X0 hx hZ hown (hw _ (List.mem_of_getElem? (i := 0) rfl)) (hw _ (List.mem_of_getElem? (i := 1) rfl)) e0 (hb hby at_1) rfl (by decide) (by decide) (by decide) (by decide) (by decide) ?_
  intro Tn hn cA ta gta en En At Ot Xn
  have gt' : h0.size ≤ ta := Nat.le_of_eq gta.symm
  have N := Fr.nil h0.size
  have K := (Keep.refl h0 []).ext En
  have Ct := Cont.new cA (.object "org/chronolake/Condition$Operator") (5 : Int32) 5 (by decide)
  refine o_dup (pc' := 5) Xn hx (hb hby at_4) rfl rfl ?_
  refine o_iconst (v := (0 : Int32)) (pc' := 6) Xn hx (hb hby at_5) (by decide) rfl ?_
  refine o_getS (pc' := 9) Xn hx hZ hown (hw _ (List.mem_of_getElem? (i := 2) rfl)) Via.refl en (own_staK0 U0 K) (hb hby at_6) rfl ?_
  intro T6 e6 X6
  refine o_aastore (pc' := 10) X6 hx hZ e6 At (Ct.inb (by decide) (by decide)) rfl (Sto.of At (C := "org/chronolake/Condition$Operator") (by exact Ot) (Ins.self (E0.keep K))) (hb hby at_9) rfl ?_
  intro T9' h9' e9' W9' X9'
  have A9' := Arr.same W9' At
  have C9' := Ct.put (Int32.toNatClampNeg (0 : Int32)) (.ref o0)
  replace N := Fr.snoc X9' N gt'
  replace K := K.wr W9' (Or.inr gt')
  refine o_dup (pc' := 11) X9' hx (hb hby at_10) rfl rfl ?_
  refine o_iconst (v := (1 : Int32)) (pc' := 12) X9' hx (hb hby at_11) (by decide) rfl ?_
  refine o_getS (pc' := 15) X9' hx hZ hown (hw _ (List.mem_of_getElem? (i := 6) rfl)) Via.refl e9' (own_staK0 U1 K) (hb hby at_12) rfl ?_
  intro T12 e12 X12
  refine o_aastore (pc' := 16) X12 hx hZ e12 A9' (C9'.inb (by decide) (by decide)) rfl (Sto.of A9' (C := "org/chronolake/Condition$Operator") (by exact Ot) (Ins.self (E1.keep K))) (hb hby at_15) rfl ?_
  intro T15' h15' e15' W15' X15'
  have A15' := Arr.same W15' A9'
  have C15' := C9'.put (Int32.toNatClampNeg (1 : Int32)) (.ref o1)
  replace N := Fr.snoc X15' N gt'
  replace K := K.wr W15' (Or.inr gt')
  refine o_dup (pc' := 17) X15' hx (hb hby at_16) rfl rfl ?_
  refine o_iconst (v := (2 : Int32)) (pc' := 18) X15' hx (hb hby at_17) (by decide) rfl ?_
  refine o_getS (pc' := 21) X15' hx hZ hown (hw _ (List.mem_of_getElem? (i := 8) rfl)) Via.refl e15' (own_staK0 U2 K) (hb hby at_18) rfl ?_
  intro T18 e18 X18
  refine o_aastore (pc' := 22) X18 hx hZ e18 A15' (C15'.inb (by decide) (by decide)) rfl (Sto.of A15' (C := "org/chronolake/Condition$Operator") (by exact Ot) (Ins.self (E2.keep K))) (hb hby at_21) rfl ?_
  intro T21' h21' e21' W21' X21'
  have A21' := Arr.same W21' A15'
  have C21' := C15'.put (Int32.toNatClampNeg (2 : Int32)) (.ref o2)
  replace N := Fr.snoc X21' N gt'
  replace K := K.wr W21' (Or.inr gt')
  refine o_dup (pc' := 23) X21' hx (hb hby at_22) rfl rfl ?_
  refine o_iconst (v := (3 : Int32)) (pc' := 24) X21' hx (hb hby at_23) (by decide) rfl ?_
  refine o_getS (pc' := 27) X21' hx hZ hown (hw _ (List.mem_of_getElem? (i := 10) rfl)) Via.refl e21' (own_staK0 U3 K) (hb hby at_24) rfl ?_
  intro T24 e24 X24
  refine o_aastore (pc' := 28) X24 hx hZ e24 A21' (C21'.inb (by decide) (by decide)) rfl (Sto.of A21' (C := "org/chronolake/Condition$Operator") (by exact Ot) (Ins.self (E3.keep K))) (hb hby at_27) rfl ?_
  intro T27' h27' e27' W27' X27'
  have A27' := Arr.same W27' A21'
  have C27' := C21'.put (Int32.toNatClampNeg (3 : Int32)) (.ref o3)
  replace N := Fr.snoc X27' N gt'
  replace K := K.wr W27' (Or.inr gt')
  refine o_dup (pc' := 29) X27' hx (hb hby at_28) rfl rfl ?_
  refine o_iconst (v := (4 : Int32)) (pc' := 30) X27' hx (hb hby at_29) (by decide) rfl ?_
  refine o_getS (pc' := 33) X27' hx hZ hown (hw _ (List.mem_of_getElem? (i := 12) rfl)) Via.refl e27' (own_staK0 U4 K) (hb hby at_30) rfl ?_
  intro T30 e30 X30
  refine o_aastore (pc' := 34) X30 hx hZ e30 A27' (C27'.inb (by decide) (by decide)) rfl (Sto.of A27' (C := "org/chronolake/Condition$Operator") (by exact Ot) (Ins.self (E4.keep K))) (hb hby at_33) rfl ?_
  intro T33' h33' e33' W33' X33'
  have A33' := Arr.same W33' A27'
  have C33' := C27'.put (Int32.toNatClampNeg (4 : Int32)) (.ref o4)
  replace N := Fr.snoc X33' N gt'
  replace K := K.wr W33' (Or.inr gt')
  refine o_astoreN (Ls' := #[.val (.int p1), .val (.int p2), .val (.ref ta), .unset, .unset, .unset, .unset, .unset, .unset]) (pc' := 35) X33' hx (hb hby at_34) rfl rfl rfl ?_
  refine o_aloadN (pc' := 36) X33' hx (hb hby at_35) rfl rfl rfl ?_
  refine o_iloadN (pc' := 37) X33' hx (hb hby at_36) rfl rfl ?_
  refine o_ldc (pc' := 39) (v := (2147483647 : Int32)) X33' hx (hb hby at_37) hZ hown (hw _ (List.mem_of_getElem? (i := 14) rfl)) rfl ?_
  refine o_iand (pc' := 40) X33' hx (hb hby at_39) rfl ?_
  refine o_iconst (v := (5 : Int32)) (pc' := 41) X33' hx (hb hby at_40) (by decide) rfl ?_
  refine o_irem (pc' := 42) X33' hx (hb hby at_41) (by decide) rfl ?_
  generalize hj : (p1 &&& (2147483647 : Int32)) % (5 : Int32) = j
  have rj := own_rem (p1 &&& 2147483647) 5 5 (by decide) (by decide) (own_mask31 p1)
  rw [hj] at rj
  replace E0 := E0.keep K
  replace D0 := D0.keep K
  replace A0 := own_arrK0 A0 K
  replace Y0 := Y0.keep K nin0
  replace G0 := G0.keep K nin0
  replace V0 := V0.keep K nin0
  replace H0 := H0.keep K nin0
  replace E1 := E1.keep K
  replace D1 := D1.keep K
  replace A1 := own_arrK0 A1 K
  replace Y1 := Y1.keep K nin0
  replace G1 := G1.keep K nin0
  replace V1 := V1.keep K nin0
  replace H1 := H1.keep K nin0
  replace E2 := E2.keep K
  replace D2 := D2.keep K
  replace A2 := own_arrK0 A2 K
  replace Y2 := Y2.keep K nin0
  replace G2 := G2.keep K nin0
  replace V2 := V2.keep K nin0
  replace H2 := H2.keep K nin0
  replace E3 := E3.keep K
  replace D3 := D3.keep K
  replace A3 := own_arrK0 A3 K
  replace Y3 := Y3.keep K nin0
  replace G3 := G3.keep K nin0
  replace V3 := V3.keep K nin0
  replace H3 := H3.keep K nin0
  replace E4 := E4.keep K
  replace D4 := D4.keep K
  replace A4 := own_arrK0 A4 K
  replace Y4 := Y4.keep K nin0
  replace G4 := G4.keep K nin0
  replace V4 := V4.keep K nin0
  replace H4 := H4.keep K nin0
  replace S1 := own_staK0 S1 K
  replace S2 := own_staK0 S2 K
  rcases (own_s5 j rj.1 rj.2) with rfl | rfl | rfl | rfl | rfl
  · refine o_aaload (pc' := 43) (v := .ref o0) X33' hx hZ e33' A33' rfl (C33'.inb (by decide) (by decide)) ((C33'.at (j := (0 : Int32)) (by decide) (by decide)).trans rfl) (hb hby at_42) rfl ?_
    refine o_astoreN (Ls' := #[.val (.int p1), .val (.int p2), .val (.ref ta), .val (.ref o0), .unset, .unset, .unset, .unset, .unset]) (pc' := 44) X33' hx (hb hby at_43) rfl rfl rfl ?_
    refine o_aloadN (pc' := 45) X33' hx (hb hby at_44) rfl rfl rfl ?_
    refine o_callV (W := 0) (pc' := 48) (rm := ({ frames := 0, cells := 0, slots := 0, locals := 0 } : Room)) (argsL := []) (rest := []) X33' hx hZ hown (hw _ (List.mem_of_getElem? (i := 15) rfl)) (hw _ (List.mem_of_getElem? (i := 16) rfl)) (hw _ (List.mem_of_getElem? (i := 18) rfl)) (hw _ (List.mem_of_getElem? (i := 17) rfl)) (hw _ (List.mem_of_getElem? (i := 3) rfl)) (hw _ (List.mem_of_getElem? (i := 19) rfl)) (by decide) e33' E0 (rm1 l Z a0 hw o0 s0 h33' Y0) (by rw [hml]; rfl) pd_1 rfl rfl (hb hby at_45) rfl (by decide) rfl (by decide) (by decide) (by decide) ?_
    rintro _ T45 L45 ⟨rfl, rfl, e45⟩ X45
    show Ends p e below s (Q0 Z p1 p2 cs vf o0 s0 b0 cl0 g0 o1 s1 b1 cl1 g1 o2 s2 b2 cl2 g2 o3 s3 b3 cl3 g3 o4 s4 b4 cl4 g4 h0) room_1.cells room_1.slots (T45.setTop (mkF m 48 #[.val (.int p1), .val (.int p2), .val (.ref ta), .val (.ref o0), .unset, .unset, .unset, .unset, .unset] [(.ref s0)]))
    refine o_astore (Ls' := #[.val (.int p1), .val (.int p2), .val (.ref ta), .val (.ref o0), .val (.ref s0), .unset, .unset, .unset, .unset]) (pc' := 50) X45 hx (hb hby at_48) rfl rfl rfl ?_
    refine o_aload (pc' := 52) X45 hx (hb hby at_50) rfl rfl rfl ?_
    refine o_bipush (v := (60 : Int32)) (pc' := 54) X45 hx (hb hby at_52) (by decide) rfl ?_
    refine o_callS (W := 0) (pc' := 57) (rm := ({ frames := 4, cells := 0, slots := 0, locals := 53 } : Room)) (argsL := [(.ref s0), (.int (60 : Int32))]) (rest := []) X45 hx hZ hown (hw _ (List.mem_of_getElem? (i := 22) rfl)) (hw _ (List.mem_of_getElem? (i := 23) rfl)) (hw _ (List.mem_of_getElem? (i := 24) rfl)) (hw _ (List.mem_of_getElem? (i := 25) rfl)) (by decide) e45 (rmH1 l Z a0 hw s0 b0 (60 : Int32) cs vf cl0 g0 h33' S1 hcs hvf S2 D0 V0 H0 A0 C0) (by rw [hml]; rfl) pd_2 rfl rfl (hb hby at_54) rfl (by decide) rfl (by decide) (by decide) (by decide) ?_
    rintro _ T54 L54 ⟨rfl, rfl, e54⟩ X54
    show Ends p e below s (Q0 Z p1 p2 cs vf o0 s0 b0 cl0 g0 o1 s1 b1 cl1 g1 o2 s2 b2 cl2 g2 o3 s3 b3 cl3 g3 o4 s4 b4 cl4 g4 h0) room_1.cells room_1.slots (T54.setTop (mkF m 57 #[.val (.int p1), .val (.int p2), .val (.ref ta), .val (.ref o0), .val (.ref s0), .unset, .unset, .unset, .unset] [(.int (fh1 g0 (60 : Int32)))]))
    rw [show fh1 g0 (60 : Int32) = (0 : Int32) from by simp only [fh1, B0_0]; decide]
    refine o_istore (Ls' := #[.val (.int p1), .val (.int p2), .val (.ref ta), .val (.ref o0), .val (.ref s0), .val (.int (0 : Int32)), .unset, .unset, .unset]) (pc' := 59) X54 hx (hb hby at_57) rfl rfl ?_
    refine o_aload (pc' := 61) X54 hx (hb hby at_59) rfl rfl rfl ?_
    refine o_bipush (v := (61 : Int32)) (pc' := 63) X54 hx (hb hby at_61) (by decide) rfl ?_
    refine o_callS (W := 0) (pc' := 66) (rm := ({ frames := 4, cells := 0, slots := 0, locals := 53 } : Room)) (argsL := [(.ref s0), (.int (61 : Int32))]) (rest := []) X54 hx hZ hown (hw _ (List.mem_of_getElem? (i := 22) rfl)) (hw _ (List.mem_of_getElem? (i := 23) rfl)) (hw _ (List.mem_of_getElem? (i := 24) rfl)) (hw _ (List.mem_of_getElem? (i := 25) rfl)) (by decide) e54 (rmH1 l Z a0 hw s0 b0 (61 : Int32) cs vf cl0 g0 h33' S1 hcs hvf S2 D0 V0 H0 A0 C0) (by rw [hml]; rfl) pd_2 rfl rfl (hb hby at_63) rfl (by decide) rfl (by decide) (by decide) (by decide) ?_
    rintro _ T63 L63 ⟨rfl, rfl, e63⟩ X63
    show Ends p e below s (Q0 Z p1 p2 cs vf o0 s0 b0 cl0 g0 o1 s1 b1 cl1 g1 o2 s2 b2 cl2 g2 o3 s3 b3 cl3 g3 o4 s4 b4 cl4 g4 h0) room_1.cells room_1.slots (T63.setTop (mkF m 66 #[.val (.int p1), .val (.int p2), .val (.ref ta), .val (.ref o0), .val (.ref s0), .val (.int (0 : Int32)), .unset, .unset, .unset] [(.int (fh1 g0 (61 : Int32)))]))
    rw [show fh1 g0 (61 : Int32) = (1 : Int32) from by simp only [fh1, B0_0]; decide]
    refine o_istore (Ls' := #[.val (.int p1), .val (.int p2), .val (.ref ta), .val (.ref o0), .val (.ref s0), .val (.int (0 : Int32)), .val (.int (1 : Int32)), .unset, .unset]) (pc' := 68) X63 hx (hb hby at_66) rfl rfl ?_
    refine o_aload (pc' := 70) X63 hx (hb hby at_68) rfl rfl rfl ?_
    refine o_bipush (v := (62 : Int32)) (pc' := 72) X63 hx (hb hby at_70) (by decide) rfl ?_
    refine o_callS (W := 0) (pc' := 75) (rm := ({ frames := 4, cells := 0, slots := 0, locals := 53 } : Room)) (argsL := [(.ref s0), (.int (62 : Int32))]) (rest := []) X63 hx hZ hown (hw _ (List.mem_of_getElem? (i := 22) rfl)) (hw _ (List.mem_of_getElem? (i := 23) rfl)) (hw _ (List.mem_of_getElem? (i := 24) rfl)) (hw _ (List.mem_of_getElem? (i := 25) rfl)) (by decide) e63 (rmH1 l Z a0 hw s0 b0 (62 : Int32) cs vf cl0 g0 h33' S1 hcs hvf S2 D0 V0 H0 A0 C0) (by rw [hml]; rfl) pd_2 rfl rfl (hb hby at_72) rfl (by decide) rfl (by decide) (by decide) (by decide) ?_
    rintro _ T72 L72 ⟨rfl, rfl, e72⟩ X72
    show Ends p e below s (Q0 Z p1 p2 cs vf o0 s0 b0 cl0 g0 o1 s1 b1 cl1 g1 o2 s2 b2 cl2 g2 o3 s3 b3 cl3 g3 o4 s4 b4 cl4 g4 h0) room_1.cells room_1.slots (T72.setTop (mkF m 75 #[.val (.int p1), .val (.int p2), .val (.ref ta), .val (.ref o0), .val (.ref s0), .val (.int (0 : Int32)), .val (.int (1 : Int32)), .unset, .unset] [(.int (fh1 g0 (62 : Int32)))]))
    rw [show fh1 g0 (62 : Int32) = (0 : Int32) from by simp only [fh1, B0_0]; decide]
    refine o_istore (Ls' := #[.val (.int p1), .val (.int p2), .val (.ref ta), .val (.ref o0), .val (.ref s0), .val (.int (0 : Int32)), .val (.int (1 : Int32)), .val (.int (0 : Int32)), .unset]) (pc' := 77) X72 hx (hb hby at_75) rfl rfl ?_
    refine o_iloadN (pc' := 78) X72 hx (hb hby at_77) rfl rfl ?_
    refine o_if_ge (p1 := 81) (p2 := 88) X72 hx (hb hby at_78) rfl (by decide) (by decide) (fun hc78 => ?_) (fun hc78 => ?_)
    · refine o_iloadN (pc' := 89) X72 hx (hb hby at_88) rfl rfl ?_
      refine o_if_ne (p1 := 92) (p2 := 99) X72 hx (hb hby at_89) rfl (by decide) (by decide) (fun hc89 => ?_) (fun hc89 => ?_)
      · have l2 : 0 < p2 := Int32.lt_iff_toInt_lt.mpr (by have q1 : ¬ p2.toInt < (0 : Int32).toInt := fun q => hc78 (Int32.lt_iff_toInt_lt.mpr q); have q2 : ¬ p2.toInt = (0 : Int32).toInt := fun q => hc89 (Int32.toInt_inj.mp q); omega)
        refine o_iload (pc' := 101) X72 hx (hb hby at_99) rfl rfl ?_
        refine o_istore (Ls' := #[.val (.int p1), .val (.int p2), .val (.ref ta), .val (.ref o0), .val (.ref s0), .val (.int (0 : Int32)), .val (.int (1 : Int32)), .val (.int (0 : Int32)), .val (.int (0 : Int32))]) (pc' := 103) X72 hx (hb hby at_101) rfl rfl ?_
        refine o_aloadN (pc' := 104) X72 hx (hb hby at_103) rfl rfl rfl ?_
        refine o_iloadN (pc' := 105) X72 hx (hb hby at_104) rfl rfl ?_
        refine o_callV (W := 0) (pc' := 108) (rm := ({ frames := 1, cells := 0, slots := 0, locals := 12 } : Room)) (argsL := [(.int p2)]) (rest := []) X72 hx hZ hown (hw _ (List.mem_of_getElem? (i := 64) rfl)) (hw _ (List.mem_of_getElem? (i := 65) rfl)) (hw _ (List.mem_of_getElem? (i := 67) rfl)) (hw _ (List.mem_of_getElem? (i := 66) rfl)) (hw _ (List.mem_of_getElem? (i := 3) rfl)) (hw _ (List.mem_of_getElem? (i := 68) rfl)) (by decide) e72 E0 (rmO0 l Z a0 hw o0 p2 h33' E0 G0) (by rw [hml]; rfl) pd_10 rfl rfl (hb hby at_105) rfl (by decide) rfl (by decide) (by decide) (by decide) ?_
        rintro _ T105 L105 ⟨rfl, rfl, e105⟩ X105
        show Ends p e below s (Q0 Z p1 p2 cs vf o0 s0 b0 cl0 g0 o1 s1 b1 cl1 g1 o2 s2 b2 cl2 g2 o3 s3 b3 cl3 g3 o4 s4 b4 cl4 g4 h0) room_1.cells room_1.slots (T105.setTop (mkF m 108 #[.val (.int p1), .val (.int p2), .val (.ref ta), .val (.ref o0), .val (.ref s0), .val (.int (0 : Int32)), .val (.int (1 : Int32)), .val (.int (0 : Int32)), .val (.int (0 : Int32))] [(.int (fo0 p2))]))
        refine o_iload (pc' := 110) X105 hx (hb hby at_108) rfl rfl ?_
        refine o_icmp_ne (p1 := 113) (p2 := 117) X105 hx (hb hby at_110) rfl (by decide) (by decide) (fun hc110 => absurd (by simp only [fo0, if_neg hc78, if_neg hc89, if_pos l2]) hc110) (fun hc110 => ?_)
        refine o_iconst (v := (1 : Int32)) (pc' := 114) X105 hx (hb hby at_113) (by decide) rfl ?_
        refine o_goto (pc' := 118) X105 hx (hb hby at_114) (by decide) (by decide) ?_
        exact o_retZ X105 hx hlk hret (hb hby at_118) (by decide) ⟨rfl, by first | exact N | simpa using N⟩ (by decide) (by decide)
      · have l2 : ¬ 0 < p2 := fun q => by subst hc89; exact absurd q (by decide)
        refine o_iload (pc' := 94) X72 hx (hb hby at_92) rfl rfl ?_
        refine o_istore (Ls' := #[.val (.int p1), .val (.int p2), .val (.ref ta), .val (.ref o0), .val (.ref s0), .val (.int (0 : Int32)), .val (.int (1 : Int32)), .val (.int (0 : Int32)), .val (.int (1 : Int32))]) (pc' := 96) X72 hx (hb hby at_94) rfl rfl ?_
        refine o_goto (pc' := 103) X72 hx (hb hby at_96) (by decide) (by decide) ?_
        refine o_aloadN (pc' := 104) X72 hx (hb hby at_103) rfl rfl rfl ?_
        refine o_iloadN (pc' := 105) X72 hx (hb hby at_104) rfl rfl ?_
        refine o_callV (W := 0) (pc' := 108) (rm := ({ frames := 1, cells := 0, slots := 0, locals := 12 } : Room)) (argsL := [(.int p2)]) (rest := []) X72 hx hZ hown (hw _ (List.mem_of_getElem? (i := 64) rfl)) (hw _ (List.mem_of_getElem? (i := 65) rfl)) (hw _ (List.mem_of_getElem? (i := 67) rfl)) (hw _ (List.mem_of_getElem? (i := 66) rfl)) (hw _ (List.mem_of_getElem? (i := 3) rfl)) (hw _ (List.mem_of_getElem? (i := 68) rfl)) (by decide) e72 E0 (rmO0 l Z a0 hw o0 p2 h33' E0 G0) (by rw [hml]; rfl) pd_10 rfl rfl (hb hby at_105) rfl (by decide) rfl (by decide) (by decide) (by decide) ?_
        rintro _ T105 L105 ⟨rfl, rfl, e105⟩ X105
        show Ends p e below s (Q0 Z p1 p2 cs vf o0 s0 b0 cl0 g0 o1 s1 b1 cl1 g1 o2 s2 b2 cl2 g2 o3 s3 b3 cl3 g3 o4 s4 b4 cl4 g4 h0) room_1.cells room_1.slots (T105.setTop (mkF m 108 #[.val (.int p1), .val (.int p2), .val (.ref ta), .val (.ref o0), .val (.ref s0), .val (.int (0 : Int32)), .val (.int (1 : Int32)), .val (.int (0 : Int32)), .val (.int (1 : Int32))] [(.int (fo0 p2))]))
        refine o_iload (pc' := 110) X105 hx (hb hby at_108) rfl rfl ?_
        refine o_icmp_ne (p1 := 113) (p2 := 117) X105 hx (hb hby at_110) rfl (by decide) (by decide) (fun hc110 => absurd (by simp only [fo0, if_neg hc78, if_pos hc89, if_neg l2]) hc110) (fun hc110 => ?_)
        refine o_iconst (v := (1 : Int32)) (pc' := 114) X105 hx (hb hby at_113) (by decide) rfl ?_
        refine o_goto (pc' := 118) X105 hx (hb hby at_114) (by decide) (by decide) ?_
        exact o_retZ X105 hx hlk hret (hb hby at_118) (by decide) ⟨rfl, by first | exact N | simpa using N⟩ (by decide) (by decide)
    · have l1 : ¬ p2 = 0 := fun q => by subst q; exact absurd hc78 (by decide)
      have l2 : ¬ 0 < p2 := fun q => by have := Int32.lt_iff_toInt_lt.mp q; have := Int32.lt_iff_toInt_lt.mp hc78; omega
      refine o_iload (pc' := 83) X72 hx (hb hby at_81) rfl rfl ?_
      refine o_istore (Ls' := #[.val (.int p1), .val (.int p2), .val (.ref ta), .val (.ref o0), .val (.ref s0), .val (.int (0 : Int32)), .val (.int (1 : Int32)), .val (.int (0 : Int32)), .val (.int (0 : Int32))]) (pc' := 85) X72 hx (hb hby at_83) rfl rfl ?_
      refine o_goto (pc' := 103) X72 hx (hb hby at_85) (by decide) (by decide) ?_
      refine o_aloadN (pc' := 104) X72 hx (hb hby at_103) rfl rfl rfl ?_
      refine o_iloadN (pc' := 105) X72 hx (hb hby at_104) rfl rfl ?_
      refine o_callV (W := 0) (pc' := 108) (rm := ({ frames := 1, cells := 0, slots := 0, locals := 12 } : Room)) (argsL := [(.int p2)]) (rest := []) X72 hx hZ hown (hw _ (List.mem_of_getElem? (i := 64) rfl)) (hw _ (List.mem_of_getElem? (i := 65) rfl)) (hw _ (List.mem_of_getElem? (i := 67) rfl)) (hw _ (List.mem_of_getElem? (i := 66) rfl)) (hw _ (List.mem_of_getElem? (i := 3) rfl)) (hw _ (List.mem_of_getElem? (i := 68) rfl)) (by decide) e72 E0 (rmO0 l Z a0 hw o0 p2 h33' E0 G0) (by rw [hml]; rfl) pd_10 rfl rfl (hb hby at_105) rfl (by decide) rfl (by decide) (by decide) (by decide) ?_
      rintro _ T105 L105 ⟨rfl, rfl, e105⟩ X105
      show Ends p e below s (Q0 Z p1 p2 cs vf o0 s0 b0 cl0 g0 o1 s1 b1 cl1 g1 o2 s2 b2 cl2 g2 o3 s3 b3 cl3 g3 o4 s4 b4 cl4 g4 h0) room_1.cells room_1.slots (T105.setTop (mkF m 108 #[.val (.int p1), .val (.int p2), .val (.ref ta), .val (.ref o0), .val (.ref s0), .val (.int (0 : Int32)), .val (.int (1 : Int32)), .val (.int (0 : Int32)), .val (.int (0 : Int32))] [(.int (fo0 p2))]))
      refine o_iload (pc' := 110) X105 hx (hb hby at_108) rfl rfl ?_
      refine o_icmp_ne (p1 := 113) (p2 := 117) X105 hx (hb hby at_110) rfl (by decide) (by decide) (fun hc110 => absurd (by simp only [fo0, if_pos hc78, if_neg l1, if_neg l2]) hc110) (fun hc110 => ?_)
      refine o_iconst (v := (1 : Int32)) (pc' := 114) X105 hx (hb hby at_113) (by decide) rfl ?_
      refine o_goto (pc' := 118) X105 hx (hb hby at_114) (by decide) (by decide) ?_
      exact o_retZ X105 hx hlk hret (hb hby at_118) (by decide) ⟨rfl, by first | exact N | simpa using N⟩ (by decide) (by decide)
  · refine o_aaload (pc' := 43) (v := .ref o1) X33' hx hZ e33' A33' rfl (C33'.inb (by decide) (by decide)) ((C33'.at (j := (1 : Int32)) (by decide) (by decide)).trans rfl) (hb hby at_42) rfl ?_
    refine o_astoreN (Ls' := #[.val (.int p1), .val (.int p2), .val (.ref ta), .val (.ref o1), .unset, .unset, .unset, .unset, .unset]) (pc' := 44) X33' hx (hb hby at_43) rfl rfl rfl ?_
    refine o_aloadN (pc' := 45) X33' hx (hb hby at_44) rfl rfl rfl ?_
    refine o_callV (W := 0) (pc' := 48) (rm := ({ frames := 0, cells := 0, slots := 0, locals := 0 } : Room)) (argsL := []) (rest := []) X33' hx hZ hown (hw _ (List.mem_of_getElem? (i := 15) rfl)) (hw _ (List.mem_of_getElem? (i := 16) rfl)) (hw _ (List.mem_of_getElem? (i := 18) rfl)) (hw _ (List.mem_of_getElem? (i := 17) rfl)) (hw _ (List.mem_of_getElem? (i := 3) rfl)) (hw _ (List.mem_of_getElem? (i := 19) rfl)) (by decide) e33' E1 (rm1 l Z a0 hw o1 s1 h33' Y1) (by rw [hml]; rfl) pd_1 rfl rfl (hb hby at_45) rfl (by decide) rfl (by decide) (by decide) (by decide) ?_
    rintro _ T45 L45 ⟨rfl, rfl, e45⟩ X45
    show Ends p e below s (Q0 Z p1 p2 cs vf o0 s0 b0 cl0 g0 o1 s1 b1 cl1 g1 o2 s2 b2 cl2 g2 o3 s3 b3 cl3 g3 o4 s4 b4 cl4 g4 h0) room_1.cells room_1.slots (T45.setTop (mkF m 48 #[.val (.int p1), .val (.int p2), .val (.ref ta), .val (.ref o1), .unset, .unset, .unset, .unset, .unset] [(.ref s1)]))
    refine o_astore (Ls' := #[.val (.int p1), .val (.int p2), .val (.ref ta), .val (.ref o1), .val (.ref s1), .unset, .unset, .unset, .unset]) (pc' := 50) X45 hx (hb hby at_48) rfl rfl rfl ?_
    refine o_aload (pc' := 52) X45 hx (hb hby at_50) rfl rfl rfl ?_
    refine o_bipush (v := (60 : Int32)) (pc' := 54) X45 hx (hb hby at_52) (by decide) rfl ?_
    refine o_callS (W := 0) (pc' := 57) (rm := ({ frames := 4, cells := 0, slots := 0, locals := 53 } : Room)) (argsL := [(.ref s1), (.int (60 : Int32))]) (rest := []) X45 hx hZ hown (hw _ (List.mem_of_getElem? (i := 22) rfl)) (hw _ (List.mem_of_getElem? (i := 23) rfl)) (hw _ (List.mem_of_getElem? (i := 24) rfl)) (hw _ (List.mem_of_getElem? (i := 25) rfl)) (by decide) e45 (rmH1 l Z a0 hw s1 b1 (60 : Int32) cs vf cl1 g1 h33' S1 hcs hvf S2 D1 V1 H1 A1 C1) (by rw [hml]; rfl) pd_2 rfl rfl (hb hby at_54) rfl (by decide) rfl (by decide) (by decide) (by decide) ?_
    rintro _ T54 L54 ⟨rfl, rfl, e54⟩ X54
    show Ends p e below s (Q0 Z p1 p2 cs vf o0 s0 b0 cl0 g0 o1 s1 b1 cl1 g1 o2 s2 b2 cl2 g2 o3 s3 b3 cl3 g3 o4 s4 b4 cl4 g4 h0) room_1.cells room_1.slots (T54.setTop (mkF m 57 #[.val (.int p1), .val (.int p2), .val (.ref ta), .val (.ref o1), .val (.ref s1), .unset, .unset, .unset, .unset] [(.int (fh1 g1 (60 : Int32)))]))
    rw [show fh1 g1 (60 : Int32) = (1 : Int32) from by simp only [fh1, B1_0]; decide]
    refine o_istore (Ls' := #[.val (.int p1), .val (.int p2), .val (.ref ta), .val (.ref o1), .val (.ref s1), .val (.int (1 : Int32)), .unset, .unset, .unset]) (pc' := 59) X54 hx (hb hby at_57) rfl rfl ?_
    refine o_aload (pc' := 61) X54 hx (hb hby at_59) rfl rfl rfl ?_
    refine o_bipush (v := (61 : Int32)) (pc' := 63) X54 hx (hb hby at_61) (by decide) rfl ?_
    refine o_callS (W := 0) (pc' := 66) (rm := ({ frames := 4, cells := 0, slots := 0, locals := 53 } : Room)) (argsL := [(.ref s1), (.int (61 : Int32))]) (rest := []) X54 hx hZ hown (hw _ (List.mem_of_getElem? (i := 22) rfl)) (hw _ (List.mem_of_getElem? (i := 23) rfl)) (hw _ (List.mem_of_getElem? (i := 24) rfl)) (hw _ (List.mem_of_getElem? (i := 25) rfl)) (by decide) e54 (rmH1 l Z a0 hw s1 b1 (61 : Int32) cs vf cl1 g1 h33' S1 hcs hvf S2 D1 V1 H1 A1 C1) (by rw [hml]; rfl) pd_2 rfl rfl (hb hby at_63) rfl (by decide) rfl (by decide) (by decide) (by decide) ?_
    rintro _ T63 L63 ⟨rfl, rfl, e63⟩ X63
    show Ends p e below s (Q0 Z p1 p2 cs vf o0 s0 b0 cl0 g0 o1 s1 b1 cl1 g1 o2 s2 b2 cl2 g2 o3 s3 b3 cl3 g3 o4 s4 b4 cl4 g4 h0) room_1.cells room_1.slots (T63.setTop (mkF m 66 #[.val (.int p1), .val (.int p2), .val (.ref ta), .val (.ref o1), .val (.ref s1), .val (.int (1 : Int32)), .unset, .unset, .unset] [(.int (fh1 g1 (61 : Int32)))]))
    rw [show fh1 g1 (61 : Int32) = (0 : Int32) from by simp only [fh1, B1_0]; decide]
    refine o_istore (Ls' := #[.val (.int p1), .val (.int p2), .val (.ref ta), .val (.ref o1), .val (.ref s1), .val (.int (1 : Int32)), .val (.int (0 : Int32)), .unset, .unset]) (pc' := 68) X63 hx (hb hby at_66) rfl rfl ?_
    refine o_aload (pc' := 70) X63 hx (hb hby at_68) rfl rfl rfl ?_
    refine o_bipush (v := (62 : Int32)) (pc' := 72) X63 hx (hb hby at_70) (by decide) rfl ?_
    refine o_callS (W := 0) (pc' := 75) (rm := ({ frames := 4, cells := 0, slots := 0, locals := 53 } : Room)) (argsL := [(.ref s1), (.int (62 : Int32))]) (rest := []) X63 hx hZ hown (hw _ (List.mem_of_getElem? (i := 22) rfl)) (hw _ (List.mem_of_getElem? (i := 23) rfl)) (hw _ (List.mem_of_getElem? (i := 24) rfl)) (hw _ (List.mem_of_getElem? (i := 25) rfl)) (by decide) e63 (rmH1 l Z a0 hw s1 b1 (62 : Int32) cs vf cl1 g1 h33' S1 hcs hvf S2 D1 V1 H1 A1 C1) (by rw [hml]; rfl) pd_2 rfl rfl (hb hby at_72) rfl (by decide) rfl (by decide) (by decide) (by decide) ?_
    rintro _ T72 L72 ⟨rfl, rfl, e72⟩ X72
    show Ends p e below s (Q0 Z p1 p2 cs vf o0 s0 b0 cl0 g0 o1 s1 b1 cl1 g1 o2 s2 b2 cl2 g2 o3 s3 b3 cl3 g3 o4 s4 b4 cl4 g4 h0) room_1.cells room_1.slots (T72.setTop (mkF m 75 #[.val (.int p1), .val (.int p2), .val (.ref ta), .val (.ref o1), .val (.ref s1), .val (.int (1 : Int32)), .val (.int (0 : Int32)), .unset, .unset] [(.int (fh1 g1 (62 : Int32)))]))
    rw [show fh1 g1 (62 : Int32) = (0 : Int32) from by simp only [fh1, B1_0]; decide]
    refine o_istore (Ls' := #[.val (.int p1), .val (.int p2), .val (.ref ta), .val (.ref o1), .val (.ref s1), .val (.int (1 : Int32)), .val (.int (0 : Int32)), .val (.int (0 : Int32)), .unset]) (pc' := 77) X72 hx (hb hby at_75) rfl rfl ?_
    refine o_iloadN (pc' := 78) X72 hx (hb hby at_77) rfl rfl ?_
    refine o_if_ge (p1 := 81) (p2 := 88) X72 hx (hb hby at_78) rfl (by decide) (by decide) (fun hc78 => ?_) (fun hc78 => ?_)
    · refine o_iloadN (pc' := 89) X72 hx (hb hby at_88) rfl rfl ?_
      refine o_if_ne (p1 := 92) (p2 := 99) X72 hx (hb hby at_89) rfl (by decide) (by decide) (fun hc89 => ?_) (fun hc89 => ?_)
      · have l2 : 0 < p2 := Int32.lt_iff_toInt_lt.mpr (by have q1 : ¬ p2.toInt < (0 : Int32).toInt := fun q => hc78 (Int32.lt_iff_toInt_lt.mpr q); have q2 : ¬ p2.toInt = (0 : Int32).toInt := fun q => hc89 (Int32.toInt_inj.mp q); omega)
        refine o_iload (pc' := 101) X72 hx (hb hby at_99) rfl rfl ?_
        refine o_istore (Ls' := #[.val (.int p1), .val (.int p2), .val (.ref ta), .val (.ref o1), .val (.ref s1), .val (.int (1 : Int32)), .val (.int (0 : Int32)), .val (.int (0 : Int32)), .val (.int (0 : Int32))]) (pc' := 103) X72 hx (hb hby at_101) rfl rfl ?_
        refine o_aloadN (pc' := 104) X72 hx (hb hby at_103) rfl rfl rfl ?_
        refine o_iloadN (pc' := 105) X72 hx (hb hby at_104) rfl rfl ?_
        refine o_callV (W := 0) (pc' := 108) (rm := ({ frames := 1, cells := 0, slots := 0, locals := 12 } : Room)) (argsL := [(.int p2)]) (rest := []) X72 hx hZ hown (hw _ (List.mem_of_getElem? (i := 64) rfl)) (hw _ (List.mem_of_getElem? (i := 65) rfl)) (hw _ (List.mem_of_getElem? (i := 67) rfl)) (hw _ (List.mem_of_getElem? (i := 66) rfl)) (hw _ (List.mem_of_getElem? (i := 3) rfl)) (hw _ (List.mem_of_getElem? (i := 68) rfl)) (by decide) e72 E1 (rmO1 l Z a0 hw o1 p2 h33' E1 G1) (by rw [hml]; rfl) pd_10 rfl rfl (hb hby at_105) rfl (by decide) rfl (by decide) (by decide) (by decide) ?_
        rintro _ T105 L105 ⟨rfl, rfl, e105⟩ X105
        show Ends p e below s (Q0 Z p1 p2 cs vf o0 s0 b0 cl0 g0 o1 s1 b1 cl1 g1 o2 s2 b2 cl2 g2 o3 s3 b3 cl3 g3 o4 s4 b4 cl4 g4 h0) room_1.cells room_1.slots (T105.setTop (mkF m 108 #[.val (.int p1), .val (.int p2), .val (.ref ta), .val (.ref o1), .val (.ref s1), .val (.int (1 : Int32)), .val (.int (0 : Int32)), .val (.int (0 : Int32)), .val (.int (0 : Int32))] [(.int (fo1 p2))]))
        refine o_iload (pc' := 110) X105 hx (hb hby at_108) rfl rfl ?_
        refine o_icmp_ne (p1 := 113) (p2 := 117) X105 hx (hb hby at_110) rfl (by decide) (by decide) (fun hc110 => absurd (by simp only [fo1, if_neg hc78, if_neg hc89, if_pos l2]) hc110) (fun hc110 => ?_)
        refine o_iconst (v := (1 : Int32)) (pc' := 114) X105 hx (hb hby at_113) (by decide) rfl ?_
        refine o_goto (pc' := 118) X105 hx (hb hby at_114) (by decide) (by decide) ?_
        exact o_retZ X105 hx hlk hret (hb hby at_118) (by decide) ⟨rfl, by first | exact N | simpa using N⟩ (by decide) (by decide)
      · have l2 : ¬ 0 < p2 := fun q => by subst hc89; exact absurd q (by decide)
        refine o_iload (pc' := 94) X72 hx (hb hby at_92) rfl rfl ?_
        refine o_istore (Ls' := #[.val (.int p1), .val (.int p2), .val (.ref ta), .val (.ref o1), .val (.ref s1), .val (.int (1 : Int32)), .val (.int (0 : Int32)), .val (.int (0 : Int32)), .val (.int (0 : Int32))]) (pc' := 96) X72 hx (hb hby at_94) rfl rfl ?_
        refine o_goto (pc' := 103) X72 hx (hb hby at_96) (by decide) (by decide) ?_
        refine o_aloadN (pc' := 104) X72 hx (hb hby at_103) rfl rfl rfl ?_
        refine o_iloadN (pc' := 105) X72 hx (hb hby at_104) rfl rfl ?_
        refine o_callV (W := 0) (pc' := 108) (rm := ({ frames := 1, cells := 0, slots := 0, locals := 12 } : Room)) (argsL := [(.int p2)]) (rest := []) X72 hx hZ hown (hw _ (List.mem_of_getElem? (i := 64) rfl)) (hw _ (List.mem_of_getElem? (i := 65) rfl)) (hw _ (List.mem_of_getElem? (i := 67) rfl)) (hw _ (List.mem_of_getElem? (i := 66) rfl)) (hw _ (List.mem_of_getElem? (i := 3) rfl)) (hw _ (List.mem_of_getElem? (i := 68) rfl)) (by decide) e72 E1 (rmO1 l Z a0 hw o1 p2 h33' E1 G1) (by rw [hml]; rfl) pd_10 rfl rfl (hb hby at_105) rfl (by decide) rfl (by decide) (by decide) (by decide) ?_
        rintro _ T105 L105 ⟨rfl, rfl, e105⟩ X105
        show Ends p e below s (Q0 Z p1 p2 cs vf o0 s0 b0 cl0 g0 o1 s1 b1 cl1 g1 o2 s2 b2 cl2 g2 o3 s3 b3 cl3 g3 o4 s4 b4 cl4 g4 h0) room_1.cells room_1.slots (T105.setTop (mkF m 108 #[.val (.int p1), .val (.int p2), .val (.ref ta), .val (.ref o1), .val (.ref s1), .val (.int (1 : Int32)), .val (.int (0 : Int32)), .val (.int (0 : Int32)), .val (.int (0 : Int32))] [(.int (fo1 p2))]))
        refine o_iload (pc' := 110) X105 hx (hb hby at_108) rfl rfl ?_
        refine o_icmp_ne (p1 := 113) (p2 := 117) X105 hx (hb hby at_110) rfl (by decide) (by decide) (fun hc110 => absurd (by simp only [fo1, if_neg hc78, if_pos hc89, if_neg l2]) hc110) (fun hc110 => ?_)
        refine o_iconst (v := (1 : Int32)) (pc' := 114) X105 hx (hb hby at_113) (by decide) rfl ?_
        refine o_goto (pc' := 118) X105 hx (hb hby at_114) (by decide) (by decide) ?_
        exact o_retZ X105 hx hlk hret (hb hby at_118) (by decide) ⟨rfl, by first | exact N | simpa using N⟩ (by decide) (by decide)
    · have l1 : ¬ p2 = 0 := fun q => by subst q; exact absurd hc78 (by decide)
      have l2 : ¬ 0 < p2 := fun q => by have := Int32.lt_iff_toInt_lt.mp q; have := Int32.lt_iff_toInt_lt.mp hc78; omega
      refine o_iload (pc' := 83) X72 hx (hb hby at_81) rfl rfl ?_
      refine o_istore (Ls' := #[.val (.int p1), .val (.int p2), .val (.ref ta), .val (.ref o1), .val (.ref s1), .val (.int (1 : Int32)), .val (.int (0 : Int32)), .val (.int (0 : Int32)), .val (.int (1 : Int32))]) (pc' := 85) X72 hx (hb hby at_83) rfl rfl ?_
      refine o_goto (pc' := 103) X72 hx (hb hby at_85) (by decide) (by decide) ?_
      refine o_aloadN (pc' := 104) X72 hx (hb hby at_103) rfl rfl rfl ?_
      refine o_iloadN (pc' := 105) X72 hx (hb hby at_104) rfl rfl ?_
      refine o_callV (W := 0) (pc' := 108) (rm := ({ frames := 1, cells := 0, slots := 0, locals := 12 } : Room)) (argsL := [(.int p2)]) (rest := []) X72 hx hZ hown (hw _ (List.mem_of_getElem? (i := 64) rfl)) (hw _ (List.mem_of_getElem? (i := 65) rfl)) (hw _ (List.mem_of_getElem? (i := 67) rfl)) (hw _ (List.mem_of_getElem? (i := 66) rfl)) (hw _ (List.mem_of_getElem? (i := 3) rfl)) (hw _ (List.mem_of_getElem? (i := 68) rfl)) (by decide) e72 E1 (rmO1 l Z a0 hw o1 p2 h33' E1 G1) (by rw [hml]; rfl) pd_10 rfl rfl (hb hby at_105) rfl (by decide) rfl (by decide) (by decide) (by decide) ?_
      rintro _ T105 L105 ⟨rfl, rfl, e105⟩ X105
      show Ends p e below s (Q0 Z p1 p2 cs vf o0 s0 b0 cl0 g0 o1 s1 b1 cl1 g1 o2 s2 b2 cl2 g2 o3 s3 b3 cl3 g3 o4 s4 b4 cl4 g4 h0) room_1.cells room_1.slots (T105.setTop (mkF m 108 #[.val (.int p1), .val (.int p2), .val (.ref ta), .val (.ref o1), .val (.ref s1), .val (.int (1 : Int32)), .val (.int (0 : Int32)), .val (.int (0 : Int32)), .val (.int (1 : Int32))] [(.int (fo1 p2))]))
      refine o_iload (pc' := 110) X105 hx (hb hby at_108) rfl rfl ?_
      refine o_icmp_ne (p1 := 113) (p2 := 117) X105 hx (hb hby at_110) rfl (by decide) (by decide) (fun hc110 => absurd (by simp only [fo1, if_pos hc78, if_neg l1, if_neg l2]) hc110) (fun hc110 => ?_)
      refine o_iconst (v := (1 : Int32)) (pc' := 114) X105 hx (hb hby at_113) (by decide) rfl ?_
      refine o_goto (pc' := 118) X105 hx (hb hby at_114) (by decide) (by decide) ?_
      exact o_retZ X105 hx hlk hret (hb hby at_118) (by decide) ⟨rfl, by first | exact N | simpa using N⟩ (by decide) (by decide)
  · refine o_aaload (pc' := 43) (v := .ref o2) X33' hx hZ e33' A33' rfl (C33'.inb (by decide) (by decide)) ((C33'.at (j := (2 : Int32)) (by decide) (by decide)).trans rfl) (hb hby at_42) rfl ?_
    refine o_astoreN (Ls' := #[.val (.int p1), .val (.int p2), .val (.ref ta), .val (.ref o2), .unset, .unset, .unset, .unset, .unset]) (pc' := 44) X33' hx (hb hby at_43) rfl rfl rfl ?_
    refine o_aloadN (pc' := 45) X33' hx (hb hby at_44) rfl rfl rfl ?_
    refine o_callV (W := 0) (pc' := 48) (rm := ({ frames := 0, cells := 0, slots := 0, locals := 0 } : Room)) (argsL := []) (rest := []) X33' hx hZ hown (hw _ (List.mem_of_getElem? (i := 15) rfl)) (hw _ (List.mem_of_getElem? (i := 16) rfl)) (hw _ (List.mem_of_getElem? (i := 18) rfl)) (hw _ (List.mem_of_getElem? (i := 17) rfl)) (hw _ (List.mem_of_getElem? (i := 3) rfl)) (hw _ (List.mem_of_getElem? (i := 19) rfl)) (by decide) e33' E2 (rm1 l Z a0 hw o2 s2 h33' Y2) (by rw [hml]; rfl) pd_1 rfl rfl (hb hby at_45) rfl (by decide) rfl (by decide) (by decide) (by decide) ?_
    rintro _ T45 L45 ⟨rfl, rfl, e45⟩ X45
    show Ends p e below s (Q0 Z p1 p2 cs vf o0 s0 b0 cl0 g0 o1 s1 b1 cl1 g1 o2 s2 b2 cl2 g2 o3 s3 b3 cl3 g3 o4 s4 b4 cl4 g4 h0) room_1.cells room_1.slots (T45.setTop (mkF m 48 #[.val (.int p1), .val (.int p2), .val (.ref ta), .val (.ref o2), .unset, .unset, .unset, .unset, .unset] [(.ref s2)]))
    refine o_astore (Ls' := #[.val (.int p1), .val (.int p2), .val (.ref ta), .val (.ref o2), .val (.ref s2), .unset, .unset, .unset, .unset]) (pc' := 50) X45 hx (hb hby at_48) rfl rfl rfl ?_
    refine o_aload (pc' := 52) X45 hx (hb hby at_50) rfl rfl rfl ?_
    refine o_bipush (v := (60 : Int32)) (pc' := 54) X45 hx (hb hby at_52) (by decide) rfl ?_
    refine o_callS (W := 0) (pc' := 57) (rm := ({ frames := 4, cells := 0, slots := 0, locals := 53 } : Room)) (argsL := [(.ref s2), (.int (60 : Int32))]) (rest := []) X45 hx hZ hown (hw _ (List.mem_of_getElem? (i := 22) rfl)) (hw _ (List.mem_of_getElem? (i := 23) rfl)) (hw _ (List.mem_of_getElem? (i := 24) rfl)) (hw _ (List.mem_of_getElem? (i := 25) rfl)) (by decide) e45 (rmH2 l Z a0 hw s2 b2 (60 : Int32) cs vf cl2 g2 h33' S1 hcs hvf S2 D2 V2 H2 A2 C2) (by rw [hml]; rfl) pd_2 rfl rfl (hb hby at_54) rfl (by decide) rfl (by decide) (by decide) (by decide) ?_
    rintro _ T54 L54 ⟨rfl, rfl, e54⟩ X54
    show Ends p e below s (Q0 Z p1 p2 cs vf o0 s0 b0 cl0 g0 o1 s1 b1 cl1 g1 o2 s2 b2 cl2 g2 o3 s3 b3 cl3 g3 o4 s4 b4 cl4 g4 h0) room_1.cells room_1.slots (T54.setTop (mkF m 57 #[.val (.int p1), .val (.int p2), .val (.ref ta), .val (.ref o2), .val (.ref s2), .unset, .unset, .unset, .unset] [(.int (fh2 g2 (60 : Int32)))]))
    rw [show fh2 g2 (60 : Int32) = (1 : Int32) from by simp only [fh2, B2_0, B2_1]; decide]
    refine o_istore (Ls' := #[.val (.int p1), .val (.int p2), .val (.ref ta), .val (.ref o2), .val (.ref s2), .val (.int (1 : Int32)), .unset, .unset, .unset]) (pc' := 59) X54 hx (hb hby at_57) rfl rfl ?_
    refine o_aload (pc' := 61) X54 hx (hb hby at_59) rfl rfl rfl ?_
    refine o_bipush (v := (61 : Int32)) (pc' := 63) X54 hx (hb hby at_61) (by decide) rfl ?_
    refine o_callS (W := 0) (pc' := 66) (rm := ({ frames := 4, cells := 0, slots := 0, locals := 53 } : Room)) (argsL := [(.ref s2), (.int (61 : Int32))]) (rest := []) X54 hx hZ hown (hw _ (List.mem_of_getElem? (i := 22) rfl)) (hw _ (List.mem_of_getElem? (i := 23) rfl)) (hw _ (List.mem_of_getElem? (i := 24) rfl)) (hw _ (List.mem_of_getElem? (i := 25) rfl)) (by decide) e54 (rmH2 l Z a0 hw s2 b2 (61 : Int32) cs vf cl2 g2 h33' S1 hcs hvf S2 D2 V2 H2 A2 C2) (by rw [hml]; rfl) pd_2 rfl rfl (hb hby at_63) rfl (by decide) rfl (by decide) (by decide) (by decide) ?_
    rintro _ T63 L63 ⟨rfl, rfl, e63⟩ X63
    show Ends p e below s (Q0 Z p1 p2 cs vf o0 s0 b0 cl0 g0 o1 s1 b1 cl1 g1 o2 s2 b2 cl2 g2 o3 s3 b3 cl3 g3 o4 s4 b4 cl4 g4 h0) room_1.cells room_1.slots (T63.setTop (mkF m 66 #[.val (.int p1), .val (.int p2), .val (.ref ta), .val (.ref o2), .val (.ref s2), .val (.int (1 : Int32)), .unset, .unset, .unset] [(.int (fh2 g2 (61 : Int32)))]))
    rw [show fh2 g2 (61 : Int32) = (1 : Int32) from by simp only [fh2, B2_0, B2_1]; decide]
    refine o_istore (Ls' := #[.val (.int p1), .val (.int p2), .val (.ref ta), .val (.ref o2), .val (.ref s2), .val (.int (1 : Int32)), .val (.int (1 : Int32)), .unset, .unset]) (pc' := 68) X63 hx (hb hby at_66) rfl rfl ?_
    refine o_aload (pc' := 70) X63 hx (hb hby at_68) rfl rfl rfl ?_
    refine o_bipush (v := (62 : Int32)) (pc' := 72) X63 hx (hb hby at_70) (by decide) rfl ?_
    refine o_callS (W := 0) (pc' := 75) (rm := ({ frames := 4, cells := 0, slots := 0, locals := 53 } : Room)) (argsL := [(.ref s2), (.int (62 : Int32))]) (rest := []) X63 hx hZ hown (hw _ (List.mem_of_getElem? (i := 22) rfl)) (hw _ (List.mem_of_getElem? (i := 23) rfl)) (hw _ (List.mem_of_getElem? (i := 24) rfl)) (hw _ (List.mem_of_getElem? (i := 25) rfl)) (by decide) e63 (rmH2 l Z a0 hw s2 b2 (62 : Int32) cs vf cl2 g2 h33' S1 hcs hvf S2 D2 V2 H2 A2 C2) (by rw [hml]; rfl) pd_2 rfl rfl (hb hby at_72) rfl (by decide) rfl (by decide) (by decide) (by decide) ?_
    rintro _ T72 L72 ⟨rfl, rfl, e72⟩ X72
    show Ends p e below s (Q0 Z p1 p2 cs vf o0 s0 b0 cl0 g0 o1 s1 b1 cl1 g1 o2 s2 b2 cl2 g2 o3 s3 b3 cl3 g3 o4 s4 b4 cl4 g4 h0) room_1.cells room_1.slots (T72.setTop (mkF m 75 #[.val (.int p1), .val (.int p2), .val (.ref ta), .val (.ref o2), .val (.ref s2), .val (.int (1 : Int32)), .val (.int (1 : Int32)), .unset, .unset] [(.int (fh2 g2 (62 : Int32)))]))
    rw [show fh2 g2 (62 : Int32) = (0 : Int32) from by simp only [fh2, B2_0, B2_1]; decide]
    refine o_istore (Ls' := #[.val (.int p1), .val (.int p2), .val (.ref ta), .val (.ref o2), .val (.ref s2), .val (.int (1 : Int32)), .val (.int (1 : Int32)), .val (.int (0 : Int32)), .unset]) (pc' := 77) X72 hx (hb hby at_75) rfl rfl ?_
    refine o_iloadN (pc' := 78) X72 hx (hb hby at_77) rfl rfl ?_
    refine o_if_ge (p1 := 81) (p2 := 88) X72 hx (hb hby at_78) rfl (by decide) (by decide) (fun hc78 => ?_) (fun hc78 => ?_)
    · refine o_iloadN (pc' := 89) X72 hx (hb hby at_88) rfl rfl ?_
      refine o_if_ne (p1 := 92) (p2 := 99) X72 hx (hb hby at_89) rfl (by decide) (by decide) (fun hc89 => ?_) (fun hc89 => ?_)
      · have l2 : 0 < p2 := Int32.lt_iff_toInt_lt.mpr (by have q1 : ¬ p2.toInt < (0 : Int32).toInt := fun q => hc78 (Int32.lt_iff_toInt_lt.mpr q); have q2 : ¬ p2.toInt = (0 : Int32).toInt := fun q => hc89 (Int32.toInt_inj.mp q); omega)
        refine o_iload (pc' := 101) X72 hx (hb hby at_99) rfl rfl ?_
        refine o_istore (Ls' := #[.val (.int p1), .val (.int p2), .val (.ref ta), .val (.ref o2), .val (.ref s2), .val (.int (1 : Int32)), .val (.int (1 : Int32)), .val (.int (0 : Int32)), .val (.int (0 : Int32))]) (pc' := 103) X72 hx (hb hby at_101) rfl rfl ?_
        refine o_aloadN (pc' := 104) X72 hx (hb hby at_103) rfl rfl rfl ?_
        refine o_iloadN (pc' := 105) X72 hx (hb hby at_104) rfl rfl ?_
        refine o_callV (W := 0) (pc' := 108) (rm := ({ frames := 1, cells := 0, slots := 0, locals := 12 } : Room)) (argsL := [(.int p2)]) (rest := []) X72 hx hZ hown (hw _ (List.mem_of_getElem? (i := 64) rfl)) (hw _ (List.mem_of_getElem? (i := 65) rfl)) (hw _ (List.mem_of_getElem? (i := 67) rfl)) (hw _ (List.mem_of_getElem? (i := 66) rfl)) (hw _ (List.mem_of_getElem? (i := 3) rfl)) (hw _ (List.mem_of_getElem? (i := 68) rfl)) (by decide) e72 E2 (rmO2 l Z a0 hw o2 p2 h33' E2 G2) (by rw [hml]; rfl) pd_10 rfl rfl (hb hby at_105) rfl (by decide) rfl (by decide) (by decide) (by decide) ?_
        rintro _ T105 L105 ⟨rfl, rfl, e105⟩ X105
        show Ends p e below s (Q0 Z p1 p2 cs vf o0 s0 b0 cl0 g0 o1 s1 b1 cl1 g1 o2 s2 b2 cl2 g2 o3 s3 b3 cl3 g3 o4 s4 b4 cl4 g4 h0) room_1.cells room_1.slots (T105.setTop (mkF m 108 #[.val (.int p1), .val (.int p2), .val (.ref ta), .val (.ref o2), .val (.ref s2), .val (.int (1 : Int32)), .val (.int (1 : Int32)), .val (.int (0 : Int32)), .val (.int (0 : Int32))] [(.int (fo2 p2))]))
        refine o_iload (pc' := 110) X105 hx (hb hby at_108) rfl rfl ?_
        refine o_icmp_ne (p1 := 113) (p2 := 117) X105 hx (hb hby at_110) rfl (by decide) (by decide) (fun hc110 => absurd (by simp only [fo2, if_neg hc78, if_neg hc89, if_pos l2]) hc110) (fun hc110 => ?_)
        refine o_iconst (v := (1 : Int32)) (pc' := 114) X105 hx (hb hby at_113) (by decide) rfl ?_
        refine o_goto (pc' := 118) X105 hx (hb hby at_114) (by decide) (by decide) ?_
        exact o_retZ X105 hx hlk hret (hb hby at_118) (by decide) ⟨rfl, by first | exact N | simpa using N⟩ (by decide) (by decide)
      · have l2 : ¬ 0 < p2 := fun q => by subst hc89; exact absurd q (by decide)
        refine o_iload (pc' := 94) X72 hx (hb hby at_92) rfl rfl ?_
        refine o_istore (Ls' := #[.val (.int p1), .val (.int p2), .val (.ref ta), .val (.ref o2), .val (.ref s2), .val (.int (1 : Int32)), .val (.int (1 : Int32)), .val (.int (0 : Int32)), .val (.int (1 : Int32))]) (pc' := 96) X72 hx (hb hby at_94) rfl rfl ?_
        refine o_goto (pc' := 103) X72 hx (hb hby at_96) (by decide) (by decide) ?_
        refine o_aloadN (pc' := 104) X72 hx (hb hby at_103) rfl rfl rfl ?_
        refine o_iloadN (pc' := 105) X72 hx (hb hby at_104) rfl rfl ?_
        refine o_callV (W := 0) (pc' := 108) (rm := ({ frames := 1, cells := 0, slots := 0, locals := 12 } : Room)) (argsL := [(.int p2)]) (rest := []) X72 hx hZ hown (hw _ (List.mem_of_getElem? (i := 64) rfl)) (hw _ (List.mem_of_getElem? (i := 65) rfl)) (hw _ (List.mem_of_getElem? (i := 67) rfl)) (hw _ (List.mem_of_getElem? (i := 66) rfl)) (hw _ (List.mem_of_getElem? (i := 3) rfl)) (hw _ (List.mem_of_getElem? (i := 68) rfl)) (by decide) e72 E2 (rmO2 l Z a0 hw o2 p2 h33' E2 G2) (by rw [hml]; rfl) pd_10 rfl rfl (hb hby at_105) rfl (by decide) rfl (by decide) (by decide) (by decide) ?_
        rintro _ T105 L105 ⟨rfl, rfl, e105⟩ X105
        show Ends p e below s (Q0 Z p1 p2 cs vf o0 s0 b0 cl0 g0 o1 s1 b1 cl1 g1 o2 s2 b2 cl2 g2 o3 s3 b3 cl3 g3 o4 s4 b4 cl4 g4 h0) room_1.cells room_1.slots (T105.setTop (mkF m 108 #[.val (.int p1), .val (.int p2), .val (.ref ta), .val (.ref o2), .val (.ref s2), .val (.int (1 : Int32)), .val (.int (1 : Int32)), .val (.int (0 : Int32)), .val (.int (1 : Int32))] [(.int (fo2 p2))]))
        refine o_iload (pc' := 110) X105 hx (hb hby at_108) rfl rfl ?_
        refine o_icmp_ne (p1 := 113) (p2 := 117) X105 hx (hb hby at_110) rfl (by decide) (by decide) (fun hc110 => absurd (by simp only [fo2, if_neg hc78, if_pos hc89, if_neg l2]) hc110) (fun hc110 => ?_)
        refine o_iconst (v := (1 : Int32)) (pc' := 114) X105 hx (hb hby at_113) (by decide) rfl ?_
        refine o_goto (pc' := 118) X105 hx (hb hby at_114) (by decide) (by decide) ?_
        exact o_retZ X105 hx hlk hret (hb hby at_118) (by decide) ⟨rfl, by first | exact N | simpa using N⟩ (by decide) (by decide)
    · have l1 : ¬ p2 = 0 := fun q => by subst q; exact absurd hc78 (by decide)
      have l2 : ¬ 0 < p2 := fun q => by have := Int32.lt_iff_toInt_lt.mp q; have := Int32.lt_iff_toInt_lt.mp hc78; omega
      refine o_iload (pc' := 83) X72 hx (hb hby at_81) rfl rfl ?_
      refine o_istore (Ls' := #[.val (.int p1), .val (.int p2), .val (.ref ta), .val (.ref o2), .val (.ref s2), .val (.int (1 : Int32)), .val (.int (1 : Int32)), .val (.int (0 : Int32)), .val (.int (1 : Int32))]) (pc' := 85) X72 hx (hb hby at_83) rfl rfl ?_
      refine o_goto (pc' := 103) X72 hx (hb hby at_85) (by decide) (by decide) ?_
      refine o_aloadN (pc' := 104) X72 hx (hb hby at_103) rfl rfl rfl ?_
      refine o_iloadN (pc' := 105) X72 hx (hb hby at_104) rfl rfl ?_
      refine o_callV (W := 0) (pc' := 108) (rm := ({ frames := 1, cells := 0, slots := 0, locals := 12 } : Room)) (argsL := [(.int p2)]) (rest := []) X72 hx hZ hown (hw _ (List.mem_of_getElem? (i := 64) rfl)) (hw _ (List.mem_of_getElem? (i := 65) rfl)) (hw _ (List.mem_of_getElem? (i := 67) rfl)) (hw _ (List.mem_of_getElem? (i := 66) rfl)) (hw _ (List.mem_of_getElem? (i := 3) rfl)) (hw _ (List.mem_of_getElem? (i := 68) rfl)) (by decide) e72 E2 (rmO2 l Z a0 hw o2 p2 h33' E2 G2) (by rw [hml]; rfl) pd_10 rfl rfl (hb hby at_105) rfl (by decide) rfl (by decide) (by decide) (by decide) ?_
      rintro _ T105 L105 ⟨rfl, rfl, e105⟩ X105
      show Ends p e below s (Q0 Z p1 p2 cs vf o0 s0 b0 cl0 g0 o1 s1 b1 cl1 g1 o2 s2 b2 cl2 g2 o3 s3 b3 cl3 g3 o4 s4 b4 cl4 g4 h0) room_1.cells room_1.slots (T105.setTop (mkF m 108 #[.val (.int p1), .val (.int p2), .val (.ref ta), .val (.ref o2), .val (.ref s2), .val (.int (1 : Int32)), .val (.int (1 : Int32)), .val (.int (0 : Int32)), .val (.int (1 : Int32))] [(.int (fo2 p2))]))
      refine o_iload (pc' := 110) X105 hx (hb hby at_108) rfl rfl ?_
      refine o_icmp_ne (p1 := 113) (p2 := 117) X105 hx (hb hby at_110) rfl (by decide) (by decide) (fun hc110 => absurd (by simp only [fo2, if_pos hc78, if_neg l1, if_neg l2]) hc110) (fun hc110 => ?_)
      refine o_iconst (v := (1 : Int32)) (pc' := 114) X105 hx (hb hby at_113) (by decide) rfl ?_
      refine o_goto (pc' := 118) X105 hx (hb hby at_114) (by decide) (by decide) ?_
      exact o_retZ X105 hx hlk hret (hb hby at_118) (by decide) ⟨rfl, by first | exact N | simpa using N⟩ (by decide) (by decide)
  · refine o_aaload (pc' := 43) (v := .ref o3) X33' hx hZ e33' A33' rfl (C33'.inb (by decide) (by decide)) ((C33'.at (j := (3 : Int32)) (by decide) (by decide)).trans rfl) (hb hby at_42) rfl ?_
    refine o_astoreN (Ls' := #[.val (.int p1), .val (.int p2), .val (.ref ta), .val (.ref o3), .unset, .unset, .unset, .unset, .unset]) (pc' := 44) X33' hx (hb hby at_43) rfl rfl rfl ?_
    refine o_aloadN (pc' := 45) X33' hx (hb hby at_44) rfl rfl rfl ?_
    refine o_callV (W := 0) (pc' := 48) (rm := ({ frames := 0, cells := 0, slots := 0, locals := 0 } : Room)) (argsL := []) (rest := []) X33' hx hZ hown (hw _ (List.mem_of_getElem? (i := 15) rfl)) (hw _ (List.mem_of_getElem? (i := 16) rfl)) (hw _ (List.mem_of_getElem? (i := 18) rfl)) (hw _ (List.mem_of_getElem? (i := 17) rfl)) (hw _ (List.mem_of_getElem? (i := 3) rfl)) (hw _ (List.mem_of_getElem? (i := 19) rfl)) (by decide) e33' E3 (rm1 l Z a0 hw o3 s3 h33' Y3) (by rw [hml]; rfl) pd_1 rfl rfl (hb hby at_45) rfl (by decide) rfl (by decide) (by decide) (by decide) ?_
    rintro _ T45 L45 ⟨rfl, rfl, e45⟩ X45
    show Ends p e below s (Q0 Z p1 p2 cs vf o0 s0 b0 cl0 g0 o1 s1 b1 cl1 g1 o2 s2 b2 cl2 g2 o3 s3 b3 cl3 g3 o4 s4 b4 cl4 g4 h0) room_1.cells room_1.slots (T45.setTop (mkF m 48 #[.val (.int p1), .val (.int p2), .val (.ref ta), .val (.ref o3), .unset, .unset, .unset, .unset, .unset] [(.ref s3)]))
    refine o_astore (Ls' := #[.val (.int p1), .val (.int p2), .val (.ref ta), .val (.ref o3), .val (.ref s3), .unset, .unset, .unset, .unset]) (pc' := 50) X45 hx (hb hby at_48) rfl rfl rfl ?_
    refine o_aload (pc' := 52) X45 hx (hb hby at_50) rfl rfl rfl ?_
    refine o_bipush (v := (60 : Int32)) (pc' := 54) X45 hx (hb hby at_52) (by decide) rfl ?_
    refine o_callS (W := 0) (pc' := 57) (rm := ({ frames := 4, cells := 0, slots := 0, locals := 53 } : Room)) (argsL := [(.ref s3), (.int (60 : Int32))]) (rest := []) X45 hx hZ hown (hw _ (List.mem_of_getElem? (i := 22) rfl)) (hw _ (List.mem_of_getElem? (i := 23) rfl)) (hw _ (List.mem_of_getElem? (i := 24) rfl)) (hw _ (List.mem_of_getElem? (i := 25) rfl)) (by decide) e45 (rmH1 l Z a0 hw s3 b3 (60 : Int32) cs vf cl3 g3 h33' S1 hcs hvf S2 D3 V3 H3 A3 C3) (by rw [hml]; rfl) pd_2 rfl rfl (hb hby at_54) rfl (by decide) rfl (by decide) (by decide) (by decide) ?_
    rintro _ T54 L54 ⟨rfl, rfl, e54⟩ X54
    show Ends p e below s (Q0 Z p1 p2 cs vf o0 s0 b0 cl0 g0 o1 s1 b1 cl1 g1 o2 s2 b2 cl2 g2 o3 s3 b3 cl3 g3 o4 s4 b4 cl4 g4 h0) room_1.cells room_1.slots (T54.setTop (mkF m 57 #[.val (.int p1), .val (.int p2), .val (.ref ta), .val (.ref o3), .val (.ref s3), .unset, .unset, .unset, .unset] [(.int (fh1 g3 (60 : Int32)))]))
    rw [show fh1 g3 (60 : Int32) = (0 : Int32) from by simp only [fh1, B3_0]; decide]
    refine o_istore (Ls' := #[.val (.int p1), .val (.int p2), .val (.ref ta), .val (.ref o3), .val (.ref s3), .val (.int (0 : Int32)), .unset, .unset, .unset]) (pc' := 59) X54 hx (hb hby at_57) rfl rfl ?_
    refine o_aload (pc' := 61) X54 hx (hb hby at_59) rfl rfl rfl ?_
    refine o_bipush (v := (61 : Int32)) (pc' := 63) X54 hx (hb hby at_61) (by decide) rfl ?_
    refine o_callS (W := 0) (pc' := 66) (rm := ({ frames := 4, cells := 0, slots := 0, locals := 53 } : Room)) (argsL := [(.ref s3), (.int (61 : Int32))]) (rest := []) X54 hx hZ hown (hw _ (List.mem_of_getElem? (i := 22) rfl)) (hw _ (List.mem_of_getElem? (i := 23) rfl)) (hw _ (List.mem_of_getElem? (i := 24) rfl)) (hw _ (List.mem_of_getElem? (i := 25) rfl)) (by decide) e54 (rmH1 l Z a0 hw s3 b3 (61 : Int32) cs vf cl3 g3 h33' S1 hcs hvf S2 D3 V3 H3 A3 C3) (by rw [hml]; rfl) pd_2 rfl rfl (hb hby at_63) rfl (by decide) rfl (by decide) (by decide) (by decide) ?_
    rintro _ T63 L63 ⟨rfl, rfl, e63⟩ X63
    show Ends p e below s (Q0 Z p1 p2 cs vf o0 s0 b0 cl0 g0 o1 s1 b1 cl1 g1 o2 s2 b2 cl2 g2 o3 s3 b3 cl3 g3 o4 s4 b4 cl4 g4 h0) room_1.cells room_1.slots (T63.setTop (mkF m 66 #[.val (.int p1), .val (.int p2), .val (.ref ta), .val (.ref o3), .val (.ref s3), .val (.int (0 : Int32)), .unset, .unset, .unset] [(.int (fh1 g3 (61 : Int32)))]))
    rw [show fh1 g3 (61 : Int32) = (0 : Int32) from by simp only [fh1, B3_0]; decide]
    refine o_istore (Ls' := #[.val (.int p1), .val (.int p2), .val (.ref ta), .val (.ref o3), .val (.ref s3), .val (.int (0 : Int32)), .val (.int (0 : Int32)), .unset, .unset]) (pc' := 68) X63 hx (hb hby at_66) rfl rfl ?_
    refine o_aload (pc' := 70) X63 hx (hb hby at_68) rfl rfl rfl ?_
    refine o_bipush (v := (62 : Int32)) (pc' := 72) X63 hx (hb hby at_70) (by decide) rfl ?_
    refine o_callS (W := 0) (pc' := 75) (rm := ({ frames := 4, cells := 0, slots := 0, locals := 53 } : Room)) (argsL := [(.ref s3), (.int (62 : Int32))]) (rest := []) X63 hx hZ hown (hw _ (List.mem_of_getElem? (i := 22) rfl)) (hw _ (List.mem_of_getElem? (i := 23) rfl)) (hw _ (List.mem_of_getElem? (i := 24) rfl)) (hw _ (List.mem_of_getElem? (i := 25) rfl)) (by decide) e63 (rmH1 l Z a0 hw s3 b3 (62 : Int32) cs vf cl3 g3 h33' S1 hcs hvf S2 D3 V3 H3 A3 C3) (by rw [hml]; rfl) pd_2 rfl rfl (hb hby at_72) rfl (by decide) rfl (by decide) (by decide) (by decide) ?_
    rintro _ T72 L72 ⟨rfl, rfl, e72⟩ X72
    show Ends p e below s (Q0 Z p1 p2 cs vf o0 s0 b0 cl0 g0 o1 s1 b1 cl1 g1 o2 s2 b2 cl2 g2 o3 s3 b3 cl3 g3 o4 s4 b4 cl4 g4 h0) room_1.cells room_1.slots (T72.setTop (mkF m 75 #[.val (.int p1), .val (.int p2), .val (.ref ta), .val (.ref o3), .val (.ref s3), .val (.int (0 : Int32)), .val (.int (0 : Int32)), .unset, .unset] [(.int (fh1 g3 (62 : Int32)))]))
    rw [show fh1 g3 (62 : Int32) = (1 : Int32) from by simp only [fh1, B3_0]; decide]
    refine o_istore (Ls' := #[.val (.int p1), .val (.int p2), .val (.ref ta), .val (.ref o3), .val (.ref s3), .val (.int (0 : Int32)), .val (.int (0 : Int32)), .val (.int (1 : Int32)), .unset]) (pc' := 77) X72 hx (hb hby at_75) rfl rfl ?_
    refine o_iloadN (pc' := 78) X72 hx (hb hby at_77) rfl rfl ?_
    refine o_if_ge (p1 := 81) (p2 := 88) X72 hx (hb hby at_78) rfl (by decide) (by decide) (fun hc78 => ?_) (fun hc78 => ?_)
    · refine o_iloadN (pc' := 89) X72 hx (hb hby at_88) rfl rfl ?_
      refine o_if_ne (p1 := 92) (p2 := 99) X72 hx (hb hby at_89) rfl (by decide) (by decide) (fun hc89 => ?_) (fun hc89 => ?_)
      · have l2 : 0 < p2 := Int32.lt_iff_toInt_lt.mpr (by have q1 : ¬ p2.toInt < (0 : Int32).toInt := fun q => hc78 (Int32.lt_iff_toInt_lt.mpr q); have q2 : ¬ p2.toInt = (0 : Int32).toInt := fun q => hc89 (Int32.toInt_inj.mp q); omega)
        refine o_iload (pc' := 101) X72 hx (hb hby at_99) rfl rfl ?_
        refine o_istore (Ls' := #[.val (.int p1), .val (.int p2), .val (.ref ta), .val (.ref o3), .val (.ref s3), .val (.int (0 : Int32)), .val (.int (0 : Int32)), .val (.int (1 : Int32)), .val (.int (1 : Int32))]) (pc' := 103) X72 hx (hb hby at_101) rfl rfl ?_
        refine o_aloadN (pc' := 104) X72 hx (hb hby at_103) rfl rfl rfl ?_
        refine o_iloadN (pc' := 105) X72 hx (hb hby at_104) rfl rfl ?_
        refine o_callV (W := 0) (pc' := 108) (rm := ({ frames := 1, cells := 0, slots := 0, locals := 12 } : Room)) (argsL := [(.int p2)]) (rest := []) X72 hx hZ hown (hw _ (List.mem_of_getElem? (i := 64) rfl)) (hw _ (List.mem_of_getElem? (i := 65) rfl)) (hw _ (List.mem_of_getElem? (i := 67) rfl)) (hw _ (List.mem_of_getElem? (i := 66) rfl)) (hw _ (List.mem_of_getElem? (i := 3) rfl)) (hw _ (List.mem_of_getElem? (i := 68) rfl)) (by decide) e72 E3 (rmO3 l Z a0 hw o3 p2 h33' E3 G3) (by rw [hml]; rfl) pd_10 rfl rfl (hb hby at_105) rfl (by decide) rfl (by decide) (by decide) (by decide) ?_
        rintro _ T105 L105 ⟨rfl, rfl, e105⟩ X105
        show Ends p e below s (Q0 Z p1 p2 cs vf o0 s0 b0 cl0 g0 o1 s1 b1 cl1 g1 o2 s2 b2 cl2 g2 o3 s3 b3 cl3 g3 o4 s4 b4 cl4 g4 h0) room_1.cells room_1.slots (T105.setTop (mkF m 108 #[.val (.int p1), .val (.int p2), .val (.ref ta), .val (.ref o3), .val (.ref s3), .val (.int (0 : Int32)), .val (.int (0 : Int32)), .val (.int (1 : Int32)), .val (.int (1 : Int32))] [(.int (fo3 p2))]))
        refine o_iload (pc' := 110) X105 hx (hb hby at_108) rfl rfl ?_
        refine o_icmp_ne (p1 := 113) (p2 := 117) X105 hx (hb hby at_110) rfl (by decide) (by decide) (fun hc110 => absurd (by simp only [fo3, if_neg hc78, if_neg hc89, if_pos l2]) hc110) (fun hc110 => ?_)
        refine o_iconst (v := (1 : Int32)) (pc' := 114) X105 hx (hb hby at_113) (by decide) rfl ?_
        refine o_goto (pc' := 118) X105 hx (hb hby at_114) (by decide) (by decide) ?_
        exact o_retZ X105 hx hlk hret (hb hby at_118) (by decide) ⟨rfl, by first | exact N | simpa using N⟩ (by decide) (by decide)
      · have l2 : ¬ 0 < p2 := fun q => by subst hc89; exact absurd q (by decide)
        refine o_iload (pc' := 94) X72 hx (hb hby at_92) rfl rfl ?_
        refine o_istore (Ls' := #[.val (.int p1), .val (.int p2), .val (.ref ta), .val (.ref o3), .val (.ref s3), .val (.int (0 : Int32)), .val (.int (0 : Int32)), .val (.int (1 : Int32)), .val (.int (0 : Int32))]) (pc' := 96) X72 hx (hb hby at_94) rfl rfl ?_
        refine o_goto (pc' := 103) X72 hx (hb hby at_96) (by decide) (by decide) ?_
        refine o_aloadN (pc' := 104) X72 hx (hb hby at_103) rfl rfl rfl ?_
        refine o_iloadN (pc' := 105) X72 hx (hb hby at_104) rfl rfl ?_
        refine o_callV (W := 0) (pc' := 108) (rm := ({ frames := 1, cells := 0, slots := 0, locals := 12 } : Room)) (argsL := [(.int p2)]) (rest := []) X72 hx hZ hown (hw _ (List.mem_of_getElem? (i := 64) rfl)) (hw _ (List.mem_of_getElem? (i := 65) rfl)) (hw _ (List.mem_of_getElem? (i := 67) rfl)) (hw _ (List.mem_of_getElem? (i := 66) rfl)) (hw _ (List.mem_of_getElem? (i := 3) rfl)) (hw _ (List.mem_of_getElem? (i := 68) rfl)) (by decide) e72 E3 (rmO3 l Z a0 hw o3 p2 h33' E3 G3) (by rw [hml]; rfl) pd_10 rfl rfl (hb hby at_105) rfl (by decide) rfl (by decide) (by decide) (by decide) ?_
        rintro _ T105 L105 ⟨rfl, rfl, e105⟩ X105
        show Ends p e below s (Q0 Z p1 p2 cs vf o0 s0 b0 cl0 g0 o1 s1 b1 cl1 g1 o2 s2 b2 cl2 g2 o3 s3 b3 cl3 g3 o4 s4 b4 cl4 g4 h0) room_1.cells room_1.slots (T105.setTop (mkF m 108 #[.val (.int p1), .val (.int p2), .val (.ref ta), .val (.ref o3), .val (.ref s3), .val (.int (0 : Int32)), .val (.int (0 : Int32)), .val (.int (1 : Int32)), .val (.int (0 : Int32))] [(.int (fo3 p2))]))
        refine o_iload (pc' := 110) X105 hx (hb hby at_108) rfl rfl ?_
        refine o_icmp_ne (p1 := 113) (p2 := 117) X105 hx (hb hby at_110) rfl (by decide) (by decide) (fun hc110 => absurd (by simp only [fo3, if_neg hc78, if_pos hc89, if_neg l2]) hc110) (fun hc110 => ?_)
        refine o_iconst (v := (1 : Int32)) (pc' := 114) X105 hx (hb hby at_113) (by decide) rfl ?_
        refine o_goto (pc' := 118) X105 hx (hb hby at_114) (by decide) (by decide) ?_
        exact o_retZ X105 hx hlk hret (hb hby at_118) (by decide) ⟨rfl, by first | exact N | simpa using N⟩ (by decide) (by decide)
    · have l1 : ¬ p2 = 0 := fun q => by subst q; exact absurd hc78 (by decide)
      have l2 : ¬ 0 < p2 := fun q => by have := Int32.lt_iff_toInt_lt.mp q; have := Int32.lt_iff_toInt_lt.mp hc78; omega
      refine o_iload (pc' := 83) X72 hx (hb hby at_81) rfl rfl ?_
      refine o_istore (Ls' := #[.val (.int p1), .val (.int p2), .val (.ref ta), .val (.ref o3), .val (.ref s3), .val (.int (0 : Int32)), .val (.int (0 : Int32)), .val (.int (1 : Int32)), .val (.int (0 : Int32))]) (pc' := 85) X72 hx (hb hby at_83) rfl rfl ?_
      refine o_goto (pc' := 103) X72 hx (hb hby at_85) (by decide) (by decide) ?_
      refine o_aloadN (pc' := 104) X72 hx (hb hby at_103) rfl rfl rfl ?_
      refine o_iloadN (pc' := 105) X72 hx (hb hby at_104) rfl rfl ?_
      refine o_callV (W := 0) (pc' := 108) (rm := ({ frames := 1, cells := 0, slots := 0, locals := 12 } : Room)) (argsL := [(.int p2)]) (rest := []) X72 hx hZ hown (hw _ (List.mem_of_getElem? (i := 64) rfl)) (hw _ (List.mem_of_getElem? (i := 65) rfl)) (hw _ (List.mem_of_getElem? (i := 67) rfl)) (hw _ (List.mem_of_getElem? (i := 66) rfl)) (hw _ (List.mem_of_getElem? (i := 3) rfl)) (hw _ (List.mem_of_getElem? (i := 68) rfl)) (by decide) e72 E3 (rmO3 l Z a0 hw o3 p2 h33' E3 G3) (by rw [hml]; rfl) pd_10 rfl rfl (hb hby at_105) rfl (by decide) rfl (by decide) (by decide) (by decide) ?_
      rintro _ T105 L105 ⟨rfl, rfl, e105⟩ X105
      show Ends p e below s (Q0 Z p1 p2 cs vf o0 s0 b0 cl0 g0 o1 s1 b1 cl1 g1 o2 s2 b2 cl2 g2 o3 s3 b3 cl3 g3 o4 s4 b4 cl4 g4 h0) room_1.cells room_1.slots (T105.setTop (mkF m 108 #[.val (.int p1), .val (.int p2), .val (.ref ta), .val (.ref o3), .val (.ref s3), .val (.int (0 : Int32)), .val (.int (0 : Int32)), .val (.int (1 : Int32)), .val (.int (0 : Int32))] [(.int (fo3 p2))]))
      refine o_iload (pc' := 110) X105 hx (hb hby at_108) rfl rfl ?_
      refine o_icmp_ne (p1 := 113) (p2 := 117) X105 hx (hb hby at_110) rfl (by decide) (by decide) (fun hc110 => absurd (by simp only [fo3, if_pos hc78, if_neg l1, if_neg l2]) hc110) (fun hc110 => ?_)
      refine o_iconst (v := (1 : Int32)) (pc' := 114) X105 hx (hb hby at_113) (by decide) rfl ?_
      refine o_goto (pc' := 118) X105 hx (hb hby at_114) (by decide) (by decide) ?_
      exact o_retZ X105 hx hlk hret (hb hby at_118) (by decide) ⟨rfl, by first | exact N | simpa using N⟩ (by decide) (by decide)
  · refine o_aaload (pc' := 43) (v := .ref o4) X33' hx hZ e33' A33' rfl (C33'.inb (by decide) (by decide)) ((C33'.at (j := (4 : Int32)) (by decide) (by decide)).trans rfl) (hb hby at_42) rfl ?_
    refine o_astoreN (Ls' := #[.val (.int p1), .val (.int p2), .val (.ref ta), .val (.ref o4), .unset, .unset, .unset, .unset, .unset]) (pc' := 44) X33' hx (hb hby at_43) rfl rfl rfl ?_
    refine o_aloadN (pc' := 45) X33' hx (hb hby at_44) rfl rfl rfl ?_
    refine o_callV (W := 0) (pc' := 48) (rm := ({ frames := 0, cells := 0, slots := 0, locals := 0 } : Room)) (argsL := []) (rest := []) X33' hx hZ hown (hw _ (List.mem_of_getElem? (i := 15) rfl)) (hw _ (List.mem_of_getElem? (i := 16) rfl)) (hw _ (List.mem_of_getElem? (i := 18) rfl)) (hw _ (List.mem_of_getElem? (i := 17) rfl)) (hw _ (List.mem_of_getElem? (i := 3) rfl)) (hw _ (List.mem_of_getElem? (i := 19) rfl)) (by decide) e33' E4 (rm1 l Z a0 hw o4 s4 h33' Y4) (by rw [hml]; rfl) pd_1 rfl rfl (hb hby at_45) rfl (by decide) rfl (by decide) (by decide) (by decide) ?_
    rintro _ T45 L45 ⟨rfl, rfl, e45⟩ X45
    show Ends p e below s (Q0 Z p1 p2 cs vf o0 s0 b0 cl0 g0 o1 s1 b1 cl1 g1 o2 s2 b2 cl2 g2 o3 s3 b3 cl3 g3 o4 s4 b4 cl4 g4 h0) room_1.cells room_1.slots (T45.setTop (mkF m 48 #[.val (.int p1), .val (.int p2), .val (.ref ta), .val (.ref o4), .unset, .unset, .unset, .unset, .unset] [(.ref s4)]))
    refine o_astore (Ls' := #[.val (.int p1), .val (.int p2), .val (.ref ta), .val (.ref o4), .val (.ref s4), .unset, .unset, .unset, .unset]) (pc' := 50) X45 hx (hb hby at_48) rfl rfl rfl ?_
    refine o_aload (pc' := 52) X45 hx (hb hby at_50) rfl rfl rfl ?_
    refine o_bipush (v := (60 : Int32)) (pc' := 54) X45 hx (hb hby at_52) (by decide) rfl ?_
    refine o_callS (W := 0) (pc' := 57) (rm := ({ frames := 4, cells := 0, slots := 0, locals := 53 } : Room)) (argsL := [(.ref s4), (.int (60 : Int32))]) (rest := []) X45 hx hZ hown (hw _ (List.mem_of_getElem? (i := 22) rfl)) (hw _ (List.mem_of_getElem? (i := 23) rfl)) (hw _ (List.mem_of_getElem? (i := 24) rfl)) (hw _ (List.mem_of_getElem? (i := 25) rfl)) (by decide) e45 (rmH2 l Z a0 hw s4 b4 (60 : Int32) cs vf cl4 g4 h33' S1 hcs hvf S2 D4 V4 H4 A4 C4) (by rw [hml]; rfl) pd_2 rfl rfl (hb hby at_54) rfl (by decide) rfl (by decide) (by decide) (by decide) ?_
    rintro _ T54 L54 ⟨rfl, rfl, e54⟩ X54
    show Ends p e below s (Q0 Z p1 p2 cs vf o0 s0 b0 cl0 g0 o1 s1 b1 cl1 g1 o2 s2 b2 cl2 g2 o3 s3 b3 cl3 g3 o4 s4 b4 cl4 g4 h0) room_1.cells room_1.slots (T54.setTop (mkF m 57 #[.val (.int p1), .val (.int p2), .val (.ref ta), .val (.ref o4), .val (.ref s4), .unset, .unset, .unset, .unset] [(.int (fh2 g4 (60 : Int32)))]))
    rw [show fh2 g4 (60 : Int32) = (0 : Int32) from by simp only [fh2, B4_0, B4_1]; decide]
    refine o_istore (Ls' := #[.val (.int p1), .val (.int p2), .val (.ref ta), .val (.ref o4), .val (.ref s4), .val (.int (0 : Int32)), .unset, .unset, .unset]) (pc' := 59) X54 hx (hb hby at_57) rfl rfl ?_
    refine o_aload (pc' := 61) X54 hx (hb hby at_59) rfl rfl rfl ?_
    refine o_bipush (v := (61 : Int32)) (pc' := 63) X54 hx (hb hby at_61) (by decide) rfl ?_
    refine o_callS (W := 0) (pc' := 66) (rm := ({ frames := 4, cells := 0, slots := 0, locals := 53 } : Room)) (argsL := [(.ref s4), (.int (61 : Int32))]) (rest := []) X54 hx hZ hown (hw _ (List.mem_of_getElem? (i := 22) rfl)) (hw _ (List.mem_of_getElem? (i := 23) rfl)) (hw _ (List.mem_of_getElem? (i := 24) rfl)) (hw _ (List.mem_of_getElem? (i := 25) rfl)) (by decide) e54 (rmH2 l Z a0 hw s4 b4 (61 : Int32) cs vf cl4 g4 h33' S1 hcs hvf S2 D4 V4 H4 A4 C4) (by rw [hml]; rfl) pd_2 rfl rfl (hb hby at_63) rfl (by decide) rfl (by decide) (by decide) (by decide) ?_
    rintro _ T63 L63 ⟨rfl, rfl, e63⟩ X63
    show Ends p e below s (Q0 Z p1 p2 cs vf o0 s0 b0 cl0 g0 o1 s1 b1 cl1 g1 o2 s2 b2 cl2 g2 o3 s3 b3 cl3 g3 o4 s4 b4 cl4 g4 h0) room_1.cells room_1.slots (T63.setTop (mkF m 66 #[.val (.int p1), .val (.int p2), .val (.ref ta), .val (.ref o4), .val (.ref s4), .val (.int (0 : Int32)), .unset, .unset, .unset] [(.int (fh2 g4 (61 : Int32)))]))
    rw [show fh2 g4 (61 : Int32) = (1 : Int32) from by simp only [fh2, B4_0, B4_1]; decide]
    refine o_istore (Ls' := #[.val (.int p1), .val (.int p2), .val (.ref ta), .val (.ref o4), .val (.ref s4), .val (.int (0 : Int32)), .val (.int (1 : Int32)), .unset, .unset]) (pc' := 68) X63 hx (hb hby at_66) rfl rfl ?_
    refine o_aload (pc' := 70) X63 hx (hb hby at_68) rfl rfl rfl ?_
    refine o_bipush (v := (62 : Int32)) (pc' := 72) X63 hx (hb hby at_70) (by decide) rfl ?_
    refine o_callS (W := 0) (pc' := 75) (rm := ({ frames := 4, cells := 0, slots := 0, locals := 53 } : Room)) (argsL := [(.ref s4), (.int (62 : Int32))]) (rest := []) X63 hx hZ hown (hw _ (List.mem_of_getElem? (i := 22) rfl)) (hw _ (List.mem_of_getElem? (i := 23) rfl)) (hw _ (List.mem_of_getElem? (i := 24) rfl)) (hw _ (List.mem_of_getElem? (i := 25) rfl)) (by decide) e63 (rmH2 l Z a0 hw s4 b4 (62 : Int32) cs vf cl4 g4 h33' S1 hcs hvf S2 D4 V4 H4 A4 C4) (by rw [hml]; rfl) pd_2 rfl rfl (hb hby at_72) rfl (by decide) rfl (by decide) (by decide) (by decide) ?_
    rintro _ T72 L72 ⟨rfl, rfl, e72⟩ X72
    show Ends p e below s (Q0 Z p1 p2 cs vf o0 s0 b0 cl0 g0 o1 s1 b1 cl1 g1 o2 s2 b2 cl2 g2 o3 s3 b3 cl3 g3 o4 s4 b4 cl4 g4 h0) room_1.cells room_1.slots (T72.setTop (mkF m 75 #[.val (.int p1), .val (.int p2), .val (.ref ta), .val (.ref o4), .val (.ref s4), .val (.int (0 : Int32)), .val (.int (1 : Int32)), .unset, .unset] [(.int (fh2 g4 (62 : Int32)))]))
    rw [show fh2 g4 (62 : Int32) = (1 : Int32) from by simp only [fh2, B4_0, B4_1]; decide]
    refine o_istore (Ls' := #[.val (.int p1), .val (.int p2), .val (.ref ta), .val (.ref o4), .val (.ref s4), .val (.int (0 : Int32)), .val (.int (1 : Int32)), .val (.int (1 : Int32)), .unset]) (pc' := 77) X72 hx (hb hby at_75) rfl rfl ?_
    refine o_iloadN (pc' := 78) X72 hx (hb hby at_77) rfl rfl ?_
    refine o_if_ge (p1 := 81) (p2 := 88) X72 hx (hb hby at_78) rfl (by decide) (by decide) (fun hc78 => ?_) (fun hc78 => ?_)
    · refine o_iloadN (pc' := 89) X72 hx (hb hby at_88) rfl rfl ?_
      refine o_if_ne (p1 := 92) (p2 := 99) X72 hx (hb hby at_89) rfl (by decide) (by decide) (fun hc89 => ?_) (fun hc89 => ?_)
      · have l2 : 0 < p2 := Int32.lt_iff_toInt_lt.mpr (by have q1 : ¬ p2.toInt < (0 : Int32).toInt := fun q => hc78 (Int32.lt_iff_toInt_lt.mpr q); have q2 : ¬ p2.toInt = (0 : Int32).toInt := fun q => hc89 (Int32.toInt_inj.mp q); omega)
        refine o_iload (pc' := 101) X72 hx (hb hby at_99) rfl rfl ?_
        refine o_istore (Ls' := #[.val (.int p1), .val (.int p2), .val (.ref ta), .val (.ref o4), .val (.ref s4), .val (.int (0 : Int32)), .val (.int (1 : Int32)), .val (.int (1 : Int32)), .val (.int (1 : Int32))]) (pc' := 103) X72 hx (hb hby at_101) rfl rfl ?_
        refine o_aloadN (pc' := 104) X72 hx (hb hby at_103) rfl rfl rfl ?_
        refine o_iloadN (pc' := 105) X72 hx (hb hby at_104) rfl rfl ?_
        refine o_callV (W := 0) (pc' := 108) (rm := ({ frames := 1, cells := 0, slots := 0, locals := 12 } : Room)) (argsL := [(.int p2)]) (rest := []) X72 hx hZ hown (hw _ (List.mem_of_getElem? (i := 64) rfl)) (hw _ (List.mem_of_getElem? (i := 65) rfl)) (hw _ (List.mem_of_getElem? (i := 67) rfl)) (hw _ (List.mem_of_getElem? (i := 66) rfl)) (hw _ (List.mem_of_getElem? (i := 3) rfl)) (hw _ (List.mem_of_getElem? (i := 68) rfl)) (by decide) e72 E4 (rmO4 l Z a0 hw o4 p2 h33' E4 G4) (by rw [hml]; rfl) pd_10 rfl rfl (hb hby at_105) rfl (by decide) rfl (by decide) (by decide) (by decide) ?_
        rintro _ T105 L105 ⟨rfl, rfl, e105⟩ X105
        show Ends p e below s (Q0 Z p1 p2 cs vf o0 s0 b0 cl0 g0 o1 s1 b1 cl1 g1 o2 s2 b2 cl2 g2 o3 s3 b3 cl3 g3 o4 s4 b4 cl4 g4 h0) room_1.cells room_1.slots (T105.setTop (mkF m 108 #[.val (.int p1), .val (.int p2), .val (.ref ta), .val (.ref o4), .val (.ref s4), .val (.int (0 : Int32)), .val (.int (1 : Int32)), .val (.int (1 : Int32)), .val (.int (1 : Int32))] [(.int (fo4 p2))]))
        refine o_iload (pc' := 110) X105 hx (hb hby at_108) rfl rfl ?_
        refine o_icmp_ne (p1 := 113) (p2 := 117) X105 hx (hb hby at_110) rfl (by decide) (by decide) (fun hc110 => absurd (by simp only [fo4, if_neg hc78, if_neg hc89, if_pos l2]) hc110) (fun hc110 => ?_)
        refine o_iconst (v := (1 : Int32)) (pc' := 114) X105 hx (hb hby at_113) (by decide) rfl ?_
        refine o_goto (pc' := 118) X105 hx (hb hby at_114) (by decide) (by decide) ?_
        exact o_retZ X105 hx hlk hret (hb hby at_118) (by decide) ⟨rfl, by first | exact N | simpa using N⟩ (by decide) (by decide)
      · have l2 : ¬ 0 < p2 := fun q => by subst hc89; exact absurd q (by decide)
        refine o_iload (pc' := 94) X72 hx (hb hby at_92) rfl rfl ?_
        refine o_istore (Ls' := #[.val (.int p1), .val (.int p2), .val (.ref ta), .val (.ref o4), .val (.ref s4), .val (.int (0 : Int32)), .val (.int (1 : Int32)), .val (.int (1 : Int32)), .val (.int (1 : Int32))]) (pc' := 96) X72 hx (hb hby at_94) rfl rfl ?_
        refine o_goto (pc' := 103) X72 hx (hb hby at_96) (by decide) (by decide) ?_
        refine o_aloadN (pc' := 104) X72 hx (hb hby at_103) rfl rfl rfl ?_
        refine o_iloadN (pc' := 105) X72 hx (hb hby at_104) rfl rfl ?_
        refine o_callV (W := 0) (pc' := 108) (rm := ({ frames := 1, cells := 0, slots := 0, locals := 12 } : Room)) (argsL := [(.int p2)]) (rest := []) X72 hx hZ hown (hw _ (List.mem_of_getElem? (i := 64) rfl)) (hw _ (List.mem_of_getElem? (i := 65) rfl)) (hw _ (List.mem_of_getElem? (i := 67) rfl)) (hw _ (List.mem_of_getElem? (i := 66) rfl)) (hw _ (List.mem_of_getElem? (i := 3) rfl)) (hw _ (List.mem_of_getElem? (i := 68) rfl)) (by decide) e72 E4 (rmO4 l Z a0 hw o4 p2 h33' E4 G4) (by rw [hml]; rfl) pd_10 rfl rfl (hb hby at_105) rfl (by decide) rfl (by decide) (by decide) (by decide) ?_
        rintro _ T105 L105 ⟨rfl, rfl, e105⟩ X105
        show Ends p e below s (Q0 Z p1 p2 cs vf o0 s0 b0 cl0 g0 o1 s1 b1 cl1 g1 o2 s2 b2 cl2 g2 o3 s3 b3 cl3 g3 o4 s4 b4 cl4 g4 h0) room_1.cells room_1.slots (T105.setTop (mkF m 108 #[.val (.int p1), .val (.int p2), .val (.ref ta), .val (.ref o4), .val (.ref s4), .val (.int (0 : Int32)), .val (.int (1 : Int32)), .val (.int (1 : Int32)), .val (.int (1 : Int32))] [(.int (fo4 p2))]))
        refine o_iload (pc' := 110) X105 hx (hb hby at_108) rfl rfl ?_
        refine o_icmp_ne (p1 := 113) (p2 := 117) X105 hx (hb hby at_110) rfl (by decide) (by decide) (fun hc110 => absurd (by simp only [fo4, if_neg hc78, if_pos hc89, if_neg l2]) hc110) (fun hc110 => ?_)
        refine o_iconst (v := (1 : Int32)) (pc' := 114) X105 hx (hb hby at_113) (by decide) rfl ?_
        refine o_goto (pc' := 118) X105 hx (hb hby at_114) (by decide) (by decide) ?_
        exact o_retZ X105 hx hlk hret (hb hby at_118) (by decide) ⟨rfl, by first | exact N | simpa using N⟩ (by decide) (by decide)
    · have l1 : ¬ p2 = 0 := fun q => by subst q; exact absurd hc78 (by decide)
      have l2 : ¬ 0 < p2 := fun q => by have := Int32.lt_iff_toInt_lt.mp q; have := Int32.lt_iff_toInt_lt.mp hc78; omega
      refine o_iload (pc' := 83) X72 hx (hb hby at_81) rfl rfl ?_
      refine o_istore (Ls' := #[.val (.int p1), .val (.int p2), .val (.ref ta), .val (.ref o4), .val (.ref s4), .val (.int (0 : Int32)), .val (.int (1 : Int32)), .val (.int (1 : Int32)), .val (.int (0 : Int32))]) (pc' := 85) X72 hx (hb hby at_83) rfl rfl ?_
      refine o_goto (pc' := 103) X72 hx (hb hby at_85) (by decide) (by decide) ?_
      refine o_aloadN (pc' := 104) X72 hx (hb hby at_103) rfl rfl rfl ?_
      refine o_iloadN (pc' := 105) X72 hx (hb hby at_104) rfl rfl ?_
      refine o_callV (W := 0) (pc' := 108) (rm := ({ frames := 1, cells := 0, slots := 0, locals := 12 } : Room)) (argsL := [(.int p2)]) (rest := []) X72 hx hZ hown (hw _ (List.mem_of_getElem? (i := 64) rfl)) (hw _ (List.mem_of_getElem? (i := 65) rfl)) (hw _ (List.mem_of_getElem? (i := 67) rfl)) (hw _ (List.mem_of_getElem? (i := 66) rfl)) (hw _ (List.mem_of_getElem? (i := 3) rfl)) (hw _ (List.mem_of_getElem? (i := 68) rfl)) (by decide) e72 E4 (rmO4 l Z a0 hw o4 p2 h33' E4 G4) (by rw [hml]; rfl) pd_10 rfl rfl (hb hby at_105) rfl (by decide) rfl (by decide) (by decide) (by decide) ?_
      rintro _ T105 L105 ⟨rfl, rfl, e105⟩ X105
      show Ends p e below s (Q0 Z p1 p2 cs vf o0 s0 b0 cl0 g0 o1 s1 b1 cl1 g1 o2 s2 b2 cl2 g2 o3 s3 b3 cl3 g3 o4 s4 b4 cl4 g4 h0) room_1.cells room_1.slots (T105.setTop (mkF m 108 #[.val (.int p1), .val (.int p2), .val (.ref ta), .val (.ref o4), .val (.ref s4), .val (.int (0 : Int32)), .val (.int (1 : Int32)), .val (.int (1 : Int32)), .val (.int (0 : Int32))] [(.int (fo4 p2))]))
      refine o_iload (pc' := 110) X105 hx (hb hby at_108) rfl rfl ?_
      refine o_icmp_ne (p1 := 113) (p2 := 117) X105 hx (hb hby at_110) rfl (by decide) (by decide) (fun hc110 => absurd (by simp only [fo4, if_pos hc78, if_neg l1, if_neg l2]) hc110) (fun hc110 => ?_)
      refine o_iconst (v := (1 : Int32)) (pc' := 114) X105 hx (hb hby at_113) (by decide) rfl ?_
      refine o_goto (pc' := 118) X105 hx (hb hby at_114) (by decide) (by decide) ?_
      exact o_retZ X105 hx hlk hret (hb hby at_118) (by decide) ⟨rfl, by first | exact N | simpa using N⟩ (by decide) (by decide)

theorem own_len {args : Array Value} {s : State} {t : Term} {a : Addr} {cl : Cell} {n : Int32} (ht : t.eval args s none [] s = some (.ref a)) (ha : s.arrayAt? a = some cl) (h : (Term.length t).eval args s none [] s = some (.int n)) : cl.slots.size = n.toNatClampNeg := by
  by_cases hl : cl.slots.size < 2 ^ 31
  · have q := (len_f ht ha hl).symm.trans h
    have q2 : cl.slots.size.toInt32 = n := by simpa using q
    rw [← q2]; simp only [Int32.toNatClampNeg]; rw [len_toInt hl]; rfl
  · have e1 : (Term.length t).eval args s none [] s = none := by
      simp only [Term.eval, ht, Option.bind_eq_bind, ha, Option.bind_some]
      exact if_neg hl
    rw [e1] at h; cases h
theorem own_lit {args : Array Value} {s : State} {t : Term} {a : Addr} {cl : Cell} {k v : Int32} (et : t.eval args s none [] s = some (.ref a)) (ha : s.arrayAt? a = some cl) (nk : ¬ k < 0) (h : (Jvm.Cond.eq (.elem t (.int k)) (.int v)).value args s none s [] = some true) : cl.slots[k.toNatClampNeg]? = some (.int v) :=
  (elem_f et (Term.int_eval k) ha nk).symm.trans (own_eqI h)
set_option maxRecDepth 65536 in
set_option maxHeartbeats 40000000 in
theorem comes_1 {Post : Tables → Env → Array Value → State → Outcome → State → Prop} (hpost : ∀ tb e args s v u, (limb_1_1.after args s (.returned v) u = true ∧ limb_1_2.after args s (.returned v) u = true ∧ True) → FrameEnd s (.returned v) u (Jvm.fieldLocs frame_1_writes args s ++ Jvm.arrayLocs frame_1_arrays args s ++ Jvm.staticLocs frame_1_statics s) 16 128 → Post tb e args s (.returned v) u) :
    ArmFor flags0 classFile x code maxLocals ret World_1 tables_1 room_1 Calls_1 rest_1 Pre_1 Post := by
  intro l hfl _ _ p e ha hc hk s m args below hf hA hF happ hP
  obtain ⟨hcalls, hrest, hpre⟩ := hP
  obtain ⟨-, -, -, hnamed, -, -, -, hat⟩ := (Spec.applies_iff hf).mp happ
  obtain ⟨hg, hn⟩ := and_e (Cond.before_iff.mp (show (Jvm.Cond.and given_1 narrow_1).before args s = true from hpre))
  obtain ⟨g0, gr0⟩ := and_e hg
  obtain ⟨g1, gr1⟩ := and_e gr0
  obtain ⟨w0, w1, rfl⟩ : ∃ w0 w1 : Value, args = #[w0, w1] := by
    have hs : args.size = 2 := by simpa [Cond.value, given_1] using g0
    obtain ⟨L⟩ := args
    match L, hs with
    | [w0, w1], _ => exact ⟨w0, w1, rfl⟩
  have hw := fun d (hd : d ∈ tables_1) => atoms_spec (ws := Jvm.Cond.code x code maxLocals ret :: tables_1) hat d (List.mem_cons_of_mem _ hd)
  have hfit : Fit s := fun {y c} hc i hi => by
    obtain ⟨ha, rfl⟩ := Array.getElem?_eq_some_iff.mp hc
    have q := List.all_eq_true.mp ((Array.all_eq_true_iff_forall_mem.mp hF) _ (Array.getElem_mem ha)) i (List.mem_range.mpr hi)
    simpa [Array.getElem?_eq_getElem hi] using q
  obtain ⟨i0, ei0⟩ := is_v g1
  obtain rfl : w0 = (.int i0) := Option.some.inj ei0
  obtain ⟨i1, ei1⟩ := is_v gr1
  obtain rfl : w1 = (.int i1) := Option.some.inj ei1
  obtain ⟨n0, hr_n⟩ := and_e hn
  obtain ⟨n1, hr_n⟩ := and_e hr_n
  obtain ⟨n2, hr_n⟩ := and_e hr_n
  obtain ⟨n3, hr_n⟩ := and_e hr_n
  obtain ⟨n4, hr_n⟩ := and_e hr_n
  obtain ⟨n5, hr_n⟩ := and_e hr_n
  obtain ⟨n6, hr_n⟩ := and_e hr_n
  obtain ⟨n7, hr_n⟩ := and_e hr_n
  obtain ⟨n8, hr_n⟩ := and_e hr_n
  obtain ⟨n9, hr_n⟩ := and_e hr_n
  obtain ⟨n10, hr_n⟩ := and_e hr_n
  obtain ⟨n11, hr_n⟩ := and_e hr_n
  obtain ⟨n12, hr_n⟩ := and_e hr_n
  obtain ⟨n13, hr_n⟩ := and_e hr_n
  obtain ⟨n14, hr_n⟩ := and_e hr_n
  obtain ⟨n15, hr_n⟩ := and_e hr_n
  obtain ⟨n16, hr_n⟩ := and_e hr_n
  obtain ⟨n17, hr_n⟩ := and_e hr_n
  obtain ⟨n18, hr_n⟩ := and_e hr_n
  obtain ⟨n19, hr_n⟩ := and_e hr_n
  obtain ⟨n20, hr_n⟩ := and_e hr_n
  obtain ⟨n21, hr_n⟩ := and_e hr_n
  obtain ⟨n22, hr_n⟩ := and_e hr_n
  obtain ⟨n23, hr_n⟩ := and_e hr_n
  obtain ⟨n24, hr_n⟩ := and_e hr_n
  obtain ⟨n25, hr_n⟩ := and_e hr_n
  obtain ⟨n26, hr_n⟩ := and_e hr_n
  obtain ⟨n27, hr_n⟩ := and_e hr_n
  obtain ⟨n28, hr_n⟩ := and_e hr_n
  obtain ⟨n29, hr_n⟩ := and_e hr_n
  obtain ⟨n30, hr_n⟩ := and_e hr_n
  obtain ⟨n31, hr_n⟩ := and_e hr_n
  obtain ⟨n32, hr_n⟩ := and_e hr_n
  obtain ⟨n33, hr_n⟩ := and_e hr_n
  obtain ⟨n34, hr_n⟩ := and_e hr_n
  obtain ⟨n35, n36⟩ := and_e hr_n
  obtain ⟨o0, eo0⟩ := exa_v n0
  obtain ⟨s0, es0⟩ := exa_v n5
  obtain ⟨b0, eb0⟩ := arr_v n6
  obtain ⟨cl0, A0⟩ := Arr.start eb0 n6
  have hA0 := A0.fin (Vm.Alike.refl s.vm)
  have hL0 := own_len eb0 hA0 (own_eqI n7)
  obtain ⟨g0, hg0⟩ : ∃ g : Nat → Int32, g = fun k => if k = 0 then 61 else 0 := ⟨_, rfl⟩
  have C0 : Cont cl0 1 (fun k => .int (g0 k)) := ⟨hL0, fun k hk => by
    have hh : k = 0 := by omega
    subst hg0
    subst hh
    exact own_lit eb0 hA0 (k := (0 : Int32)) (by decide) n9⟩
  obtain ⟨o1, eo1⟩ := exa_v n1
  obtain ⟨s1, es1⟩ := exa_v n24
  obtain ⟨b1, eb1⟩ := arr_v n25
  obtain ⟨cl1, A1⟩ := Arr.start eb1 n25
  have hA1 := A1.fin (Vm.Alike.refl s.vm)
  have hL1 := own_len eb1 hA1 (own_eqI n26)
  obtain ⟨g1, hg1⟩ : ∃ g : Nat → Int32, g = fun k => if k = 0 then 60 else 0 := ⟨_, rfl⟩
  have C1 : Cont cl1 1 (fun k => .int (g1 k)) := ⟨hL1, fun k hk => by
    have hh : k = 0 := by omega
    subst hg1
    subst hh
    exact own_lit eb1 hA1 (k := (0 : Int32)) (by decide) n28⟩
  obtain ⟨o2, eo2⟩ := exa_v n2
  obtain ⟨s2, es2⟩ := exa_v n30
  obtain ⟨b2, eb2⟩ := arr_v n31
  obtain ⟨cl2, A2⟩ := Arr.start eb2 n31
  have hA2 := A2.fin (Vm.Alike.refl s.vm)
  have hL2 := own_len eb2 hA2 (own_eqI n32)
  obtain ⟨g2, hg2⟩ : ∃ g : Nat → Int32, g = fun k => if k = 0 then 60 else if k = 1 then 61 else 0 := ⟨_, rfl⟩
  have C2 : Cont cl2 2 (fun k => .int (g2 k)) := ⟨hL2, fun k hk => by
    have hh : k = 0 ∨ k = 1 := by omega
    subst hg2
    rcases hh with rfl | rfl
    · exact own_lit eb2 hA2 (k := (0 : Int32)) (by decide) n34
    · exact own_lit eb2 hA2 (k := (1 : Int32)) (by decide) n35⟩
  obtain ⟨o3, eo3⟩ := exa_v n3
  obtain ⟨s3, es3⟩ := exa_v n18
  obtain ⟨b3, eb3⟩ := arr_v n19
  obtain ⟨cl3, A3⟩ := Arr.start eb3 n19
  have hA3 := A3.fin (Vm.Alike.refl s.vm)
  have hL3 := own_len eb3 hA3 (own_eqI n20)
  obtain ⟨g3, hg3⟩ : ∃ g : Nat → Int32, g = fun k => if k = 0 then 62 else 0 := ⟨_, rfl⟩
  have C3 : Cont cl3 1 (fun k => .int (g3 k)) := ⟨hL3, fun k hk => by
    have hh : k = 0 := by omega
    subst hg3
    subst hh
    exact own_lit eb3 hA3 (k := (0 : Int32)) (by decide) n22⟩
  obtain ⟨o4, eo4⟩ := exa_v n4
  obtain ⟨s4, es4⟩ := exa_v n11
  obtain ⟨b4, eb4⟩ := arr_v n12
  obtain ⟨cl4, A4⟩ := Arr.start eb4 n12
  have hA4 := A4.fin (Vm.Alike.refl s.vm)
  have hL4 := own_len eb4 hA4 (own_eqI n13)
  obtain ⟨g4, hg4⟩ : ∃ g : Nat → Int32, g = fun k => if k = 0 then 62 else if k = 1 then 61 else 0 := ⟨_, rfl⟩
  have C4 : Cont cl4 2 (fun k => .int (g4 k)) := ⟨hL4, fun k hk => by
    have hh : k = 0 ∨ k = 1 := by omega
    subst hg4
    rcases hh with rfl | rfl
    · exact own_lit eb4 hA4 (k := (0 : Int32)) (by decide) n15
    · exact own_lit eb4 hA4 (k := (1 : Int32)) (by decide) n16⟩
  have hrest' := Cond.before_iff.mp (show rest_1_c.before _ s = true from hrest)
  obtain ⟨r0, hr_r⟩ := and_e hrest'
  obtain ⟨r1, hr_r⟩ := and_e hr_r
  obtain ⟨r2, hr_r⟩ := and_e hr_r
  obtain ⟨r3, hr_r⟩ := and_e hr_r
  obtain ⟨r4, hr_r⟩ := and_e hr_r
  obtain ⟨r5, hr_r⟩ := and_e hr_r
  obtain ⟨r6, hr_r⟩ := and_e hr_r
  obtain ⟨r7, hr_r⟩ := and_e hr_r
  obtain ⟨r8, r9⟩ := and_e hr_r
  obtain ⟨cs, ecs⟩ := is_v r1
  have hcs : ¬ cs = 0 := gotF (Cond.eq_ints ecs (Term.int_eval 0)) (own_not r2)
  obtain ⟨vf, evf, hvf⟩ := isR_v r8
  obtain ⟨n, o, h1, h2, h3, _, L, rfl, ⟨rfl, N⟩, hq⟩ := rm0 l s _ hw i0 i1 cs vf o0 s0 b0 cl0 g0 o1 s1 b1 cl1 g1 o2 s2 b2 cl2 g2 o3 s3 b3 cl3 g3 o4 s4 b4 cl4 g4 s.heap (Sta.start ecs (Or.inl (Cond.before_iff.mpr r0))) hcs hvf (Sta.start evf (Or.inl (Cond.before_iff.mpr r7))) (Sta.start eo0 (Or.inr ⟨(hw _ (List.mem_of_getElem? (i := 3) rfl)), (hw _ (List.mem_of_getElem? (i := 4) rfl))⟩)) (Exa.start eo0 n0) (Fld.start ((fld_at eo0).symm.trans es0)) (own_fldI eo0 n10) (Exa.start es0 n5) (Fld.start ((fld_at es0).symm.trans eb0)) (own_fldI es0 n8) A0 C0 (by rw [hg0]; rfl) (Sta.start eo1 (Or.inr ⟨(hw _ (List.mem_of_getElem? (i := 3) rfl)), (hw _ (List.mem_of_getElem? (i := 7) rfl))⟩)) (Exa.start eo1 n1) (Fld.start ((fld_at eo1).symm.trans es1)) (own_fldI eo1 n29) (Exa.start es1 n24) (Fld.start ((fld_at es1).symm.trans eb1)) (own_fldI es1 n27) A1 C1 (by rw [hg1]; rfl) (Sta.start eo2 (Or.inr ⟨(hw _ (List.mem_of_getElem? (i := 3) rfl)), (hw _ (List.mem_of_getElem? (i := 9) rfl))⟩)) (Exa.start eo2 n2) (Fld.start ((fld_at eo2).symm.trans es2)) (own_fldI eo2 n36) (Exa.start es2 n30) (Fld.start ((fld_at es2).symm.trans eb2)) (own_fldI es2 n33) A2 C2 (by rw [hg2]; rfl) (by rw [hg2]; rfl) (Sta.start eo3 (Or.inr ⟨(hw _ (List.mem_of_getElem? (i := 3) rfl)), (hw _ (List.mem_of_getElem? (i := 11) rfl))⟩)) (Exa.start eo3 n3) (Fld.start ((fld_at eo3).symm.trans es3)) (own_fldI eo3 n23) (Exa.start es3 n18) (Fld.start ((fld_at es3).symm.trans eb3)) (own_fldI es3 n21) A3 C3 (by rw [hg3]; rfl) (Sta.start eo4 (Or.inr ⟨(hw _ (List.mem_of_getElem? (i := 3) rfl)), (hw _ (List.mem_of_getElem? (i := 13) rfl))⟩)) (Exa.start eo4 n4) (Fld.start ((fld_at eo4).symm.trans es4)) (own_fldI eo4 n17) (Exa.start es4 n11) (Fld.start ((fld_at es4).symm.trans eb4)) (own_fldI es4 n14) A4 C4 (by rw [hg4]; rfl) (by rw [hg4]; rfl)  tables_1 p e ha hc hk s m _ below hf ((Spec.applies_iff_loose hf).mp happ).1 ⟨rfl, State.Warmed39.refl s, rfl⟩ trivial
  refine ⟨n, _, h1, h2, h3, hpost _ _ _ _ _ _ ⟨Cond.after_iff.mpr rfl, Cond.after_iff.mpr (eq_i res_at (Term.int_eval (1)) rfl), trivial⟩ ⟨hq.1, hq.2.1, (hq.2.2.sift fun y hy => Or.inr (N y hy)).mono (by decide) (by decide)⟩⟩
theorem main_1_1 : Claimed_1_1 := comes_1 fun _ _ _ _ _ _ h hF => ⟨h.1, hF⟩
theorem main_1_2 : Claimed_1_2 := comes_1 fun _ _ _ _ _ _ h hF => ⟨h.2.1, hF⟩
end Jvm.Pilot.@@N@@
namespace Jvm.Pilot.@@N@@
open Jvm Jvm.ClassFile Sem Op Lib Jvm.Free Jvm.Stand Jvm.Pilot.@@N@@.Jvm.D
/-! MADE BY PROGRAM (witnessworld.py) out of the Statement's table words and the real class files: 19 classes; the members and pool entries that the words name. The judged class is class 1, her method 1. -/
namespace start1
open Jvm.ClassFile
def u (s : String) : CpInfo := .utf8 (stringToUtf16 s)
/-- a pool by its gaps: so many unusable entries, then the entry; so many at the end -/
def gap : Nat → List CpInfo → List CpInfo
  | 0, r => r
  | n + 1, r => .unusable :: gap n r
def poolList (es : List (Nat × CpInfo)) (last : Nat) : List CpInfo := es.foldr (fun e r => gap e.1 (e.2 :: r)) (gap last [])
def pool (es : List (Nat × CpInfo)) (last : Nat) : Array CpInfo := ⟨poolList es last⟩
def fileOf (pool : Array CpInfo) (this : Nat) (attrs : Array Attribute := #[]) (ms : Array MethodInfo := #[]) (fl : Nat := 33) (sup : Nat := 0) (ifs : Array Nat := #[]) (fds : Array FieldInfo := #[]) : ClassFile where
  minorVersion := 0
  majorVersion := 65
  constantPool := pool
  accessFlags := fl
  thisClass := this
  superClass := sup
  interfaces := ifs
  fields := fds
  methods := ms
  attributes := attrs
def plain (name : String) (sup : Option ClassId) : Class where
  name := name
  kind := .ordinary
  loader := none
  accessFlags := 33
  super := sup
  interfaces := #[]
  cf := none
  fields := #[]
  methods := #[]
  instanceTypes := #[]
  staticTypes := #[]
  resolved := #[]
  callSites := []
  init := .initialized
  statics := none
  mirror := none

def pool0 : Array CpInfo := pool [(5, u "<init>"), (0, u "()V"), (1, .class_ 10), (1, u "java/lang/Object")] 113

def k0m0 : Method := { name := "<init>", desc := "()V", sig := { parameters := [], returnType := none }, accessFlags := 1, code := none }
/-- java/lang/Object -/
def k0 : Class := { plain "java/lang/Object" none with
  accessFlags := 33
  interfaces := #[]
  cf := some (fileOf pool0 8 #[] #[{ accessFlags := 1, nameIndex := 5, descriptorIndex := 6, attributes := #[] }] 33 0 #[] #[])
  fields := #[]
  methods := #[k0m0]
  instanceTypes := #[]
  staticTypes := #[]
  resolved := Array.replicate 124 none
  statics := none }

def pool1 : Array CpInfo := pool [(2, .class_ 4), (1, u "java/lang/Object"), (0, u "<init>"), (0, u "()V"), (0, .class_ 8), (0, u "org/chronolake/Condition$Operator"), (0, .fieldref 7 10), (0, .nameAndType 11 12), (0, u "EQUAL"), (0, u "Lorg/chronolake/Condition$Operator;"), (0, .fieldref 7 14), (0, .nameAndType 15 12), (0, u "LESS"), (0, .fieldref 7 17), (0, .nameAndType 18 12), (0, u "LESS_OR_EQUAL"), (0, .fieldref 7 20), (0, .nameAndType 21 12), (0, u "GREATER"), (0, .fieldref 7 23), (0, .nameAndType 24 12), (0, u "GREATER_OR_EQUAL"), (0, .integer 2147483647), (0, .methodref 7 27), (0, .nameAndType 28 29), (0, u "symbol"), (0, u "()Ljava/lang/String;"), (0, .methodref 31 32), (0, .class_ 33), (0, .nameAndType 34 35), (0, u "org/chronolake/OperatorHoldsPinLaw"), (0, u "has"), (0, u "(Ljava/lang/String;C)Z"), (0, .methodref 7 37), (0, .nameAndType 38 39), (0, u "holds"), (0, u "(I)Z"), (0, .methodref 41 42), (0, .class_ 43), (0, .nameAndType 44 45), (0, u "java/lang/String"), (0, u "length"), (0, u "()I"), (0, .methodref 41 47), (0, .nameAndType 48 49), (0, u "charAt"), (0, u "(I)C"), (2, u "law"), (0, u "(II)Z")] 9

def k1m0 : Method := { name := "<init>", desc := "()V", sig := { parameters := [], returnType := none }, accessFlags := 2, code := none }
def k1c1 : Code := { maxStack := 4, maxLocals := 9, code := code, exceptionTable := #[], attributes := #[] }
def k1m1 : Method := { name := "law", desc := "(II)Z", sig := { parameters := [.int, .int], returnType := some .boolean }, accessFlags := 9, code := some k1c1 }
def k1c2 : Code := { maxStack := 2, maxLocals := 4, code := method_3_code, exceptionTable := #[], attributes := #[] }
def k1m2 : Method := { name := "has", desc := "(Ljava/lang/String;C)Z", sig := { parameters := [(.object "java/lang/String"), .char], returnType := some .boolean }, accessFlags := 10, code := some k1c2 }
/-- org/chronolake/OperatorHoldsPinLaw -/
def k1 : Class := { plain "org/chronolake/OperatorHoldsPinLaw" (some 0) with
  accessFlags := 49
  interfaces := #[]
  cf := some (fileOf pool1 31 #[] #[{ accessFlags := 2, nameIndex := 5, descriptorIndex := 6, attributes := #[] }, { accessFlags := 9, nameIndex := 52, descriptorIndex := 53, attributes := #[] }, { accessFlags := 10, nameIndex := 34, descriptorIndex := 35, attributes := #[] }] 49 2 #[] #[])
  fields := #[]
  methods := #[k1m0, k1m1, k1m2]
  instanceTypes := #[]
  staticTypes := #[]
  resolved := Array.replicate 63 none
  statics := none }

def pool2 : Array CpInfo := pool [(1, .class_ 2), (0, u "java/lang/constant/Constable"), (0, .class_ 4), (0, u "java/lang/Object")] 6

/-- java/lang/constant/Constable -/
def k2 : Class := { plain "java/lang/constant/Constable" (some 0) with
  accessFlags := 1537
  interfaces := #[]
  cf := some (fileOf pool2 1 #[] #[] 1537 3 #[] #[])
  fields := #[]
  methods := #[]
  instanceTypes := #[]
  staticTypes := #[]
  resolved := Array.replicate 11 none
  statics := none }

def pool3 : Array CpInfo := pool [(1, .class_ 2), (0, u "java/lang/Comparable"), (0, .class_ 4), (0, u "java/lang/Object")] 7

/-- java/lang/Comparable -/
def k3 : Class := { plain "java/lang/Comparable" (some 0) with
  accessFlags := 1537
  interfaces := #[]
  cf := some (fileOf pool3 1 #[] #[] 1537 3 #[] #[])
  fields := #[]
  methods := #[]
  instanceTypes := #[]
  staticTypes := #[]
  resolved := Array.replicate 12 none
  statics := none }

def pool4 : Array CpInfo := pool [(1, .class_ 2), (0, u "java/io/Serializable"), (0, .class_ 4), (0, u "java/lang/Object")] 2

/-- java/io/Serializable -/
def k4 : Class := { plain "java/io/Serializable" (some 0) with
  accessFlags := 1537
  interfaces := #[]
  cf := some (fileOf pool4 1 #[] #[] 1537 3 #[] #[])
  fields := #[]
  methods := #[]
  instanceTypes := #[]
  staticTypes := #[]
  resolved := Array.replicate 7 none
  statics := none }

def pool5 : Array CpInfo := pool [(2, .class_ 4), (1, u "java/lang/Enum"), (0, u "name"), (0, u "Ljava/lang/String;"), (0, .fieldref 2 8), (0, .nameAndType 9 10), (0, u "ordinal"), (0, u "I"), (1, .class_ 14), (1, u "java/lang/Object"), (4, u "hash"), (86, .class_ 108), (1, u "java/lang/Enum$EnumDesc"), (2, .class_ 112), (0, u "java/lang/constant/Constable"), (0, .class_ 114), (0, u "java/lang/Comparable"), (0, .class_ 116), (0, u "java/io/Serializable"), (9, u "()I")] 77

def k5c0 : Code := { maxStack := 1, maxLocals := 1, code := jdk_37_method_2_code, exceptionTable := #[], attributes := #[] }
def k5m0 : Method := { name := "ordinal", desc := "()I", sig := { parameters := [], returnType := some .int }, accessFlags := 17, code := some k5c0 }
/-- java/lang/Enum -/
def k5 : Class := { plain "java/lang/Enum" (some 0) with
  accessFlags := 1057
  interfaces := #[2, 3, 4]
  cf := some (fileOf pool5 2 #[.nestMembers #[106]] #[{ accessFlags := 17, nameIndex := 9, descriptorIndex := 126, attributes := #[] }] 1057 12 #[111, 113, 115] #[{ accessFlags := 18, nameIndex := 5, descriptorIndex := 6, attributes := #[] }, { accessFlags := 18, nameIndex := 9, descriptorIndex := 10, attributes := #[] }, { accessFlags := 2, nameIndex := 19, descriptorIndex := 10, attributes := #[] }])
  fields := #[{ name := "name", type := (.object "java/lang/String"), accessFlags := 18, slot := 0, constantValue := 0 }, { name := "ordinal", type := .int, accessFlags := 18, slot := 1, constantValue := 0 }, { name := "hash", type := .int, accessFlags := 2, slot := 2, constantValue := 0 }]
  methods := #[k5m0]
  instanceTypes := #[(.object "java/lang/String"), .int, .int]
  staticTypes := #[]
  resolved := Array.replicate 204 none
  statics := none }

def pool6 : Array CpInfo := pool [(1, .class_ 2), (0, u "org/chronolake/Condition$Operator"), (2, u "EQUAL"), (0, u "Lorg/chronolake/Condition$Operator;"), (2, u "LESS"), (2, u "LESS_OR_EQUAL"), (2, u "GREATER"), (2, u "GREATER_OR_EQUAL"), (2, u "$VALUES"), (0, u "[Lorg/chronolake/Condition$Operator;"), (6, .class_ 31), (1, u "java/lang/Enum"), (6, .fieldref 1 39), (0, .nameAndType 40 41), (0, u "symbol"), (0, u "Ljava/lang/String;"), (0, .methodref 1 43), (0, .nameAndType 44 45), (0, u "ordinal"), (0, u "()I"), (34, u "()Ljava/lang/String;"), (0, u "holds"), (0, u "(I)Z"), (7, .class_ 91), (0, u "org/chronolake/Condition")] 2

def k6c0 : Code := { maxStack := 1, maxLocals := 1, code := prog_23_method_4_code, exceptionTable := #[], attributes := #[] }
def k6m0 : Method := { name := "symbol", desc := "()Ljava/lang/String;", sig := { parameters := [], returnType := some (.object "java/lang/String") }, accessFlags := 1, code := some k6c0 }
def k6c1 : Code := { maxStack := 4, maxLocals := 2, code := prog_23_method_5_code, exceptionTable := #[], attributes := #[] }
def k6m1 : Method := { name := "holds", desc := "(I)Z", sig := { parameters := [.int], returnType := some .boolean }, accessFlags := 1, code := some k6c1 }
/-- org/chronolake/Condition$Operator -/
def k6 : Class := { plain "org/chronolake/Condition$Operator" (some 5) with
  accessFlags := 16433
  interfaces := #[]
  cf := some (fileOf pool6 1 #[.nestHost 90] #[{ accessFlags := 1, nameIndex := 40, descriptorIndex := 80, attributes := #[] }, { accessFlags := 1, nameIndex := 81, descriptorIndex := 82, attributes := #[] }] 16433 29 #[] #[{ accessFlags := 16409, nameIndex := 5, descriptorIndex := 6, attributes := #[] }, { accessFlags := 16409, nameIndex := 9, descriptorIndex := 6, attributes := #[] }, { accessFlags := 16409, nameIndex := 12, descriptorIndex := 6, attributes := #[] }, { accessFlags := 16409, nameIndex := 15, descriptorIndex := 6, attributes := #[] }, { accessFlags := 16409, nameIndex := 18, descriptorIndex := 6, attributes := #[] }, { accessFlags := 18, nameIndex := 40, descriptorIndex := 41, attributes := #[] }, { accessFlags := 4122, nameIndex := 21, descriptorIndex := 22, attributes := #[] }])
  fields := #[{ name := "EQUAL", type := (.object "org/chronolake/Condition$Operator"), accessFlags := 16409, slot := 0, constantValue := 0 }, { name := "LESS", type := (.object "org/chronolake/Condition$Operator"), accessFlags := 16409, slot := 1, constantValue := 0 }, { name := "LESS_OR_EQUAL", type := (.object "org/chronolake/Condition$Operator"), accessFlags := 16409, slot := 2, constantValue := 0 }, { name := "GREATER", type := (.object "org/chronolake/Condition$Operator"), accessFlags := 16409, slot := 3, constantValue := 0 }, { name := "GREATER_OR_EQUAL", type := (.object "org/chronolake/Condition$Operator"), accessFlags := 16409, slot := 4, constantValue := 0 }, { name := "symbol", type := (.object "java/lang/String"), accessFlags := 18, slot := 3, constantValue := 0 }, { name := "$VALUES", type := (.array (.object "org/chronolake/Condition$Operator")), accessFlags := 4122, slot := 5, constantValue := 0 }]
  methods := #[k6m0, k6m1]
  instanceTypes := #[(.object "java/lang/String"), .int, .int, (.object "java/lang/String")]
  staticTypes := #[(.object "org/chronolake/Condition$Operator"), (.object "org/chronolake/Condition$Operator"), (.object "org/chronolake/Condition$Operator"), (.object "org/chronolake/Condition$Operator"), (.object "org/chronolake/Condition$Operator"), (.array (.object "org/chronolake/Condition$Operator"))]
  resolved := Array.replicate 94 none
  statics := some 0 }

def pool7 : Array CpInfo := pool [(2, .class_ 4), (1, u "java/lang/CharSequence"), (42, .class_ 48), (0, u "java/lang/CharSequence$1CodePointIterator"), (10, .class_ 60), (0, u "java/lang/CharSequence$1CharIterator"), (5, .class_ 67), (0, u "java/lang/Object")] 63

/-- java/lang/CharSequence -/
def k7 : Class := { plain "java/lang/CharSequence" (some 0) with
  accessFlags := 1537
  interfaces := #[]
  cf := some (fileOf pool7 2 #[.nestMembers #[47, 59]] #[] 1537 66 #[] #[])
  fields := #[]
  methods := #[]
  instanceTypes := #[]
  staticTypes := #[]
  resolved := Array.replicate 131 none
  statics := none }

def pool8 : Array CpInfo := pool [(1, .class_ 2), (0, u "java/lang/constant/ConstantDesc"), (0, .class_ 4), (0, u "java/lang/Object")] 32

/-- java/lang/constant/ConstantDesc -/
def k8 : Class := { plain "java/lang/constant/ConstantDesc" (some 0) with
  accessFlags := 1537
  interfaces := #[]
  cf := some (fileOf pool8 1 #[] #[] 1537 3 #[] #[])
  fields := #[]
  methods := #[]
  instanceTypes := #[]
  staticTypes := #[]
  resolved := Array.replicate 37 none
  statics := none }

def pool9 : Array CpInfo := pool [(2, .class_ 4), (1, u "java/lang/Object"), (0, u "<init>"), (0, u "()V"), (2, .fieldref 10 11), (0, .class_ 12), (0, .nameAndType 13 14), (0, u "java/lang/String"), (0, u "value"), (0, u "[B"), (0, .fieldref 10 16), (0, .nameAndType 17 18), (0, u "coder"), (0, u "B"), (2, u "hash"), (0, u "I"), (2, u "hashIsZero"), (0, u "Z"), (11, .fieldref 10 39), (0, .nameAndType 40 26), (0, u "COMPACT_STRINGS"), (66, .class_ 109), (1, u "java/lang/StringLatin1"), (32, u "()Z"), (191, u "()I"), (0, .methodref 10 336), (0, .nameAndType 17 337), (0, u "()B"), (25, u "([BI)C"), (27, u "(II)V"), (35, u "(I)C"), (64, .methodref 10 493), (0, .nameAndType 494 142), (0, u "isLatin1"), (0, .methodref 107 496), (0, .nameAndType 497 363), (0, u "charAt"), (3, u "checkIndex"), (5, u "length"), (67, .class_ 576), (0, u "java/lang/CharSequence"), (22, u "CASE_INSENSITIVE_ORDER"), (0, u "Ljava/util/Comparator;"), (452, .fieldref 1054 1055), (0, .class_ 1056), (0, .nameAndType 1057 1058), (0, u "jdk/internal/util/Preconditions"), (0, u "SIOOBE_FORMATTER"), (0, u "Ljava/util/function/BiFunction;"), (0, .methodref 1054 1060), (0, .nameAndType 501 1061), (0, u "(IILjava/util/function/BiFunction;)I"), (39, u "serialPersistentFields"), (0, u "[Ljava/io/ObjectStreamField;"), (0, .class_ 1104), (0, u "java/lang/String$CaseInsensitiveComparator"), (1, .class_ 1107), (0, u "java/io/Serializable"), (0, .class_ 1109), (0, u "java/lang/Comparable"), (0, .class_ 1111), (0, u "java/lang/constant/Constable"), (0, .class_ 1113), (0, u "java/lang/constant/ConstantDesc"), (2, u "serialVersionUID"), (0, u "J"), (3, u "REPL"), (0, u "C"), (2, u "LATIN1"), (1, u "UTF16")] 323

def k9m0 : Method := { name := "<init>", desc := "()V", sig := { parameters := [], returnType := none }, accessFlags := 1, code := none }
def k9c1 : Code := { maxStack := 2, maxLocals := 1, code := jdk_42_method_54_code, exceptionTable := #[], attributes := #[] }
def k9m1 : Method := { name := "length", desc := "()I", sig := { parameters := [], returnType := some .int }, accessFlags := 1, code := some k9c1 }
def k9c2 : Code := { maxStack := 2, maxLocals := 2, code := jdk_42_method_56_code, exceptionTable := #[], attributes := #[] }
def k9m2 : Method := { name := "charAt", desc := "(I)C", sig := { parameters := [.int], returnType := some .char }, accessFlags := 1, code := some k9c2 }
def k9c3 : Code := { maxStack := 1, maxLocals := 1, code := jdk_42_method_152_code, exceptionTable := #[], attributes := #[] }
def k9m3 : Method := { name := "coder", desc := "()B", sig := { parameters := [], returnType := some .byte }, accessFlags := 0, code := some k9c3 }
def k9c4 : Code := { maxStack := 1, maxLocals := 1, code := jdk_42_method_154_code, exceptionTable := #[], attributes := #[] }
def k9m4 : Method := { name := "isLatin1", desc := "()Z", sig := { parameters := [], returnType := some .boolean }, accessFlags := 0, code := some k9c4 }
def k9c5 : Code := { maxStack := 3, maxLocals := 2, code := jdk_42_method_155_code, exceptionTable := #[], attributes := #[] }
def k9m5 : Method := { name := "checkIndex", desc := "(II)V", sig := { parameters := [.int, .int], returnType := none }, accessFlags := 8, code := some k9c5 }
/-- java/lang/String -/
def k9 : Class := { plain "java/lang/String" (some 0) with
  accessFlags := 49
  interfaces := #[4, 3, 7, 2, 8]
  cf := some (fileOf pool9 10 #[.nestMembers #[1103]] #[{ accessFlags := 1, nameIndex := 5, descriptorIndex := 6, attributes := #[] }, { accessFlags := 1, nameIndex := 507, descriptorIndex := 334, attributes := #[] }, { accessFlags := 1, nameIndex := 497, descriptorIndex := 427, attributes := #[] }, { accessFlags := 0, nameIndex := 17, descriptorIndex := 337, attributes := #[] }, { accessFlags := 0, nameIndex := 494, descriptorIndex := 142, attributes := #[] }, { accessFlags := 8, nameIndex := 501, descriptorIndex := 391, attributes := #[] }] 49 2 #[1106, 1108, 575, 1110, 1112] #[{ accessFlags := 18, nameIndex := 13, descriptorIndex := 14, attributes := #[] }, { accessFlags := 18, nameIndex := 17, descriptorIndex := 18, attributes := #[] }, { accessFlags := 2, nameIndex := 21, descriptorIndex := 22, attributes := #[] }, { accessFlags := 2, nameIndex := 25, descriptorIndex := 26, attributes := #[] }, { accessFlags := 26, nameIndex := 1116, descriptorIndex := 1117, attributes := #[] }, { accessFlags := 24, nameIndex := 40, descriptorIndex := 26, attributes := #[] }, { accessFlags := 26, nameIndex := 1101, descriptorIndex := 1102, attributes := #[] }, { accessFlags := 26, nameIndex := 1121, descriptorIndex := 1122, attributes := #[] }, { accessFlags := 25, nameIndex := 599, descriptorIndex := 600, attributes := #[] }, { accessFlags := 24, nameIndex := 1125, descriptorIndex := 18, attributes := #[] }, { accessFlags := 24, nameIndex := 1127, descriptorIndex := 18, attributes := #[] }])
  fields := #[{ name := "value", type := (.array .byte), accessFlags := 18, slot := 0, constantValue := 0 }, { name := "coder", type := .byte, accessFlags := 18, slot := 1, constantValue := 0 }, { name := "hash", type := .int, accessFlags := 2, slot := 2, constantValue := 0 }, { name := "hashIsZero", type := .boolean, accessFlags := 2, slot := 3, constantValue := 0 }, { name := "serialVersionUID", type := .long, accessFlags := 26, slot := 0, constantValue := 0 }, { name := "COMPACT_STRINGS", type := .boolean, accessFlags := 24, slot := 1, constantValue := 0 }, { name := "serialPersistentFields", type := (.array (.object "java/io/ObjectStreamField")), accessFlags := 26, slot := 2, constantValue := 0 }, { name := "REPL", type := .char, accessFlags := 26, slot := 3, constantValue := 0 }, { name := "CASE_INSENSITIVE_ORDER", type := (.object "java/util/Comparator"), accessFlags := 25, slot := 4, constantValue := 0 }, { name := "LATIN1", type := .byte, accessFlags := 24, slot := 5, constantValue := 0 }, { name := "UTF16", type := .byte, accessFlags := 24, slot := 6, constantValue := 0 }]
  methods := #[k9m0, k9m1, k9m2, k9m3, k9m4, k9m5]
  instanceTypes := #[(.array .byte), .byte, .int, .boolean]
  staticTypes := #[.long, .boolean, (.array (.object "java/io/ObjectStreamField")), .char, (.object "java/util/Comparator"), .byte, .byte]
  resolved := Array.replicate 1451 none
  statics := some 1 }

def pool10 : Array CpInfo := pool [(1, .class_ 2), (0, u "java/lang/String"), (1, .class_ 6), (1, u "java/lang/Object"), (0, u "<init>"), (0, u "()V"), (0, .methodref 1 10), (0, .nameAndType 11 12), (0, u "checkIndex"), (0, u "(II)V"), (1, .class_ 16), (1, u "java/lang/StringLatin1"), (36, u "([BI)C"), (67, u "$assertionsDisabled"), (0, u "Z"), (98, .class_ 223), (1, u "java/lang/StringLatin1$LinesSpliterator"), (28, u "charAt"), (137, .class_ 391), (0, u "java/lang/StringLatin1$CharsSpliterator")] 3

def k10m0 : Method := { name := "<init>", desc := "()V", sig := { parameters := [], returnType := none }, accessFlags := 0, code := none }
def k10c1 : Code := { maxStack := 2, maxLocals := 2, code := jdk_43_method_2_code, exceptionTable := #[], attributes := #[] }
def k10m1 : Method := { name := "charAt", desc := "([BI)C", sig := { parameters := [(.array .byte), .int], returnType := some .char }, accessFlags := 9, code := some k10c1 }
/-- java/lang/StringLatin1 -/
def k10 : Class := { plain "java/lang/StringLatin1" (some 0) with
  accessFlags := 48
  interfaces := #[]
  cf := some (fileOf pool10 14 #[.nestMembers #[390, 221]] #[{ accessFlags := 0, nameIndex := 7, descriptorIndex := 8, attributes := #[] }, { accessFlags := 9, nameIndex := 252, descriptorIndex := 53, attributes := #[] }] 48 4 #[] #[{ accessFlags := 4120, nameIndex := 121, descriptorIndex := 122, attributes := #[] }])
  fields := #[{ name := "$assertionsDisabled", type := .boolean, accessFlags := 4120, slot := 0, constantValue := 0 }]
  methods := #[k10m0, k10m1]
  instanceTypes := #[]
  staticTypes := #[.boolean]
  resolved := Array.replicate 395 none
  statics := none }

def pool11 : Array CpInfo := pool [(2, .class_ 4), (1, u "java/lang/Object"), (0, u "<init>"), (0, u "()V"), (17, .class_ 26), (1, u "jdk/internal/util/Preconditions"), (6, u "checkIndex"), (21, .class_ 56), (0, u "jdk/internal/util/Preconditions$4"), (57, .class_ 115), (0, u "jdk/internal/util/Preconditions$1"), (7, u "SIOOBE_FORMATTER"), (0, u "Ljava/util/function/BiFunction;"), (0, .class_ 126), (0, u "jdk/internal/util/Preconditions$2"), (3, u "AIOOBE_FORMATTER"), (0, .class_ 132), (0, u "jdk/internal/util/Preconditions$3"), (3, u "IOOBE_FORMATTER"), (41, u "(IILjava/util/function/BiFunction;)I")] 15

def k11m0 : Method := { name := "<init>", desc := "()V", sig := { parameters := [], returnType := none }, accessFlags := 1, code := none }
def k11c1 : Code := { maxStack := 3, maxLocals := 3, code := jdk_41_method_11_code, exceptionTable := #[], attributes := #[] }
def k11m1 : Method := { name := "checkIndex", desc := "(IILjava/util/function/BiFunction;)I", sig := { parameters := [.int, .int, (.object "java/util/function/BiFunction")], returnType := some .int }, accessFlags := 9, code := some k11c1 }
/-- jdk/internal/util/Preconditions -/
def k11 : Class := { plain "jdk/internal/util/Preconditions" (some 0) with
  accessFlags := 33
  interfaces := #[]
  cf := some (fileOf pool11 24 #[.nestMembers #[55, 131, 125, 114]] #[{ accessFlags := 1, nameIndex := 5, descriptorIndex := 6, attributes := #[] }, { accessFlags := 9, nameIndex := 33, descriptorIndex := 178, attributes := #[] }] 33 2 #[] #[{ accessFlags := 25, nameIndex := 123, descriptorIndex := 124, attributes := #[] }, { accessFlags := 25, nameIndex := 130, descriptorIndex := 124, attributes := #[] }, { accessFlags := 25, nameIndex := 136, descriptorIndex := 124, attributes := #[] }])
  fields := #[{ name := "SIOOBE_FORMATTER", type := (.object "java/util/function/BiFunction"), accessFlags := 25, slot := 0, constantValue := 0 }, { name := "AIOOBE_FORMATTER", type := (.object "java/util/function/BiFunction"), accessFlags := 25, slot := 1, constantValue := 0 }, { name := "IOOBE_FORMATTER", type := (.object "java/util/function/BiFunction"), accessFlags := 25, slot := 2, constantValue := 0 }]
  methods := #[k11m0, k11m1]
  instanceTypes := #[]
  staticTypes := #[(.object "java/util/function/BiFunction"), (.object "java/util/function/BiFunction"), (.object "java/util/function/BiFunction")]
  resolved := Array.replicate 194 none
  statics := some 2 }

def pool12 : Array CpInfo := pool [(9, u "<init>"), (6, .class_ 18), (1, u "java/lang/Object"), (0, u "()V"), (1, .class_ 23), (1, u "jdk/internal/util/ArraysSupport"), (0, u "LOG2_ARRAY_LONG_INDEX_SCALE"), (0, u "I"), (2, u "U"), (0, u "Ljdk/internal/misc/Unsafe;"), (8, u "BIG_ENDIAN"), (0, u "Z"), (8, u "LOG2_BYTE_BIT_SIZE"), (4, u "LOG2_ARRAY_INT_INDEX_SCALE"), (54, u "JLA"), (0, u "Ljdk/internal/access/JavaLangAccess;"), (11, u "LOG2_ARRAY_BOOLEAN_INDEX_SCALE"), (9, u "LOG2_ARRAY_BYTE_INDEX_SCALE"), (5, u "LOG2_ARRAY_CHAR_INDEX_SCALE"), (5, u "LOG2_ARRAY_SHORT_INDEX_SCALE"), (18, u "LOG2_ARRAY_FLOAT_INDEX_SCALE"), (24, u "LOG2_ARRAY_DOUBLE_INDEX_SCALE"), (89, u "T_BOOLEAN"), (2, u "T_CHAR"), (1, u "T_FLOAT"), (1, u "T_DOUBLE"), (1, u "T_BYTE"), (1, u "T_SHORT"), (1, u "T_INT"), (1, u "T_LONG"), (1, u "SOFT_MAX_ARRAY_LENGTH")] 83

def k12m0 : Method := { name := "<init>", desc := "()V", sig := { parameters := [], returnType := none }, accessFlags := 2, code := none }
/-- jdk/internal/util/ArraysSupport -/
def k12 : Class := { plain "jdk/internal/util/ArraysSupport" (some 0) with
  accessFlags := 33
  interfaces := #[]
  cf := some (fileOf pool12 21 #[] #[{ accessFlags := 2, nameIndex := 9, descriptorIndex := 19, attributes := #[] }] 33 16 #[] #[{ accessFlags := 24, nameIndex := 28, descriptorIndex := 29, attributes := #[] }, { accessFlags := 26, nameIndex := 38, descriptorIndex := 39, attributes := #[] }, { accessFlags := 25, nameIndex := 121, descriptorIndex := 25, attributes := #[] }, { accessFlags := 25, nameIndex := 131, descriptorIndex := 25, attributes := #[] }, { accessFlags := 25, nameIndex := 137, descriptorIndex := 25, attributes := #[] }, { accessFlags := 25, nameIndex := 143, descriptorIndex := 25, attributes := #[] }, { accessFlags := 25, nameIndex := 53, descriptorIndex := 25, attributes := #[] }, { accessFlags := 25, nameIndex := 24, descriptorIndex := 25, attributes := #[] }, { accessFlags := 25, nameIndex := 162, descriptorIndex := 25, attributes := #[] }, { accessFlags := 25, nameIndex := 187, descriptorIndex := 25, attributes := #[] }, { accessFlags := 26, nameIndex := 48, descriptorIndex := 25, attributes := #[] }, { accessFlags := 25, nameIndex := 277, descriptorIndex := 25, attributes := #[] }, { accessFlags := 25, nameIndex := 280, descriptorIndex := 25, attributes := #[] }, { accessFlags := 25, nameIndex := 282, descriptorIndex := 25, attributes := #[] }, { accessFlags := 25, nameIndex := 284, descriptorIndex := 25, attributes := #[] }, { accessFlags := 25, nameIndex := 286, descriptorIndex := 25, attributes := #[] }, { accessFlags := 25, nameIndex := 288, descriptorIndex := 25, attributes := #[] }, { accessFlags := 25, nameIndex := 290, descriptorIndex := 25, attributes := #[] }, { accessFlags := 25, nameIndex := 292, descriptorIndex := 25, attributes := #[] }, { accessFlags := 26, nameIndex := 108, descriptorIndex := 109, attributes := #[] }, { accessFlags := 25, nameIndex := 294, descriptorIndex := 25, attributes := #[] }])
  fields := #[{ name := "U", type := (.object "jdk/internal/misc/Unsafe"), accessFlags := 24, slot := 0, constantValue := 0 }, { name := "BIG_ENDIAN", type := .boolean, accessFlags := 26, slot := 1, constantValue := 0 }, { name := "LOG2_ARRAY_BOOLEAN_INDEX_SCALE", type := .int, accessFlags := 25, slot := 2, constantValue := 0 }, { name := "LOG2_ARRAY_BYTE_INDEX_SCALE", type := .int, accessFlags := 25, slot := 3, constantValue := 0 }, { name := "LOG2_ARRAY_CHAR_INDEX_SCALE", type := .int, accessFlags := 25, slot := 4, constantValue := 0 }, { name := "LOG2_ARRAY_SHORT_INDEX_SCALE", type := .int, accessFlags := 25, slot := 5, constantValue := 0 }, { name := "LOG2_ARRAY_INT_INDEX_SCALE", type := .int, accessFlags := 25, slot := 6, constantValue := 0 }, { name := "LOG2_ARRAY_LONG_INDEX_SCALE", type := .int, accessFlags := 25, slot := 7, constantValue := 0 }, { name := "LOG2_ARRAY_FLOAT_INDEX_SCALE", type := .int, accessFlags := 25, slot := 8, constantValue := 0 }, { name := "LOG2_ARRAY_DOUBLE_INDEX_SCALE", type := .int, accessFlags := 25, slot := 9, constantValue := 0 }, { name := "LOG2_BYTE_BIT_SIZE", type := .int, accessFlags := 26, slot := 10, constantValue := 0 }, { name := "T_BOOLEAN", type := .int, accessFlags := 25, slot := 11, constantValue := 0 }, { name := "T_CHAR", type := .int, accessFlags := 25, slot := 12, constantValue := 0 }, { name := "T_FLOAT", type := .int, accessFlags := 25, slot := 13, constantValue := 0 }, { name := "T_DOUBLE", type := .int, accessFlags := 25, slot := 14, constantValue := 0 }, { name := "T_BYTE", type := .int, accessFlags := 25, slot := 15, constantValue := 0 }, { name := "T_SHORT", type := .int, accessFlags := 25, slot := 16, constantValue := 0 }, { name := "T_INT", type := .int, accessFlags := 25, slot := 17, constantValue := 0 }, { name := "T_LONG", type := .int, accessFlags := 25, slot := 18, constantValue := 0 }, { name := "JLA", type := (.object "jdk/internal/access/JavaLangAccess"), accessFlags := 26, slot := 19, constantValue := 0 }, { name := "SOFT_MAX_ARRAY_LENGTH", type := .int, accessFlags := 25, slot := 20, constantValue := 0 }]
  methods := #[k12m0]
  instanceTypes := #[]
  staticTypes := #[(.object "jdk/internal/misc/Unsafe"), .boolean, .int, .int, .int, .int, .int, .int, .int, .int, .int, .int, .int, .int, .int, .int, .int, .int, .int, (.object "jdk/internal/access/JavaLangAccess"), .int]
  resolved := Array.replicate 378 none
  statics := none }

def pool13 : Array CpInfo := pool [(1, u "java/lang/Cloneable"), (0, .class_ 1), (0, u "java/lang/Object"), (0, .class_ 3)] 3

/-- java/lang/Cloneable -/
def k13 : Class := { plain "java/lang/Cloneable" (some 0) with
  accessFlags := 1537
  interfaces := #[]
  cf := some (fileOf pool13 2 #[] #[] 1537 4 #[] #[])
  fields := #[]
  methods := #[]
  instanceTypes := #[]
  staticTypes := #[]
  resolved := Array.replicate 8 none
  statics := none }

/-- the primitive byte -/
def k14 : Class := { plain "byte" none with kind := .primitive 'B', accessFlags := 0x411 }
/-- [B -/
def k15 : Class := { plain "[B" (some 0) with kind := .array 14 .byte, interfaces := #[13, 4], accessFlags := 1041 }

/-- the primitive int -/
def k16 : Class := { plain "int" none with kind := .primitive 'I', accessFlags := 0x411 }
/-- [I -/
def k17 : Class := { plain "[I" (some 0) with kind := .array 16 .int, interfaces := #[13, 4], accessFlags := 1041 }

/-- [Lorg/chronolake/Condition$Operator; -/
def k18 : Class := { plain "[Lorg/chronolake/Condition$Operator;" (some 0) with kind := .array 6 (.object "org/chronolake/Condition$Operator"), interfaces := #[13, 4], accessFlags := 1041 }

def heap : Heap := #[{ cls := 6, slots := #[.ref 13, .ref 14, .ref 15, .ref 16, .ref 17, .null], vm := .statics 6 },
  { cls := 9, slots := #[.long 0, .int 1, .null, .int 0, .null, .int 0, .int 0], vm := .statics 9 },
  { cls := 11, slots := #[.null, .null, .null], vm := .statics 11 },
  { cls := 15, slots := #[.int 61], vm := .none },
  { cls := 15, slots := #[.int 60], vm := .none },
  { cls := 15, slots := #[.int 60, .int 61], vm := .none },
  { cls := 15, slots := #[.int 62], vm := .none },
  { cls := 15, slots := #[.int 62, .int 61], vm := .none },
  { cls := 9, slots := #[.ref 3, .int 0, .int 0, .int 0], vm := .none },
  { cls := 9, slots := #[.ref 4, .int 0, .int 0, .int 0], vm := .none },
  { cls := 9, slots := #[.ref 5, .int 0, .int 0, .int 0], vm := .none },
  { cls := 9, slots := #[.ref 6, .int 0, .int 0, .int 0], vm := .none },
  { cls := 9, slots := #[.ref 7, .int 0, .int 0, .int 0], vm := .none },
  { cls := 6, slots := #[.null, .int 0, .int 0, .ref 8], vm := .none },
  { cls := 6, slots := #[.null, .int 1, .int 0, .ref 9], vm := .none },
  { cls := 6, slots := #[.null, .int 2, .int 0, .ref 10], vm := .none },
  { cls := 6, slots := #[.null, .int 3, .int 0, .ref 11], vm := .none },
  { cls := 6, slots := #[.null, .int 4, .int 0, .ref 12], vm := .none }]
def classes : Array Class := #[k0, k1, k2, k3, k4, k5, k6, k7, k8, k9, k10, k11, k12, k13, k14, k15, k16, k17, k18]
def interned : List (Array UInt16 × Addr) := []
def slotsUsed : Nat := 63
def theMethod : MethodId := ⟨1, 1⟩
def args0 : Array Value := #[.int 7, .int 9]
def aboutOver (below : List Frame) : State where
  vm := { classes := classes, interned := interned.toArray }
  heap := heap
  slotsUsed := slotsUsed
  threads := #[{ frames := .invoking theMethod args0 :: below }]
def below0 : List Frame := [.native { method := ⟨0, 0⟩, args := #[] }]
def about1 : State := aboutOver below0
def p0 : Program := .bare "" "" ""
def e0 : Env := launch0.env 0 0 0
theorem w_frames : about1.frames = Frame.invoking theMethod args0 :: below0 := rfl
set_option maxRecDepth 65536 in
theorem w_args : argsFit about1.vm theMethod args0 = true := by decide +kernel
set_option maxRecDepth 65536 in
theorem w_heap : heapFits about1 = true := by decide +kernel
set_option maxRecDepth 65536 in
theorem w_runnable : about1.curStatus? = some .runnable := by decide +kernel
set_option maxRecDepth 65536 in
theorem w_alone : about1.alone = true := by decide +kernel
set_option maxRecDepth 65536 in
theorem w_named : about1.methodNamed? x = some theMethod := by decide +kernel
set_option maxRecDepth 65536 in
theorem w_hears : about1.hears theMethod below0 = true := by decide +kernel
set_option maxRecDepth 65536 in
theorem w_ripe : about1.ripe theMethod args0 below0 = true := by decide +kernel
theorem w_running : about1.status = .running := rfl
set_option maxRecDepth 65536 in
theorem w_room : about1.hasRoom e0.platform room_1 = true :=
  launch0.hasRoom_least _ room_1 (by decide +kernel) (by decide +kernel) (by decide +kernel) (by decide +kernel) (by decide +kernel) (by decide +kernel)
theorem allAtoms_all (ts : List Jvm.Cond) (a : Array Jvm.Value) (st : Jvm.State) : (allAtoms ts).before a st = ts.all (fun c => c.before a st) := by
  induction ts with
  | nil => rfl
  | cons c t ih =>
    show (Jvm.Cond.and c (allAtoms t)).before a st = _
    rw [Jvm.Cond.before_and, ih, List.all_cons]
def words1 : List Jvm.Cond := Jvm.Cond.code x code maxLocals ret :: tables_1
/-- a 'code' word, met by the world's own term for the bytes: nothing is compared byte by byte -/
theorem code_word {y : MethodName} {bytes : ByteArray} {mx : Nat} {rt : Option FieldType} {a : Array Value} {s : State} {m : MethodId} {meth : Method} {c : Code} (h1 : s.methodNamed? y = some m) (h2 : s.vm.method? m = some meth) (h3 : meth.code = some c) (h4 : c.code = bytes)
    (h5 : (c.maxLocals == mx && c.exceptionTable.isEmpty && decide (c.maxStack ≤ mostOperands) && decide (meth.sig.returnType = rt) && !meth.locks && decide (parseMethodDescriptor y.desc = some meth.sig)) = true) : (Jvm.Cond.code y bytes mx rt).before a s = true := by
  simp only [Bool.and_eq_true, beq_iff_eq, Bool.not_eq_true', decide_eq_true_eq] at h5
  obtain ⟨⟨⟨⟨⟨g1, g2⟩, g3⟩, g4⟩, g5⟩, g6⟩ := h5
  simp [Cond.before, Cond.holds, Cond.value, h1, h2, h3, h4, g1, g2, g3, g4, g5, g6]
def isCode : Jvm.Cond → Bool
  | .code _ _ _ _ => true
  | _ => false
theorem all_split {L : List Jvm.Cond} {P : Jvm.Cond → Bool} (h1 : L.all (fun c => isCode c || P c) = true) (h2 : ∀ c ∈ L.filter isCode, P c = true) : L.all P = true := by
  refine List.all_eq_true.mpr fun c hc => ?_
  have h := List.all_eq_true.mp h1 c hc
  rcases Bool.eq_false_or_eq_true (isCode c) with hi | hi
  · exact h2 c (List.mem_filter.mpr ⟨hc, hi⟩)
  · simpa [hi] using h
set_option maxRecDepth 65536 in
theorem w_c0 : (Jvm.Cond.code x code maxLocals ret).before args0 about1 = true := code_word (m := ⟨1, 1⟩) (meth := k1m1) (c := k1c1) (by decide +kernel) rfl rfl rfl (by decide +kernel)
set_option maxRecDepth 65536 in
theorem w_c1 : (Jvm.Cond.code ({ cls := "org/chronolake/Condition$Operator", name := "symbol", desc := "()Ljava/lang/String;" } : Jvm.MethodName) prog_23_method_4_code (1 : Nat) (Option.some (Jvm.ClassFile.FieldType.object "java/lang/String"))).before args0 about1 = true := code_word (m := ⟨6, 0⟩) (meth := k6m0) (c := k6c0) (by decide +kernel) rfl rfl rfl (by decide +kernel)
set_option maxRecDepth 65536 in
theorem w_c2 : (Jvm.Cond.code ({ cls := "org/chronolake/OperatorHoldsPinLaw", name := "has", desc := "(Ljava/lang/String;C)Z" } : Jvm.MethodName) method_3_code (4 : Nat) (Option.some Jvm.ClassFile.FieldType.boolean)).before args0 about1 = true := code_word (m := ⟨1, 2⟩) (meth := k1m2) (c := k1c2) (by decide +kernel) rfl rfl rfl (by decide +kernel)
set_option maxRecDepth 65536 in
theorem w_c3 : (Jvm.Cond.code ({ cls := "java/lang/String", name := "length", desc := "()I" } : Jvm.MethodName) jdk_42_method_54_code (1 : Nat) (Option.some Jvm.ClassFile.FieldType.int)).before args0 about1 = true := code_word (m := ⟨9, 1⟩) (meth := k9m1) (c := k9c1) (by decide +kernel) rfl rfl rfl (by decide +kernel)
set_option maxRecDepth 65536 in
theorem w_c4 : (Jvm.Cond.code ({ cls := "java/lang/String", name := "coder", desc := "()B" } : Jvm.MethodName) jdk_42_method_152_code (1 : Nat) (Option.some Jvm.ClassFile.FieldType.byte)).before args0 about1 = true := code_word (m := ⟨9, 3⟩) (meth := k9m3) (c := k9c3) (by decide +kernel) rfl rfl rfl (by decide +kernel)
set_option maxRecDepth 65536 in
theorem w_c5 : (Jvm.Cond.code ({ cls := "java/lang/String", name := "charAt", desc := "(I)C" } : Jvm.MethodName) jdk_42_method_56_code (2 : Nat) (Option.some Jvm.ClassFile.FieldType.char)).before args0 about1 = true := code_word (m := ⟨9, 2⟩) (meth := k9m2) (c := k9c2) (by decide +kernel) rfl rfl rfl (by decide +kernel)
set_option maxRecDepth 65536 in
theorem w_c6 : (Jvm.Cond.code ({ cls := "java/lang/String", name := "isLatin1", desc := "()Z" } : Jvm.MethodName) jdk_42_method_154_code (1 : Nat) (Option.some Jvm.ClassFile.FieldType.boolean)).before args0 about1 = true := code_word (m := ⟨9, 4⟩) (meth := k9m4) (c := k9c4) (by decide +kernel) rfl rfl rfl (by decide +kernel)
set_option maxRecDepth 65536 in
theorem w_c7 : (Jvm.Cond.code ({ cls := "java/lang/StringLatin1", name := "charAt", desc := "([BI)C" } : Jvm.MethodName) jdk_43_method_2_code (2 : Nat) (Option.some Jvm.ClassFile.FieldType.char)).before args0 about1 = true := code_word (m := ⟨10, 1⟩) (meth := k10m1) (c := k10c1) (by decide +kernel) rfl rfl rfl (by decide +kernel)
set_option maxRecDepth 65536 in
theorem w_c8 : (Jvm.Cond.code ({ cls := "java/lang/String", name := "checkIndex", desc := "(II)V" } : Jvm.MethodName) jdk_42_method_155_code (2 : Nat) (Option.none : Option Jvm.ClassFile.FieldType)).before args0 about1 = true := code_word (m := ⟨9, 5⟩) (meth := k9m5) (c := k9c5) (by decide +kernel) rfl rfl rfl (by decide +kernel)
set_option maxRecDepth 65536 in
theorem w_c9 : (Jvm.Cond.code ({ cls := "jdk/internal/util/Preconditions", name := "checkIndex", desc := "(IILjava/util/function/BiFunction;)I" } : Jvm.MethodName) jdk_41_method_11_code (3 : Nat) (Option.some Jvm.ClassFile.FieldType.int)).before args0 about1 = true := code_word (m := ⟨11, 1⟩) (meth := k11m1) (c := k11c1) (by decide +kernel) rfl rfl rfl (by decide +kernel)
set_option maxRecDepth 65536 in
theorem w_c10 : (Jvm.Cond.code ({ cls := "org/chronolake/Condition$Operator", name := "holds", desc := "(I)Z" } : Jvm.MethodName) prog_23_method_5_code (2 : Nat) (Option.some Jvm.ClassFile.FieldType.boolean)).before args0 about1 = true := code_word (m := ⟨6, 1⟩) (meth := k6m1) (c := k6c1) (by decide +kernel) rfl rfl rfl (by decide +kernel)
set_option maxRecDepth 65536 in
theorem w_c11 : (Jvm.Cond.code ({ cls := "java/lang/Enum", name := "ordinal", desc := "()I" } : Jvm.MethodName) jdk_37_method_2_code (1 : Nat) (Option.some Jvm.ClassFile.FieldType.int)).before args0 about1 = true := code_word (m := ⟨5, 0⟩) (meth := k5m0) (c := k5c0) (by decide +kernel) rfl rfl rfl (by decide +kernel)
def codes1 : List Jvm.Cond := [Jvm.Cond.code x code maxLocals ret, Jvm.Cond.code ({ cls := "org/chronolake/Condition$Operator", name := "symbol", desc := "()Ljava/lang/String;" } : Jvm.MethodName) prog_23_method_4_code (1 : Nat) (Option.some (Jvm.ClassFile.FieldType.object "java/lang/String")), Jvm.Cond.code ({ cls := "org/chronolake/OperatorHoldsPinLaw", name := "has", desc := "(Ljava/lang/String;C)Z" } : Jvm.MethodName) method_3_code (4 : Nat) (Option.some Jvm.ClassFile.FieldType.boolean), Jvm.Cond.code ({ cls := "java/lang/String", name := "length", desc := "()I" } : Jvm.MethodName) jdk_42_method_54_code (1 : Nat) (Option.some Jvm.ClassFile.FieldType.int), Jvm.Cond.code ({ cls := "java/lang/String", name := "coder", desc := "()B" } : Jvm.MethodName) jdk_42_method_152_code (1 : Nat) (Option.some Jvm.ClassFile.FieldType.byte), Jvm.Cond.code ({ cls := "java/lang/String", name := "charAt", desc := "(I)C" } : Jvm.MethodName) jdk_42_method_56_code (2 : Nat) (Option.some Jvm.ClassFile.FieldType.char), Jvm.Cond.code ({ cls := "java/lang/String", name := "isLatin1", desc := "()Z" } : Jvm.MethodName) jdk_42_method_154_code (1 : Nat) (Option.some Jvm.ClassFile.FieldType.boolean), Jvm.Cond.code ({ cls := "java/lang/StringLatin1", name := "charAt", desc := "([BI)C" } : Jvm.MethodName) jdk_43_method_2_code (2 : Nat) (Option.some Jvm.ClassFile.FieldType.char), Jvm.Cond.code ({ cls := "java/lang/String", name := "checkIndex", desc := "(II)V" } : Jvm.MethodName) jdk_42_method_155_code (2 : Nat) (Option.none : Option Jvm.ClassFile.FieldType), Jvm.Cond.code ({ cls := "jdk/internal/util/Preconditions", name := "checkIndex", desc := "(IILjava/util/function/BiFunction;)I" } : Jvm.MethodName) jdk_41_method_11_code (3 : Nat) (Option.some Jvm.ClassFile.FieldType.int), Jvm.Cond.code ({ cls := "org/chronolake/Condition$Operator", name := "holds", desc := "(I)Z" } : Jvm.MethodName) prog_23_method_5_code (2 : Nat) (Option.some Jvm.ClassFile.FieldType.boolean), Jvm.Cond.code ({ cls := "java/lang/Enum", name := "ordinal", desc := "()I" } : Jvm.MethodName) jdk_37_method_2_code (1 : Nat) (Option.some Jvm.ClassFile.FieldType.int)]
set_option maxRecDepth 65536 in
theorem codes_eq : words1.filter isCode = codes1 := rfl
theorem w_codes : ∀ c ∈ words1.filter isCode, c.before args0 about1 = true := by
  rw [codes_eq]
  intro c hc
  simp only [codes1, List.mem_cons, List.not_mem_nil, or_false] at hc
  rcases hc with rfl | rfl | rfl | rfl | rfl | rfl | rfl | rfl | rfl | rfl | rfl | rfl
  · exact w_c0
  · exact w_c1
  · exact w_c2
  · exact w_c3
  · exact w_c4
  · exact w_c5
  · exact w_c6
  · exact w_c7
  · exact w_c8
  · exact w_c9
  · exact w_c10
  · exact w_c11
set_option maxRecDepth 65536 in
theorem w_t1 : (words1.take 24).all (fun c => isCode c || c.before args0 about1) = true := by decide +kernel
set_option maxRecDepth 65536 in
theorem w_t2 : ((words1.drop 24).take 24).all (fun c => isCode c || c.before args0 about1) = true := by decide +kernel
set_option maxRecDepth 65536 in
theorem w_t3 : (((words1.drop 24).drop 24).take 24).all (fun c => isCode c || c.before args0 about1) = true := by decide +kernel
set_option maxRecDepth 65536 in
theorem w_t4 : (((words1.drop 24).drop 24).drop 24).all (fun c => isCode c || c.before args0 about1) = true := by decide +kernel
theorem w_tables : (allAtoms (Jvm.Cond.code x code maxLocals ret :: tables_1)).before args0 about1 = true := by
  rw [allAtoms_all]
  show words1.all (fun c => c.before args0 about1) = true
  refine all_split ?_ w_codes
  rw [← List.take_append_drop 24 words1, List.all_append, w_t1, ← List.take_append_drop 24 (words1.drop 24), List.all_append, w_t2, ← List.take_append_drop 24 ((words1.drop 24).drop 24), List.all_append, w_t3, w_t4]
  rfl
set_option maxRecDepth 65536 in
theorem w_rest : rest_1_c.before args0 about1 = true := by decide +kernel
set_option maxRecDepth 65536 in
theorem w_case : (Jvm.Cond.and given_1 narrow_1).before args0 about1 = true := by decide +kernel
theorem w_applies : (headSpec (Jvm.Cond.code x code maxLocals ret :: tables_1) room_1).applies x e0.platform about1 = true :=
  (Spec.applies_iff w_frames).mpr ⟨w_running, w_runnable, w_alone, w_named, w_hears, w_ripe, w_room, w_tables⟩
theorem atStart : AtStart classFile x code maxLocals ret World_1 tables_1 room_1 Calls_1 rest_1 Pre_1 launch0 p0 e0 about1 theMethod args0 below0 :=
  ⟨lists_1, trivial, launch0.admits_env _ _ _, launch0.least_env, fairChoices_fair.cas, fairChoices_fair.clock, w_frames, w_args, w_heap, w_applies, trivial, w_rest, w_case⟩
end start1
theorem witness_1 : WitnessClaimed_1 := ⟨start1.p0, start1.e0, start1.about1, start1.theMethod, start1.args0, start1.below0, start1.atStart⟩
end Jvm.Pilot.@@N@@
