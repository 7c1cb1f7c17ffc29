import JvmDerived
import JvmDerived.Pilot.@@N@@Statement
import JvmDerived.Pilot.@@N@@Code
set_option linter.unusedVariables false
set_option linter.unusedSimpArgs false
@@BLOCK:HandJ.lean.txt@@
@@BLOCK:SymMore.lean.txt@@

namespace Jvm.Pilot.@@N@@
open Jvm Jvm.ClassFile Sem Op Lib Jvm.Free Jvm.Stand Jvm.LawKit Jvm.RoadKit Bundle Jvm.Pilot.@@N@@.Jvm.D
/-- from the state S the invocation runs to its end and Q holds there -/
def Ends (p : Program) (e : Env) (below : List Frame) (s : State) (Q : Option Value → Heap → List Loc → Prop) (K N : Nat) (S : State) : Prop :=
  ∃ s₂ o, Steps p.tables e below S s₂ ∧ s₂.status = .running ∧ Ended s₂ below o ∧ ∃ v L, o = .returned v ∧ Q v s₂.heap L ∧ FrameEnd s o s₂ L K N
/-- a method's contract at given arguments and heap -/
def Con (l : Launch) (Z : State) (y : MethodName) (bytes : ByteArray) (maxL : Nat) (rt : Option FieldType) (rm : Room) (as' : Array Value) (h0 : Heap) (Q : Option Value → Heap → List Loc → Prop) : Prop :=
  ∀ ws, MetFree l y (head1 (Jvm.Cond.code y bytes maxL rt :: ws) rm) (fun a U => a = as' ∧ Z.Warmed39 U.vm ∧ U.heap = h0) (fun _ _ _ _ _ => True) (fun _ U o U' => ∃ v L, o = .returned v ∧ Q v U'.heap L ∧ FrameEnd U o U' L rm.cells rm.slots)
section Own
variable {p : Program} {l : Launch} {e : Env} {R : Room} {s : State} {m : MethodId} {args : Array Value} {below : List Frame} {meth : Method} {c : Code} {T : State} {locs : List Loc} {cells slots : Nat} {Q : Option Value → Heap → List Loc → Prop} {K N : Nat} {pc pc' : Nat} {Ls Ls' : Array Slot} {st : List Value} {Z : State} {a0 : Array Value} {h : Heap}
theorem Ends.go {S S' : State} (g : ∀ t, Steps p.tables e below S' t → Steps p.tables e below S t) (E : Ends p e below s Q K N S') : Ends p e below s Q K N S := by
  obtain ⟨s2, o, h1, r⟩ := E; exact ⟨s2, o, g _ h1, r⟩
theorem Con.ofP {y : MethodName} {bytes : ByteArray} {maxL : Nat} {rt : Option FieldType} {rm : Room} {as' : Array Value} {h0 : Heap} (hn : plainFor y = true)
    (body : ∀ (p : Program) (e : Env) (s : State) (m : MethodId) (below : List Frame) (meth : Method) (c : Code) (T : State), Stand p l e rm s m as' below meth c T [] 0 0 → p.tables.exec = Jvm.exec → c.code = bytes → c.maxLocals = maxL → meth.sig.returnType = rt → meth.locks = false → s.vm.findClass y.cls = some m.cls → meth.name = y.name → Z.Warmed39 s.vm → T.heap = h0 →
      Ends p e below s Q rm.cells rm.slots (T.setTop (entryFrame m as' maxL))) : Con l Z y bytes maxL rt rm as' h0 Q := by
  intro ws
  refine MetFree.of_bodySF hn hisR ?_
  intro p e s m args below meth c s₁ Bd hml0 hP hK
  obtain ⟨ha, hZ, hh⟩ := hP
  subst ha
  have X0 : Stand p l e rm s m _ below meth c s₁ [] 0 0 := Stand.of_body Bd
  have e0 : s₁.heap = h0 := by rw [← hh, Bd.state]; rfl
  exact body p e s m below meth c s₁ X0 Bd.exec Bd.bytes hml0 Bd.returns (BodyLoose.notSynchronized Bd) (findClass_of_methodNamed Bd.named) (name_of_methodNamed Bd.named Bd.method).1 hZ e0
theorem Con.of {y : MethodName} {bytes : ByteArray} {maxL : Nat} {rt : Option FieldType} {rm : Room} {as' : Array Value} {h0 : Heap} (hn : plainName y.cls = true)
    (body : ∀ (p : Program) (e : Env) (s : State) (m : MethodId) (below : List Frame) (meth : Method) (c : Code) (T : State), Stand p l e rm s m as' below meth c T [] 0 0 → p.tables.exec = Jvm.exec → c.code = bytes → c.maxLocals = maxL → meth.sig.returnType = rt → meth.locks = false → s.vm.findClass y.cls = some m.cls → meth.name = y.name → Z.Warmed39 s.vm → T.heap = h0 →
      Ends p e below s Q rm.cells rm.slots (T.setTop (entryFrame m as' maxL))) : Con l Z y bytes maxL rt rm as' h0 Q := Con.ofP (plainFor_of_name hn) body
theorem o_aloadN (X : Stand p l e R s m args below meth c T locs cells slots) (hx : p.tables.exec = Jvm.exec) {k : Fin 4} {v : Value} (hd : decode c.code pc = .ok (.aload_n k, 1)) (hl : Ls[k.val]? = some (.val v)) (hv : v.isRef = true) (hp : pc + 1 = pc') (E : Ends p e below s Q K N (T.setTop (mkF m pc' Ls (v :: st)))) : Ends p e below s Q K N (T.setTop (mkF m pc Ls st)) := by
  subst hp; exact Ends.go (fun t q => XS.aloadN X.here hx rfl hd hl hv q) E
theorem o_aload (X : Stand p l e R s m args below meth c T locs cells slots) (hx : p.tables.exec = Jvm.exec) {k : Nat} {v : Value} (hd : decode c.code pc = .ok (.aload k, 2)) (hl : Ls[k]? = some (.val v)) (hv : v.isRef = true) (hp : pc + 2 = pc') (E : Ends p e below s Q K N (T.setTop (mkF m pc' Ls (v :: st)))) : Ends p e below s Q K N (T.setTop (mkF m pc Ls st)) := by
  subst hp; exact Ends.go (fun t q => XS.aload X.here hx rfl hd hl hv q) E
theorem o_iloadN (X : Stand p l e R s m args below meth c T locs cells slots) (hx : p.tables.exec = Jvm.exec) {k : Fin 4} {v : Int32} (hd : decode c.code pc = .ok (.iload_n k, 1)) (hl : Ls[k.val]? = some (.val (.int v))) (hp : pc + 1 = pc') (E : Ends p e below s Q K N (T.setTop (mkF m pc' Ls (.int v :: st)))) : Ends p e below s Q K N (T.setTop (mkF m pc Ls st)) := by
  subst hp; exact Ends.go (fun t q => XS.iloadN X.here hx rfl hd hl q) E
theorem o_iload (X : Stand p l e R s m args below meth c T locs cells slots) (hx : p.tables.exec = Jvm.exec) {k : Nat} {v : Int32} (hd : decode c.code pc = .ok (.iload k, 2)) (hl : Ls[k]? = some (.val (.int v))) (hp : pc + 2 = pc') (E : Ends p e below s Q K N (T.setTop (mkF m pc' Ls (.int v :: st)))) : Ends p e below s Q K N (T.setTop (mkF m pc Ls st)) := by
  subst hp; exact Ends.go (fun t q => XS.iload X.here hx rfl hd hl q) E
theorem o_istoreN (X : Stand p l e R s m args below meth c T locs cells slots) (hx : p.tables.exec = Jvm.exec) {k : Fin 4} {v : Int32} (hd : decode c.code pc = .ok (.istore_n k, 1)) (hl : storeLocals Ls k.val (.int v) = some Ls') (hp : pc + 1 = pc') (E : Ends p e below s Q K N (T.setTop (mkF m pc' Ls' st))) : Ends p e below s Q K N (T.setTop (mkF m pc Ls (.int v :: st))) := by
  subst hp; exact Ends.go (fun t q => XS.istoreN X.here hx rfl hd rfl hl q) E
theorem o_istore (X : Stand p l e R s m args below meth c T locs cells slots) (hx : p.tables.exec = Jvm.exec) {k : Nat} {v : Int32} (hd : decode c.code pc = .ok (.istore k, 2)) (hl : storeLocals Ls k (.int v) = some Ls') (hp : pc + 2 = pc') (E : Ends p e below s Q K N (T.setTop (mkF m pc' Ls' st))) : Ends p e below s Q K N (T.setTop (mkF m pc Ls (.int v :: st))) := by
  subst hp; exact Ends.go (fun t q => XS.istore X.here hx rfl hd rfl hl q) E
theorem o_dloadN (X : Stand p l e R s m args below meth c T locs cells slots) (hx : p.tables.exec = Jvm.exec) {k : Fin 4} {v : UInt64} (hd : decode c.code pc = .ok (.dload_n k, 1)) (hl : Ls[k.val]? = some (.val (.double v))) (hp : pc + 1 = pc') (E : Ends p e below s Q K N (T.setTop (mkF m pc' Ls (.double v :: st)))) : Ends p e below s Q K N (T.setTop (mkF m pc Ls st)) := by
  subst hp; exact Ends.go (fun t q => XS.dloadN X.here hx rfl hd hl q) E
theorem o_dload (X : Stand p l e R s m args below meth c T locs cells slots) (hx : p.tables.exec = Jvm.exec) {k : Nat} {v : UInt64} (hd : decode c.code pc = .ok (.dload k, 2)) (hl : Ls[k]? = some (.val (.double v))) (hp : pc + 2 = pc') (E : Ends p e below s Q K N (T.setTop (mkF m pc' Ls (.double v :: st)))) : Ends p e below s Q K N (T.setTop (mkF m pc Ls st)) := by
  subst hp; exact Ends.go (fun t q => XS.dload X.here hx rfl hd hl q) E
theorem o_astore (X : Stand p l e R s m args below meth c T locs cells slots) (hx : p.tables.exec = Jvm.exec) {k : Nat} {v : Value} (hd : decode c.code pc = .ok (.astore k, 2)) (hv : v.isRef = true) (hl : storeLocals Ls k v = some Ls') (hp : pc + 2 = pc') (E : Ends p e below s Q K N (T.setTop (mkF m pc' Ls' st))) : Ends p e below s Q K N (T.setTop (mkF m pc Ls (v :: st))) := by
  subst hp; exact Ends.go (fun t q => XS.astore X.here hx rfl hd rfl hv hl q) E
theorem o_iconst (X : Stand p l e R s m args below meth c T locs cells slots) (hx : p.tables.exec = Jvm.exec) {i : Int} {v : Int32} (hd : decode c.code pc = .ok (.iconst i, 1)) (hv : Int32.ofInt i = v) (hp : pc + 1 = pc') (E : Ends p e below s Q K N (T.setTop (mkF m pc' Ls (.int v :: st)))) : Ends p e below s Q K N (T.setTop (mkF m pc Ls st)) := by
  subst hp; exact Ends.go (fun t q => XS.iconst X.here hx rfl hd  (by rw [hv]; exact q)) E
theorem o_sipush (X : Stand p l e R s m args below meth c T locs cells slots) (hx : p.tables.exec = Jvm.exec) {i : Int} {v : Int32} (hd : decode c.code pc = .ok (.sipush i, 3)) (hv : (Int16.ofInt i).toInt32 = v) (hp : pc + 3 = pc') (E : Ends p e below s Q K N (T.setTop (mkF m pc' Ls (.int v :: st)))) : Ends p e below s Q K N (T.setTop (mkF m pc Ls st)) := by
  subst hp; exact Ends.go (fun t q => XS.sipush X.here hx rfl hd  (by rw [hv]; exact q)) E
theorem o_iadd (X : Stand p l e R s m args below meth c T locs cells slots) (hx : p.tables.exec = Jvm.exec) {x y : Int32} (hd : decode c.code pc = .ok (.iadd, 1))  (hp : pc + 1 = pc') (E : Ends p e below s Q K N (T.setTop (mkF m pc' Ls (.int (x + y) :: st)))) : Ends p e below s Q K N (T.setTop (mkF m pc Ls (.int y :: .int x :: st))) := by
  subst hp; exact Ends.go (fun t q => XS.iadd X.here hx rfl hd rfl q) E
theorem o_isub (X : Stand p l e R s m args below meth c T locs cells slots) (hx : p.tables.exec = Jvm.exec) {x y : Int32} (hd : decode c.code pc = .ok (.isub, 1))  (hp : pc + 1 = pc') (E : Ends p e below s Q K N (T.setTop (mkF m pc' Ls (.int (x - y) :: st)))) : Ends p e below s Q K N (T.setTop (mkF m pc Ls (.int y :: .int x :: st))) := by
  subst hp; exact Ends.go (fun t q => XS.isub X.here hx rfl hd rfl q) E
theorem o_iand (X : Stand p l e R s m args below meth c T locs cells slots) (hx : p.tables.exec = Jvm.exec) {x y : Int32} (hd : decode c.code pc = .ok (.iand, 1))  (hp : pc + 1 = pc') (E : Ends p e below s Q K N (T.setTop (mkF m pc' Ls (.int (x &&& y) :: st)))) : Ends p e below s Q K N (T.setTop (mkF m pc Ls (.int y :: .int x :: st))) := by
  subst hp; exact Ends.go (fun t q => XS.iand X.here hx rfl hd rfl q) E
theorem o_irem (X : Stand p l e R s m args below meth c T locs cells slots) (hx : p.tables.exec = Jvm.exec) {x y : Int32} (hd : decode c.code pc = .ok (.irem, 1)) (hy : y ≠ 0) (hp : pc + 1 = pc') (E : Ends p e below s Q K N (T.setTop (mkF m pc' Ls (.int (x % y) :: st)))) : Ends p e below s Q K N (T.setTop (mkF m pc Ls (.int y :: .int x :: st))) := by
  subst hp; exact Ends.go (fun t q => iremM (g := mkF m pc Ls (.int y :: .int x :: st)) X hx rfl hd rfl hy q) E
theorem o_dup (X : Stand p l e R s m args below meth c T locs cells slots) (hx : p.tables.exec = Jvm.exec) {v : Value} (hd : decode c.code pc = .ok (.dup, 1)) (hc : v.category = 1) (hp : pc + 1 = pc') (E : Ends p e below s Q K N (T.setTop (mkF m pc' Ls (v :: v :: st)))) : Ends p e below s Q K N (T.setTop (mkF m pc Ls (v :: st))) := by
  subst hp; exact Ends.go (fun t q => XS.dup X.here hx rfl hd rfl hc q) E
theorem o_i2d (X : Stand p l e R s m args below meth c T locs cells slots) (hx : p.tables.exec = Jvm.exec) {x : Int32} {v : UInt64} (hd : decode c.code pc = .ok (.i2d, 1)) (hv : FP.i2d x = v) (hp : pc + 1 = pc') (E : Ends p e below s Q K N (T.setTop (mkF m pc' Ls (.double v :: st)))) : Ends p e below s Q K N (T.setTop (mkF m pc Ls (.int x :: st))) := by
  subst hp; exact Ends.go (fun t q => XS.i2dS X.here hx rfl hd rfl hv q) E
theorem o_ddiv (X : Stand p l e R s m args below meth c T locs cells slots) (hx : p.tables.exec = Jvm.exec) {x y v : UInt64} (hd : decode c.code pc = .ok (.ddiv, 1)) (hv : FP.ddiv x y = v) (hnn : Jvm.Free.Fl.NoNaN64 v) (hp : pc + 1 = pc') (E : Ends p e below s Q K N (T.setTop (mkF m pc' Ls (.double v :: st)))) : Ends p e below s Q K N (T.setTop (mkF m pc Ls (.double y :: .double x :: st))) := by
  subst hp; exact Ends.go (fun t q => XS.ddivS X.here hx rfl hd rfl (hv ▸ hnn) hv q) E
theorem o_dcmp (X : Stand p l e R s m args below meth c T locs cells slots) (hx : p.tables.exec = Jvm.exec) {o : CmpOp} {x y : UInt64} {v : Int32} (hd : decode c.code pc = .ok (.dcmp o, 1)) (hv : cmpValue (FP.dcmp x y) o = v) (hp : pc + 1 = pc') (E : Ends p e below s Q K N (T.setTop (mkF m pc' Ls (.int v :: st)))) : Ends p e below s Q K N (T.setTop (mkF m pc Ls (.double y :: .double x :: st))) := by
  subst hp; exact Ends.go (fun t q => XS.dcmpS X.here hx rfl hd rfl hv q) E
theorem o_ldc (X : Stand p l e R s m args below meth c T locs cells slots) (hx : p.tables.exec = Jvm.exec) {own : String} {index : Nat} {v : Int32} (hd : decode c.code pc = .ok (.ldc index, 2)) (hZ : Z.Warmed39 s.vm) (hown : s.vm.findClass own = some m.cls) (w : (Jvm.Cond.constant own index v).before a0 Z = true) (hp : pc + 2 = pc') (E : Ends p e below s Q K N (T.setTop (mkF m pc' Ls (.int v :: st)))) : Ends p e below s Q K N (T.setTop (mkF m pc Ls st)) := by
  subst hp; exact Ends.go (fun t q => X.ldcInt hx hown (mvT hZ w) (g := mkF m pc Ls st) rfl hd t q) E
theorem o_ldc2D (X : Stand p l e R s m args below meth c T locs cells slots) (hx : p.tables.exec = Jvm.exec) {own : String} {index : Nat} {v : UInt64} (hd : decode c.code pc = .ok (.ldc2_w index, 3)) (hZ : Z.Warmed39 s.vm) (hown : s.vm.findClass own = some m.cls) (w : (Jvm.Cond.constantDouble own index v).before a0 Z = true) (hp : pc + 3 = pc') (E : Ends p e below s Q K N (T.setTop (mkF m pc' Ls (.double v :: st)))) : Ends p e below s Q K N (T.setTop (mkF m pc Ls st)) := by
  subst hp; exact Ends.go (fun t q => X.ldc2DoubleC hx hown (mvT hZ w) (g := mkF m pc Ls st) rfl hd t q) E
theorem o_goto (X : Stand p l e R s m args below meth c T locs cells slots) (hx : p.tables.exec = Jvm.exec) {o : Int} (hd : decode c.code pc = .ok (.goto o, 3)) (ho : 0 ≤ (pc : Int) + o) (hp : ((pc : Int) + o).toNat = pc') (E : Ends p e below s Q K N (T.setTop (mkF m pc' Ls st))) : Ends p e below s Q K N (T.setTop (mkF m pc Ls st)) :=
  Ends.go (fun t q => XS.goto X.here hx rfl (pc0 := pc) rfl hd ho hp q) E
theorem o_icmp_ne (X : Stand p l e R s m args below meth c T locs cells slots) (hx : p.tables.exec = Jvm.exec) {x y : Int32} {o : Int} {p1 p2 : Nat} (hd : decode c.code pc = .ok (.if_icmp .ne o, 3)) (hp : pc + 3 = p1) (ho : 0 ≤ (pc : Int) + o) (hp2 : ((pc : Int) + o).toNat = p2) (E1 : ¬ x = y → Ends p e below s Q K N (T.setTop (mkF m p2 Ls st))) (E2 : x = y → Ends p e below s Q K N (T.setTop (mkF m p1 Ls st))) : Ends p e below s Q K N (T.setTop (mkF m pc Ls (.int y :: .int x :: st))) := by
  subst hp
  by_cases hc : x = y
  · exact Ends.go (fun t q => XS.icmpNo X.here hx rfl hd rfl ((teq hc).2) q) (E2 hc)
  · exact Ends.go (fun t q => XS.icmpYes X.here hx rfl (pc0 := pc) rfl hd rfl ((feq hc).2) ho hp2 q) (E1 hc)
theorem o_icmp_lt (X : Stand p l e R s m args below meth c T locs cells slots) (hx : p.tables.exec = Jvm.exec) {x y : Int32} {o : Int} {p1 p2 : Nat} (hd : decode c.code pc = .ok (.if_icmp .lt o, 3)) (hp : pc + 3 = p1) (ho : 0 ≤ (pc : Int) + o) (hp2 : ((pc : Int) + o).toNat = p2) (E1 : x < y → Ends p e below s Q K N (T.setTop (mkF m p2 Ls st))) (E2 : ¬ x < y → Ends p e below s Q K N (T.setTop (mkF m p1 Ls st))) : Ends p e below s Q K N (T.setTop (mkF m pc Ls (.int y :: .int x :: st))) := by
  subst hp
  by_cases hc : x < y
  · exact Ends.go (fun t q => XS.icmpYes X.here hx rfl (pc0 := pc) rfl hd rfl ((tlt hc).1) ho hp2 q) (E1 hc)
  · exact Ends.go (fun t q => XS.icmpNo X.here hx rfl hd rfl ((flt hc).1) q) (E2 hc)
theorem o_icmp_gt (X : Stand p l e R s m args below meth c T locs cells slots) (hx : p.tables.exec = Jvm.exec) {x y : Int32} {o : Int} {p1 p2 : Nat} (hd : decode c.code pc = .ok (.if_icmp .gt o, 3)) (hp : pc + 3 = p1) (ho : 0 ≤ (pc : Int) + o) (hp2 : ((pc : Int) + o).toNat = p2) (E1 : y < x → Ends p e below s Q K N (T.setTop (mkF m p2 Ls st))) (E2 : ¬ y < x → Ends p e below s Q K N (T.setTop (mkF m p1 Ls st))) : Ends p e below s Q K N (T.setTop (mkF m pc Ls (.int y :: .int x :: st))) := by
  subst hp
  by_cases hc : y < x
  · exact Ends.go (fun t q => XS.icmpYes X.here hx rfl (pc0 := pc) rfl hd rfl ((tlt hc).2.2.1) ho hp2 q) (E1 hc)
  · exact Ends.go (fun t q => XS.icmpNo X.here hx rfl hd rfl ((flt hc).2.2.1) q) (E2 hc)
theorem o_icmp_le (X : Stand p l e R s m args below meth c T locs cells slots) (hx : p.tables.exec = Jvm.exec) {x y : Int32} {o : Int} {p1 p2 : Nat} (hd : decode c.code pc = .ok (.if_icmp .le o, 3)) (hp : pc + 3 = p1) (ho : 0 ≤ (pc : Int) + o) (hp2 : ((pc : Int) + o).toNat = p2) (E1 : ¬ y < x → Ends p e below s Q K N (T.setTop (mkF m p2 Ls st))) (E2 : y < x → Ends p e below s Q K N (T.setTop (mkF m p1 Ls st))) : Ends p e below s Q K N (T.setTop (mkF m pc Ls (.int y :: .int x :: st))) := by
  subst hp
  by_cases hc : y < x
  · exact Ends.go (fun t q => XS.icmpNo X.here hx rfl hd rfl ((tlt hc).2.2.2) q) (E2 hc)
  · exact Ends.go (fun t q => XS.icmpYes X.here hx rfl (pc0 := pc) rfl hd rfl ((flt hc).2.2.2) ho hp2 q) (E1 hc)
theorem o_if_eq (X : Stand p l e R s m args below meth c T locs cells slots) (hx : p.tables.exec = Jvm.exec) {x : Int32} {o : Int} {p1 p2 : Nat} (hd : decode c.code pc = .ok (.ifCond .eq o, 3)) (hp : pc + 3 = p1) (ho : 0 ≤ (pc : Int) + o) (hp2 : ((pc : Int) + o).toNat = p2) (E1 : x = 0 → Ends p e below s Q K N (T.setTop (mkF m p2 Ls st))) (E2 : ¬ x = 0 → Ends p e below s Q K N (T.setTop (mkF m p1 Ls st))) : Ends p e below s Q K N (T.setTop (mkF m pc Ls (.int x :: st))) := by
  subst hp
  by_cases hc : x = 0
  · exact Ends.go (fun t q => XS.ifYes X.here hx rfl (pc0 := pc) rfl hd rfl ((if0 _ _).trans ((teq hc).1)) ho hp2 q) (E1 hc)
  · exact Ends.go (fun t q => XS.ifNo X.here hx rfl hd rfl ((if0 _ _).trans ((feq hc).1)) q) (E2 hc)
theorem o_if_ne (X : Stand p l e R s m args below meth c T locs cells slots) (hx : p.tables.exec = Jvm.exec) {x : Int32} {o : Int} {p1 p2 : Nat} (hd : decode c.code pc = .ok (.ifCond .ne o, 3)) (hp : pc + 3 = p1) (ho : 0 ≤ (pc : Int) + o) (hp2 : ((pc : Int) + o).toNat = p2) (E1 : ¬ x = 0 → Ends p e below s Q K N (T.setTop (mkF m p2 Ls st))) (E2 : x = 0 → Ends p e below s Q K N (T.setTop (mkF m p1 Ls st))) : Ends p e below s Q K N (T.setTop (mkF m pc Ls (.int x :: st))) := by
  subst hp
  by_cases hc : x = 0
  · exact Ends.go (fun t q => XS.ifNo X.here hx rfl hd rfl ((if0 _ _).trans ((teq hc).2)) q) (E2 hc)
  · exact Ends.go (fun t q => XS.ifYes X.here hx rfl (pc0 := pc) rfl hd rfl ((if0 _ _).trans ((feq hc).2)) ho hp2 q) (E1 hc)
theorem o_if_lt (X : Stand p l e R s m args below meth c T locs cells slots) (hx : p.tables.exec = Jvm.exec) {x : Int32} {o : Int} {p1 p2 : Nat} (hd : decode c.code pc = .ok (.ifCond .lt o, 3)) (hp : pc + 3 = p1) (ho : 0 ≤ (pc : Int) + o) (hp2 : ((pc : Int) + o).toNat = p2) (E1 : x < 0 → Ends p e below s Q K N (T.setTop (mkF m p2 Ls st))) (E2 : ¬ x < 0 → Ends p e below s Q K N (T.setTop (mkF m p1 Ls st))) : Ends p e below s Q K N (T.setTop (mkF m pc Ls (.int x :: st))) := by
  subst hp
  by_cases hc : x < 0
  · exact Ends.go (fun t q => XS.ifYes X.here hx rfl (pc0 := pc) rfl hd rfl ((if0 _ _).trans ((tlt hc).1)) ho hp2 q) (E1 hc)
  · exact Ends.go (fun t q => XS.ifNo X.here hx rfl hd rfl ((if0 _ _).trans ((flt hc).1)) q) (E2 hc)
theorem o_if_ge (X : Stand p l e R s m args below meth c T locs cells slots) (hx : p.tables.exec = Jvm.exec) {x : Int32} {o : Int} {p1 p2 : Nat} (hd : decode c.code pc = .ok (.ifCond .ge o, 3)) (hp : pc + 3 = p1) (ho : 0 ≤ (pc : Int) + o) (hp2 : ((pc : Int) + o).toNat = p2) (E1 : ¬ x < 0 → Ends p e below s Q K N (T.setTop (mkF m p2 Ls st))) (E2 : x < 0 → Ends p e below s Q K N (T.setTop (mkF m p1 Ls st))) : Ends p e below s Q K N (T.setTop (mkF m pc Ls (.int x :: st))) := by
  subst hp
  by_cases hc : x < 0
  · exact Ends.go (fun t q => XS.ifNo X.here hx rfl hd rfl ((if0 _ _).trans ((tlt hc).2.1)) q) (E2 hc)
  · exact Ends.go (fun t q => XS.ifYes X.here hx rfl (pc0 := pc) rfl hd rfl ((if0 _ _).trans ((flt hc).2.1)) ho hp2 q) (E1 hc)
theorem o_if_gt (X : Stand p l e R s m args below meth c T locs cells slots) (hx : p.tables.exec = Jvm.exec) {x : Int32} {o : Int} {p1 p2 : Nat} (hd : decode c.code pc = .ok (.ifCond .gt o, 3)) (hp : pc + 3 = p1) (ho : 0 ≤ (pc : Int) + o) (hp2 : ((pc : Int) + o).toNat = p2) (E1 : 0 < x → Ends p e below s Q K N (T.setTop (mkF m p2 Ls st))) (E2 : ¬ 0 < x → Ends p e below s Q K N (T.setTop (mkF m p1 Ls st))) : Ends p e below s Q K N (T.setTop (mkF m pc Ls (.int x :: st))) := by
  subst hp
  by_cases hc : 0 < x
  · exact Ends.go (fun t q => XS.ifYes X.here hx rfl (pc0 := pc) rfl hd rfl ((if0 _ _).trans ((tlt hc).2.2.1)) ho hp2 q) (E1 hc)
  · exact Ends.go (fun t q => XS.ifNo X.here hx rfl hd rfl ((if0 _ _).trans ((flt hc).2.2.1)) q) (E2 hc)
theorem o_if_le (X : Stand p l e R s m args below meth c T locs cells slots) (hx : p.tables.exec = Jvm.exec) {x : Int32} {o : Int} {p1 p2 : Nat} (hd : decode c.code pc = .ok (.ifCond .le o, 3)) (hp : pc + 3 = p1) (ho : 0 ≤ (pc : Int) + o) (hp2 : ((pc : Int) + o).toNat = p2) (E1 : ¬ 0 < x → Ends p e below s Q K N (T.setTop (mkF m p2 Ls st))) (E2 : 0 < x → Ends p e below s Q K N (T.setTop (mkF m p1 Ls st))) : Ends p e below s Q K N (T.setTop (mkF m pc Ls (.int x :: st))) := by
  subst hp
  by_cases hc : 0 < x
  · exact Ends.go (fun t q => XS.ifNo X.here hx rfl hd rfl ((if0 _ _).trans ((tlt hc).2.2.2)) q) (E2 hc)
  · exact Ends.go (fun t q => XS.ifYes X.here hx rfl (pc0 := pc) rfl hd rfl ((if0 _ _).trans ((flt hc).2.2.2)) ho hp2 q) (E1 hc)
theorem o_ret (X : Stand p l e R s m args below meth c T locs cells slots) (hx : p.tables.exec = Jvm.exec) {w : Value} {t : FieldType} {i : Instr} (hlk : meth.locks = false) (hret : meth.sig.returnType = some t) (hd : decode c.code pc = .ok (i, 1)) (hn : narrow t w = w)
    (hi : (i = .ireturn ∧ (t = .int ∨ t = .boolean ∨ t = .byte ∨ t = .char ∨ t = .short) ∧ ∃ z, w = .int z) ∨ (i = .lreturn ∧ t = .long ∧ ∃ z, w = .long z) ∨ (i = .dreturn ∧ t = .double ∧ ∃ z, w = .double z) ∨ (i = .freturn ∧ t = .float ∧ ∃ z, w = .float z) ∨ (i = .areturn ∧ t.isReference = true ∧ w.isRef = true))
    (hq : Q (some w) T.heap locs) (hk : cells ≤ K) (hs : slots ≤ N) : Ends p e below s Q K N (T.setTop (mkF m pc Ls (w :: st))) := by
  obtain ⟨fs, hr, hrun, hended, hW, hsame⟩ := X.leave (v := some w) (fun h => by rw [hret] at h; cases h) hlk
  exact ⟨_, _, retOut X hx hret hn hi hd hr, hrun, hended, _, _, rfl, hq, ⟨_, rfl⟩, hW, hsame.mono hk hs⟩
theorem o_retI (X : Stand p l e R s m args below meth c T locs cells slots) (hx : p.tables.exec = Jvm.exec) {z : Int32} (hlk : meth.locks = false) (hret : meth.sig.returnType = some .int) (hd : decode c.code pc = .ok (.ireturn, 1)) (hq : Q (some (.int z)) T.heap locs) (hk : cells ≤ K) (hs : slots ≤ N) : Ends p e below s Q K N (T.setTop (mkF m pc Ls (.int z :: st))) :=
  o_ret X hx hlk hret hd rfl (Or.inl ⟨rfl, Or.inl rfl, _, rfl⟩) hq hk hs
theorem o_retZ (X : Stand p l e R s m args below meth c T locs cells slots) (hx : p.tables.exec = Jvm.exec) {z : Int32} (hlk : meth.locks = false) (hret : meth.sig.returnType = some .boolean) (hd : decode c.code pc = .ok (.ireturn, 1)) (hz : z &&& 1 = z) (hq : Q (some (.int z)) T.heap locs) (hk : cells ≤ K) (hs : slots ≤ N) : Ends p e below s Q K N (T.setTop (mkF m pc Ls (.int z :: st))) :=
  o_ret X hx hlk hret hd (by show Value.int (z &&& 1) = _; rw [hz]) (Or.inl ⟨rfl, Or.inr (Or.inl rfl), _, rfl⟩) hq hk hs
theorem o_retD (X : Stand p l e R s m args below meth c T locs cells slots) (hx : p.tables.exec = Jvm.exec) {z : UInt64} (hlk : meth.locks = false) (hret : meth.sig.returnType = some .double) (hd : decode c.code pc = .ok (.dreturn, 1)) (hq : Q (some (.double z)) T.heap locs) (hk : cells ≤ K) (hs : slots ≤ N) : Ends p e below s Q K N (T.setTop (mkF m pc Ls (.double z :: st))) :=
  o_ret X hx hlk hret hd rfl (Or.inr (Or.inr (Or.inl ⟨rfl, rfl, _, rfl⟩))) hq hk hs
theorem o_ret0 (X : Stand p l e R s m args below meth c T locs cells slots) (hx : p.tables.exec = Jvm.exec) (hlk : meth.locks = false) (hret : meth.sig.returnType = none) (hd : decode c.code pc = .ok (.return_, 1)) (hq : Q none T.heap locs) (hk : cells ≤ K) (hs : slots ≤ N) : Ends p e below s Q K N (T.setTop (mkF m pc Ls [])) := by
  obtain ⟨fs, hr, hrun, hended, hW, hsame⟩ := X.leave (v := none) (fun _ => rfl) hlk
  exact ⟨_, _, X.returnOut hx hret hd hr, hrun, hended, _, _, rfl, hq, ⟨_, rfl⟩, hW, hsame.mono hk hs⟩
theorem o_callS (X : Stand p l e R s m args below meth c T locs cells slots) (hx : p.tables.exec = Jvm.exec) (hZ : Z.Warmed39 s.vm) {own : String} {index : Nat} {y : MethodName} {bytes : ByteArray} {maxL : Nat} {rt : Option FieldType} {rm : Room} {argsL rest : List Value} {Q' : Option Value → Heap → List Loc → Prop} {ps : List FieldType} {pr : Option FieldType} (hown : s.vm.findClass own = some m.cls) (w1 : (Jvm.Cond.methodLink own index y).before a0 Z = true) (w2 : (Jvm.Cond.static y).before a0 Z = true) (w3 : (Jvm.Cond.initialized y.cls).before a0 Z = true) (w4 : (Jvm.Cond.code y bytes maxL rt).before a0 Z = true)
    (hy : y.cls ≠ "java/lang/invoke/MethodHandle" ∧ y.cls ≠ "java/lang/invoke/VarHandle") (eT : T.heap = h) (hM : Con l Z y bytes maxL rt rm argsL.toArray h Q') (hsz : Ls.size = c.maxLocals) (hpd : parseMethodDescriptor y.desc = some ⟨ps, pr⟩) (hlen : argsL.length = ps.length) (hst : st = argsL.reverse ++ rest) (hd : decode c.code pc = .ok (.invokestatic index, 3)) (hp : pc + 3 = pc')
    {W : Nat} (hf : rm.frames + 1 ≤ R.frames) (hW : (rest.map fun v => v.category).sum = W) (hl : W + (maxL + 11) + rm.locals ≤ R.locals) (hc : cells + rm.cells ≤ R.cells) (hs : slots + rm.slots ≤ R.slots)
    (E : ∀ (v : Option Value) (T' : State) (L : List Loc), Q' v T'.heap L → Stand p l e R s m args below meth c T' (locs ++ L) (cells + rm.cells) (slots + rm.slots) → Ends p e below s Q K N (T'.setTop (mkF m pc' Ls (v.toList ++ rest)))) : Ends p e below s Q K N (T.setTop (mkF m pc Ls st)) := by
  subst hp hst
  obtain ⟨v, _, ⟨T2, L2, k2, n2⟩, -, X2, ⟨Lc2, hQ2, l2, y2, z2⟩, st2⟩ := Jvm.LawKit.callS X hx (y := y) hown (mvT hZ w1) (mvT hZ w2) (mvT hZ w3) (mvT hZ w4) hy (backOf (W := W) (hM []) hZ w4 w3 hf hl) (g := mkF m pc Ls (argsL.reverse ++ rest)) rfl hsz (argsL := argsL) (rest := rest) (lenOf hpd hlen) rfl (by show 2 * 0 + _ ≤ _; omega) hd (fun _ _ => ⟨rfl, eT, hc, hs⟩)
  dsimp only [Pt.U, Pt.locs, Pt.cells, Pt.slots] at X2 l2 y2 z2 st2 hQ2
  subst l2 y2 z2
  exact Ends.go st2 (E v T2 Lc2 hQ2 X2)
theorem o_callC (X : Stand p l e R s m args below meth c T locs cells slots) (hx : p.tables.exec = Jvm.exec) (hZ : Z.Warmed39 s.vm) {own : String} {index : Nat} {y : MethodName} {bytes : ByteArray} {maxL : Nat} {rm : Room} {a : Addr} {argsL rest : List Value} {Q' : Option Value → Heap → List Loc → Prop} {ps : List FieldType} {pr : Option FieldType} (hy1 : y.name = "<init>") (hown : s.vm.findClass own = some m.cls) (w1 : (Jvm.Cond.methodLink own index y).before a0 Z = true) (w2 : (Jvm.Cond.instanceMethod y).before a0 Z = true) (w3 : (Jvm.Cond.initialized y.cls).before a0 Z = true) (w4 : (Jvm.Cond.code y bytes maxL none).before a0 Z = true)
    (hy : y.cls ≠ "java/lang/invoke/MethodHandle" ∧ y.cls ≠ "java/lang/invoke/VarHandle") (eT : T.heap = h) (hM : Con l Z y bytes maxL none rm (.ref a :: argsL).toArray h Q') (hsz : Ls.size = c.maxLocals) (hpd : parseMethodDescriptor y.desc = some ⟨ps, pr⟩) (hlen : argsL.length = ps.length) (hst : st = argsL.reverse ++ .ref a :: rest) (hd : decode c.code pc = .ok (.invokespecial index, 3)) (hp : pc + 3 = pc')
    {W : Nat} (hf : rm.frames + 1 ≤ R.frames) (hW : (rest.map fun v => v.category).sum = W) (hl : W + (maxL + 11) + rm.locals ≤ R.locals) (hc : cells + rm.cells ≤ R.cells) (hs : slots + rm.slots ≤ R.slots)
    (E : ∀ (v : Option Value) (T' : State) (L : List Loc), Q' v T'.heap L → Stand p l e R s m args below meth c T' (locs ++ L) (cells + rm.cells) (slots + rm.slots) → Ends p e below s Q K N (T'.setTop (mkF m pc' Ls (v.toList ++ rest)))) : Ends p e below s Q K N (T.setTop (mkF m pc Ls st)) := by
  subst hp hst
  obtain ⟨v, _, ⟨T2, L2, k2, n2⟩, -, X2, ⟨Lc2, hQ2, l2, y2, z2⟩, st2⟩ := X.specialBack hx (y := y) hy1 hown (mvT hZ w1) (mvT hZ w2) (mvT hZ w4) hy (backOf (W := W) (hM []) hZ w4 w3 hf hl) (g := mkF m pc Ls (argsL.reverse ++ .ref a :: rest)) rfl hsz (Steps.refl _) (a := a) (argsL := argsL) (rest := rest) (lenOf hpd hlen) rfl (by show 2 * 0 + _ ≤ _; omega) hd (fun _ _ => ⟨rfl, eT, hc, hs⟩)
  dsimp only [Pt.U, Pt.locs, Pt.cells, Pt.slots] at X2 l2 y2 z2 st2 hQ2
  subst l2 y2 z2
  exact Ends.go (fun t q => st2.trans q) (E v T2 Lc2 hQ2 X2)
theorem o_callV (X : Stand p l e R s m args below meth c T locs cells slots) (hx : p.tables.exec = Jvm.exec) (hZ : Z.Warmed39 s.vm) {own C : String} {index : Nat} {y : MethodName} {bytes : ByteArray} {maxL : Nat} {rt : Option FieldType} {rm : Room} {b : Addr} {argsL rest : List Value} {Q' : Option Value → Heap → List Loc → Prop} {ps : List FieldType} {pr : Option FieldType} (hown : s.vm.findClass own = some m.cls) (w1 : (Jvm.Cond.methodLink own index y).before a0 Z = true) (w2 : (Jvm.Cond.declares y).before a0 Z = true) (w5 : (Jvm.Cond.selects C y y).before a0 Z = true) (w6 : (Jvm.Cond.instanceMethod y).before a0 Z = true) (w3 : (Jvm.Cond.initialized y.cls).before a0 Z = true) (w4 : (Jvm.Cond.code y bytes maxL rt).before a0 Z = true)
    (hy : y.cls ≠ "java/lang/invoke/MethodHandle" ∧ y.cls ≠ "java/lang/invoke/VarHandle") (eT : T.heap = h) (X1 : Exa Z h b C) (hM : Con l Z y bytes maxL rt rm (.ref b :: argsL).toArray h Q') (hsz : Ls.size = c.maxLocals) (hpd : parseMethodDescriptor y.desc = some ⟨ps, pr⟩) (hlen : argsL.length = ps.length) (hst : st = argsL.reverse ++ .ref b :: rest) (hd : decode c.code pc = .ok (.invokevirtual index, 3)) (hp : pc + 3 = pc')
    {W : Nat} (hf : rm.frames + 1 ≤ R.frames) (hW : (rest.map fun v => v.category).sum = W) (hl : W + (maxL + 11) + rm.locals ≤ R.locals) (hc : cells + rm.cells ≤ R.cells) (hs : slots + rm.slots ≤ R.slots)
    (E : ∀ (v : Option Value) (T' : State) (L : List Loc), Q' v T'.heap L → Stand p l e R s m args below meth c T' (locs ++ L) (cells + rm.cells) (slots + rm.slots) → Ends p e below s Q K N (T'.setTop (mkF m pc' Ls (v.toList ++ rest)))) : Ends p e below s Q K N (T.setTop (mkF m pc Ls st)) := by
  subst hp hst
  obtain ⟨cq, kq, qa, qb, qc⟩ := isOf (T := T) hZ eT X1
  obtain ⟨v, _, ⟨T2, L2, k2, n2⟩, -, X2, ⟨Lc2, hQ2, l2, y2, z2⟩, st2⟩ := X.virtualBack hx (y := y) (z := y) hown (mvT hZ w1) (mvT hZ w2) (notFace_of_selects (args := #[]) (mvT hZ w5)) (mvT hZ w5) (mvT hZ w6) hy (backOf (W := W) (hM []) hZ w4 w3 hf hl) qa qc (g := mkF m pc Ls (argsL.reverse ++ .ref b :: rest)) rfl hsz (Steps.refl _) (argsL := argsL) (rest := rest) (lenOf hpd hlen) rfl (by show 2 * 0 + _ ≤ _; omega) hd (fun _ _ => ⟨rfl, eT, hc, hs⟩)
  dsimp only [Pt.U, Pt.locs, Pt.cells, Pt.slots] at X2 l2 y2 z2 st2 hQ2
  subst l2 y2 z2
  exact Ends.go (fun t q => st2.trans q) (E v T2 Lc2 hQ2 X2)
theorem o_getF (X : Stand p l e R s m args below meth c T locs cells slots) (hx : p.tables.exec = Jvm.exec) (hZ : Z.Warmed39 s.vm) {own R0 O n d : String} {index : Nat} {a : Addr} {v : Value} (hown : s.vm.findClass own = some m.cls) (w : (Jvm.Cond.fieldLink own index R0 n d).before a0 Z = true) (via : Via Z R0 O n d) (eT : T.heap = h) (F : Fld Z h a O n d v) (hd : decode c.code pc = .ok (.getfield index, 3)) (hp : pc + 3 = pc')
    (E : ∀ T', T'.heap = h → Stand p l e R s m args below meth c T' locs cells slots → Ends p e below s Q K N (T'.setTop (mkF m pc' Ls (v :: st)))) : Ends p e below s Q K N (T.setTop (mkF m pc Ls (.ref a :: st))) := by
  subst hp
  obtain ⟨T1, X1, e1, s1⟩ := getF X hx hZ hown (host := "") (Or.inl w) via eT F (g := mkF m pc Ls (.ref a :: st)) rfl rfl hd
  exact Ends.go s1 (E T1 e1 X1)
theorem o_putF (X : Stand p l e R s m args below meth c T locs cells slots) (hx : p.tables.exec = Jvm.exec) (hZ : Z.Warmed39 s.vm) {own R0 O n d C : String} {index kk : Nat} {ty : FieldType} {a : Addr} {v old : Value} (hown : s.vm.findClass own = some m.cls) (w : (Jvm.Cond.fieldLink own index R0 n d).before a0 Z = true) (via : Via Z R0 O n d) (eT : T.heap = h) (F : Fld Z h a O n d old) (X1 : Exa Z h a C) (L : (Jvm.Cond.lays C O n d).before a0 Z = true ∨ ((Jvm.Cond.laysFinal C O n d).before a0 Z = true ∧ own = O ∧ meth.name = "<init>")) (wi : (Jvm.Cond.instantiable C kk).before a0 Z = true)
    (hty : parseFieldDescriptor d = some ty) (hn : narrow ty v = v) (hf : fits ty v = true) (hd : decode c.code pc = .ok (.putfield index, 3)) (hp : pc + 3 = pc')
    (E : ∀ T' h', T'.heap = h' → Wr h h' a (Jvm.RoadKit.slotOf Z O n d) v → Stand p l e R s m args below meth c T' (locs ++ [⟨a, Jvm.RoadKit.slotOf Z O n d⟩]) cells slots → Ends p e below s Q K N (T'.setTop (mkF m pc' Ls st))) : Ends p e below s Q K N (T.setTop (mkF m pc Ls (v :: .ref a :: st))) := by
  subst hp
  obtain ⟨T1, h1, X1, e1, W1, s1⟩ := putF X hx hZ hown (host := "") (Or.inl w) via eT F X1 L wi hty hn hf (g := mkF m pc Ls (v :: .ref a :: st)) rfl rfl hd
  exact Ends.go s1 (E T1 h1 e1 W1 X1)
theorem o_new (X : Stand p l e R s m args below meth c T locs cells slots) (hx : p.tables.exec = Jvm.exec) (hZ : Z.Warmed39 s.vm) {own C : String} {index n : Nat} (hown : s.vm.findClass own = some m.cls) (w : (Jvm.Cond.classLink own index C).before a0 Z = true) (wi : (Jvm.Cond.instantiable C n).before a0 Z = true) (wz : (Jvm.Cond.initialized C).before a0 Z = true) (eT : T.heap = h) (hd : decode c.code pc = .ok (.new index, 3)) (hp : pc + 3 = pc') (hc : cells + 1 ≤ R.cells) (hl : slots + n ≤ R.slots)
    (E : ∀ T' h' a, a = h.size → T'.heap = h' → Ext h h' → Exa Z h' a C → (∀ {O nm d : String} {ty : FieldType}, Laid Z a0 C O nm d → parseFieldDescriptor d = some ty → Fld Z h' a O nm d (defaultValue ty)) → Stand p l e R s m args below meth c T' locs (cells + 1) (slots + n) → Ends p e below s Q K N (T'.setTop (mkF m pc' Ls (.ref a :: st)))) : Ends p e below s Q K N (T.setTop (mkF m pc Ls st)) := by
  subst hp
  obtain ⟨T1, h1, X1, e1, E1, A1, D1, -, s1⟩ := newO X hx hZ hown w wi wz eT (g := mkF m pc Ls st) rfl hd hc hl
  exact Ends.go s1 (E T1 h1 _ rfl e1 E1 A1 D1 X1)
theorem o_initO (X : Stand p l e R s m args below meth c T locs cells slots) (hx : p.tables.exec = Jvm.exec) (hZ : Z.Warmed39 s.vm) {own : String} {idx : Nat} {a : Addr} (hown : s.vm.findClass own = some m.cls) (w1 : (Jvm.Cond.methodLink own idx Lib.objectInit).before a0 Z = true) (w2 : (Jvm.Cond.instanceMethod Lib.objectInit).before a0 Z = true) (w3 : (Jvm.Cond.code Lib.objectInit object_method_1_code 1 none).before a0 Z = true) (eT : T.heap = h) (hsz : Ls.size = c.maxLocals) (hd : decode c.code pc = .ok (.invokespecial idx, 3)) (hp : pc + 3 = pc') {W : Nat} (hf : 1 ≤ R.frames) (hW : (st.map fun v => v.category).sum = W) (hl : W + 12 ≤ R.locals)
    (E : ∀ T', T'.heap = h → Stand p l e R s m args below meth c T' locs cells slots → Ends p e below s Q K N (T'.setTop (mkF m pc' Ls st))) : Ends p e below s Q K N (T.setTop (mkF m pc Ls (.ref a :: st))) := by
  subst hp
  obtain ⟨T1, X1, e1, s1⟩ := initO X hx hZ hown w1 w2 w3 eT (g := mkF m pc Ls (.ref a :: st)) rfl hsz rfl hd hf (W := W) (by show 2 * 0 + _ ≤ _; omega) hl
  exact Ends.go s1 (E T1 e1 X1)
def Cont (cl : Cell) (n : Nat) (g : Nat → Value) : Prop := cl.slots.size = n ∧ ∀ k, k < n → cl.slots[k]? = some (g k)
theorem Cont.new (cA : ClassId) (ty : FieldType) (z : Int32) (n : Nat) (hn : z.toNatClampNeg = n) : Cont (newA cA ty z) n (fun _ => defaultValue ty) := by
  subst hn; exact ⟨sz_new _ _ _, fun k hk => by simp [newA, hk]⟩
theorem Cont.at {cl : Cell} {n : Nat} {g : Nat → Value} (C : Cont cl n g) {j : Int32} (h0 : 0 ≤ j.toInt) (h1 : j.toInt < n) : cl.slots[j.toNatClampNeg]? = some (g j.toNatClampNeg) := C.2 _ (by simp only [Int32.toNatClampNeg]; omega)
end Own
end Jvm.Pilot.@@N@@
namespace Jvm.Pilot.@@N@@
open Jvm Jvm.ClassFile Sem Op Lib Jvm.Free Jvm.Stand Jvm.LawKit Jvm.RoadKit Bundle Jvm.Pilot.@@N@@.Jvm.D
theorem pn_0 : plainName "com/example/sugglint/sugglint/geo/BoxContainsPinLaw" = true := by first | (simp [plainName, overriddenIn]; done) | decide +kernel
theorem pd_0 : parseMethodDescriptor "(IIIIII)Z" = some ⟨[.int, .int, .int, .int, .int, .int], some .boolean⟩ := by decide +kernel
theorem d1_0 : decode method_2_code 0 = .ok (.iload_n 0, 1) := by decide +kernel
theorem d1_1 : decode method_2_code 1 = .ok (.ldc 7, 2) := by decide +kernel
theorem d1_3 : decode method_2_code 3 = .ok (.iand, 1) := by decide +kernel
theorem d1_4 : decode method_2_code 4 = .ok (.sipush 1441, 3) := by decide +kernel
theorem d1_7 : decode method_2_code 7 = .ok (.irem, 1) := by decide +kernel
theorem d1_8 : decode method_2_code 8 = .ok (.sipush 720, 3) := by decide +kernel
theorem d1_11 : decode method_2_code 11 = .ok (.isub, 1) := by decide +kernel
theorem d1_12 : decode method_2_code 12 = .ok (.ireturn, 1) := by decide +kernel
theorem pn_1 : plainName "com/example/sugglint/sugglint/geo/BoxContainsPinLaw" = true := by first | (simp [plainName, overriddenIn]; done) | decide +kernel
theorem pd_1 : parseMethodDescriptor "(I)I" = some ⟨[.int], some .int⟩ := by decide +kernel
theorem d2_0 : decode method_3_code 0 = .ok (.iload_n 0, 1) := by decide +kernel
theorem d2_1 : decode method_3_code 1 = .ok (.ldc 7, 2) := by decide +kernel
theorem d2_3 : decode method_3_code 3 = .ok (.iand, 1) := by decide +kernel
theorem d2_4 : decode method_3_code 4 = .ok (.sipush 721, 3) := by decide +kernel
theorem d2_7 : decode method_3_code 7 = .ok (.irem, 1) := by decide +kernel
theorem d2_8 : decode method_3_code 8 = .ok (.sipush 360, 3) := by decide +kernel
theorem d2_11 : decode method_3_code 11 = .ok (.isub, 1) := by decide +kernel
theorem d2_12 : decode method_3_code 12 = .ok (.ireturn, 1) := by decide +kernel
theorem pn_2 : plainName "com/example/sugglint/sugglint/geo/BoxContainsPinLaw" = true := by first | (simp [plainName, overriddenIn]; done) | decide +kernel
theorem pd_2 : parseMethodDescriptor "(I)I" = some ⟨[.int], some .int⟩ := by decide +kernel
theorem d3_0 : decode jdk_29_method_69_code 0 = .ok (.iload_n 0, 1) := by decide +kernel
theorem d3_1 : decode jdk_29_method_69_code 1 = .ok (.iload_n 1, 1) := by decide +kernel
theorem d3_2 : decode jdk_29_method_69_code 2 = .ok (.if_icmp .gt 7, 3) := by decide +kernel
theorem d3_5 : decode jdk_29_method_69_code 5 = .ok (.iload_n 0, 1) := by decide +kernel
theorem d3_6 : decode jdk_29_method_69_code 6 = .ok (.goto 4, 3) := by decide +kernel
theorem d3_9 : decode jdk_29_method_69_code 9 = .ok (.iload_n 1, 1) := by decide +kernel
theorem d3_10 : decode jdk_29_method_69_code 10 = .ok (.ireturn, 1) := by decide +kernel
theorem pf_3 : plainFor (⟨"java/lang/Math", "min", "(II)I"⟩ : MethodName) = true := by decide +kernel
theorem pd_3 : parseMethodDescriptor "(II)I" = some ⟨[.int, .int], some .int⟩ := by decide +kernel
theorem d4_0 : decode jdk_29_method_65_code 0 = .ok (.iload_n 0, 1) := by decide +kernel
theorem d4_1 : decode jdk_29_method_65_code 1 = .ok (.iload_n 1, 1) := by decide +kernel
theorem d4_2 : decode jdk_29_method_65_code 2 = .ok (.if_icmp .lt 7, 3) := by decide +kernel
theorem d4_5 : decode jdk_29_method_65_code 5 = .ok (.iload_n 0, 1) := by decide +kernel
theorem d4_6 : decode jdk_29_method_65_code 6 = .ok (.goto 4, 3) := by decide +kernel
theorem d4_9 : decode jdk_29_method_65_code 9 = .ok (.iload_n 1, 1) := by decide +kernel
theorem d4_10 : decode jdk_29_method_65_code 10 = .ok (.ireturn, 1) := by decide +kernel
theorem pf_4 : plainFor (⟨"java/lang/Math", "max", "(II)I"⟩ : MethodName) = true := by decide +kernel
theorem pd_4 : parseMethodDescriptor "(II)I" = some ⟨[.int, .int], some .int⟩ := by decide +kernel
theorem d5_0 : decode prog_1_method_1_code 0 = .ok (.aload_n 0, 1) := by decide +kernel
theorem d5_1 : decode prog_1_method_1_code 1 = .ok (.invokespecial 1, 3) := by decide +kernel
theorem d5_4 : decode prog_1_method_1_code 4 = .ok (.dload_n 1, 1) := by decide +kernel
theorem d5_5 : decode prog_1_method_1_code 5 = .ok (.invokestatic 7, 3) := by decide +kernel
theorem d5_8 : decode prog_1_method_1_code 8 = .ok (.dload_n 3, 1) := by decide +kernel
theorem d5_9 : decode prog_1_method_1_code 9 = .ok (.invokestatic 13, 3) := by decide +kernel
theorem d5_12 : decode prog_1_method_1_code 12 = .ok (.dload 5, 2) := by decide +kernel
theorem d5_14 : decode prog_1_method_1_code 14 = .ok (.invokestatic 7, 3) := by decide +kernel
theorem d5_17 : decode prog_1_method_1_code 17 = .ok (.dload 7, 2) := by decide +kernel
theorem d5_19 : decode prog_1_method_1_code 19 = .ok (.invokestatic 13, 3) := by decide +kernel
theorem d5_22 : decode prog_1_method_1_code 22 = .ok (.dload_n 3, 1) := by decide +kernel
theorem d5_23 : decode prog_1_method_1_code 23 = .ok (.dload 7, 2) := by decide +kernel
theorem d5_25 : decode prog_1_method_1_code 25 = .ok (.dcmp .l, 1) := by decide +kernel
theorem d5_26 : decode prog_1_method_1_code 26 = .ok (.ifCond .le 19, 3) := by decide +kernel
theorem d5_29 : decode prog_1_method_1_code 29 = .ok (.new 16, 3) := by decide +kernel
theorem d5_32 : decode prog_1_method_1_code 32 = .ok (.dup, 1) := by decide +kernel
theorem d5_33 : decode prog_1_method_1_code 33 = .ok (.dload_n 3, 1) := by decide +kernel
theorem d5_34 : decode prog_1_method_1_code 34 = .ok (.dload 7, 2) := by decide +kernel
theorem d5_36 : decode prog_1_method_1_code 36 = .ok (.invokedynamic 18, 5) := by decide +kernel
theorem d5_41 : decode prog_1_method_1_code 41 = .ok (.invokespecial 22, 3) := by decide +kernel
theorem d5_44 : decode prog_1_method_1_code 44 = .ok (.athrow, 1) := by decide +kernel
theorem d5_45 : decode prog_1_method_1_code 45 = .ok (.aload_n 0, 1) := by decide +kernel
theorem d5_46 : decode prog_1_method_1_code 46 = .ok (.dload_n 1, 1) := by decide +kernel
theorem d5_47 : decode prog_1_method_1_code 47 = .ok (.putfield 25, 3) := by decide +kernel
theorem d5_50 : decode prog_1_method_1_code 50 = .ok (.aload_n 0, 1) := by decide +kernel
theorem d5_51 : decode prog_1_method_1_code 51 = .ok (.dload_n 3, 1) := by decide +kernel
theorem d5_52 : decode prog_1_method_1_code 52 = .ok (.putfield 31, 3) := by decide +kernel
theorem d5_55 : decode prog_1_method_1_code 55 = .ok (.aload_n 0, 1) := by decide +kernel
theorem d5_56 : decode prog_1_method_1_code 56 = .ok (.dload 5, 2) := by decide +kernel
theorem d5_58 : decode prog_1_method_1_code 58 = .ok (.putfield 34, 3) := by decide +kernel
theorem d5_61 : decode prog_1_method_1_code 61 = .ok (.aload_n 0, 1) := by decide +kernel
theorem d5_62 : decode prog_1_method_1_code 62 = .ok (.dload 7, 2) := by decide +kernel
theorem d5_64 : decode prog_1_method_1_code 64 = .ok (.putfield 37, 3) := by decide +kernel
theorem d5_67 : decode prog_1_method_1_code 67 = .ok (.return_, 1) := by decide +kernel
theorem pn_5 : plainName "com/example/sugglint/sugglint/geo/Box" = true := by first | (simp [plainName, overriddenIn]; done) | decide +kernel
theorem pd_5 : parseMethodDescriptor "(DDDD)V" = some ⟨[.double, .double, .double, .double], none⟩ := by decide +kernel
theorem d6_0 : decode jdk_30_method_1_code 0 = .ok (.aload_n 0, 1) := by decide +kernel
theorem d6_1 : decode jdk_30_method_1_code 1 = .ok (.invokespecial 1, 3) := by decide +kernel
theorem d6_4 : decode jdk_30_method_1_code 4 = .ok (.return_, 1) := by decide +kernel
theorem pn_6 : plainName "java/lang/Record" = true := by first | (simp [plainName, overriddenIn]; done) | decide +kernel
theorem pd_6 : parseMethodDescriptor "()V" = some ⟨[], none⟩ := by decide +kernel
theorem d8_0 : decode prog_3_method_3_code 0 = .ok (.dload_n 0, 1) := by decide +kernel
theorem d8_1 : decode prog_3_method_3_code 1 = .ok (.ldc2_w 36, 3) := by decide +kernel
theorem d8_4 : decode prog_3_method_3_code 4 = .ok (.dcmp .l, 1) := by decide +kernel
theorem d8_5 : decode prog_3_method_3_code 5 = .ok (.ifCond .lt 11, 3) := by decide +kernel
theorem d8_8 : decode prog_3_method_3_code 8 = .ok (.dload_n 0, 1) := by decide +kernel
theorem d8_9 : decode prog_3_method_3_code 9 = .ok (.ldc2_w 38, 3) := by decide +kernel
theorem d8_12 : decode prog_3_method_3_code 12 = .ok (.dcmp .g, 1) := by decide +kernel
theorem d8_13 : decode prog_3_method_3_code 13 = .ok (.ifCond .le 17, 3) := by decide +kernel
theorem d8_16 : decode prog_3_method_3_code 16 = .ok (.new 27, 3) := by decide +kernel
theorem d8_19 : decode prog_3_method_3_code 19 = .ok (.dup, 1) := by decide +kernel
theorem d8_20 : decode prog_3_method_3_code 20 = .ok (.dload_n 0, 1) := by decide +kernel
theorem d8_21 : decode prog_3_method_3_code 21 = .ok (.invokedynamic 40, 5) := by decide +kernel
theorem d8_26 : decode prog_3_method_3_code 26 = .ok (.invokespecial 33, 3) := by decide +kernel
theorem d8_29 : decode prog_3_method_3_code 29 = .ok (.athrow, 1) := by decide +kernel
theorem d8_30 : decode prog_3_method_3_code 30 = .ok (.return_, 1) := by decide +kernel
theorem pn_8 : plainName "com/example/sugglint/sugglint/geo/Point" = true := by first | (simp [plainName, overriddenIn]; done) | decide +kernel
theorem pd_8 : parseMethodDescriptor "(D)V" = some ⟨[.double], none⟩ := by decide +kernel
theorem d9_0 : decode prog_3_method_2_code 0 = .ok (.dload_n 0, 1) := by decide +kernel
theorem d9_1 : decode prog_3_method_2_code 1 = .ok (.ldc2_w 23, 3) := by decide +kernel
theorem d9_4 : decode prog_3_method_2_code 4 = .ok (.dcmp .l, 1) := by decide +kernel
theorem d9_5 : decode prog_3_method_2_code 5 = .ok (.ifCond .lt 11, 3) := by decide +kernel
theorem d9_8 : decode prog_3_method_2_code 8 = .ok (.dload_n 0, 1) := by decide +kernel
theorem d9_9 : decode prog_3_method_2_code 9 = .ok (.ldc2_w 25, 3) := by decide +kernel
theorem d9_12 : decode prog_3_method_2_code 12 = .ok (.dcmp .g, 1) := by decide +kernel
theorem d9_13 : decode prog_3_method_2_code 13 = .ok (.ifCond .le 17, 3) := by decide +kernel
theorem d9_16 : decode prog_3_method_2_code 16 = .ok (.new 27, 3) := by decide +kernel
theorem d9_19 : decode prog_3_method_2_code 19 = .ok (.dup, 1) := by decide +kernel
theorem d9_20 : decode prog_3_method_2_code 20 = .ok (.dload_n 0, 1) := by decide +kernel
theorem d9_21 : decode prog_3_method_2_code 21 = .ok (.invokedynamic 29, 5) := by decide +kernel
theorem d9_26 : decode prog_3_method_2_code 26 = .ok (.invokespecial 33, 3) := by decide +kernel
theorem d9_29 : decode prog_3_method_2_code 29 = .ok (.athrow, 1) := by decide +kernel
theorem d9_30 : decode prog_3_method_2_code 30 = .ok (.return_, 1) := by decide +kernel
theorem pn_9 : plainName "com/example/sugglint/sugglint/geo/Point" = true := by first | (simp [plainName, overriddenIn]; done) | decide +kernel
theorem pd_9 : parseMethodDescriptor "(D)V" = some ⟨[.double], none⟩ := by decide +kernel
theorem d10_0 : decode prog_3_method_1_code 0 = .ok (.aload_n 0, 1) := by decide +kernel
theorem d10_1 : decode prog_3_method_1_code 1 = .ok (.invokespecial 1, 3) := by decide +kernel
theorem d10_4 : decode prog_3_method_1_code 4 = .ok (.dload_n 1, 1) := by decide +kernel
theorem d10_5 : decode prog_3_method_1_code 5 = .ok (.invokestatic 7, 3) := by decide +kernel
theorem d10_8 : decode prog_3_method_1_code 8 = .ok (.dload_n 3, 1) := by decide +kernel
theorem d10_9 : decode prog_3_method_1_code 9 = .ok (.invokestatic 13, 3) := by decide +kernel
theorem d10_12 : decode prog_3_method_1_code 12 = .ok (.aload_n 0, 1) := by decide +kernel
theorem d10_13 : decode prog_3_method_1_code 13 = .ok (.dload_n 1, 1) := by decide +kernel
theorem d10_14 : decode prog_3_method_1_code 14 = .ok (.putfield 16, 3) := by decide +kernel
theorem d10_17 : decode prog_3_method_1_code 17 = .ok (.aload_n 0, 1) := by decide +kernel
theorem d10_18 : decode prog_3_method_1_code 18 = .ok (.dload_n 3, 1) := by decide +kernel
theorem d10_19 : decode prog_3_method_1_code 19 = .ok (.putfield 20, 3) := by decide +kernel
theorem d10_22 : decode prog_3_method_1_code 22 = .ok (.return_, 1) := by decide +kernel
theorem pn_10 : plainName "com/example/sugglint/sugglint/geo/Point" = true := by first | (simp [plainName, overriddenIn]; done) | decide +kernel
theorem pd_10 : parseMethodDescriptor "(DD)V" = some ⟨[.double, .double], none⟩ := by decide +kernel
theorem d11_0 : decode prog_1_method_3_code 0 = .ok (.aload_n 1, 1) := by decide +kernel
theorem d11_1 : decode prog_1_method_3_code 1 = .ok (.invokevirtual 52, 3) := by decide +kernel
theorem d11_4 : decode prog_1_method_3_code 4 = .ok (.aload_n 0, 1) := by decide +kernel
theorem d11_5 : decode prog_1_method_3_code 5 = .ok (.getfield 31, 3) := by decide +kernel
theorem d11_8 : decode prog_1_method_3_code 8 = .ok (.dcmp .l, 1) := by decide +kernel
theorem d11_9 : decode prog_1_method_3_code 9 = .ok (.ifCond .lt 30, 3) := by decide +kernel
theorem d11_12 : decode prog_1_method_3_code 12 = .ok (.aload_n 1, 1) := by decide +kernel
theorem d11_13 : decode prog_1_method_3_code 13 = .ok (.invokevirtual 52, 3) := by decide +kernel
theorem d11_16 : decode prog_1_method_3_code 16 = .ok (.aload_n 0, 1) := by decide +kernel
theorem d11_17 : decode prog_1_method_3_code 17 = .ok (.getfield 37, 3) := by decide +kernel
theorem d11_20 : decode prog_1_method_3_code 20 = .ok (.dcmp .g, 1) := by decide +kernel
theorem d11_21 : decode prog_1_method_3_code 21 = .ok (.ifCond .gt 18, 3) := by decide +kernel
theorem d11_24 : decode prog_1_method_3_code 24 = .ok (.aload_n 0, 1) := by decide +kernel
theorem d11_25 : decode prog_1_method_3_code 25 = .ok (.aload_n 1, 1) := by decide +kernel
theorem d11_26 : decode prog_1_method_3_code 26 = .ok (.invokevirtual 86, 3) := by decide +kernel
theorem d11_29 : decode prog_1_method_3_code 29 = .ok (.invokevirtual 97, 3) := by decide +kernel
theorem d11_32 : decode prog_1_method_3_code 32 = .ok (.ifCond .eq 7, 3) := by decide +kernel
theorem d11_35 : decode prog_1_method_3_code 35 = .ok (.iconst 1, 1) := by decide +kernel
theorem d11_36 : decode prog_1_method_3_code 36 = .ok (.goto 4, 3) := by decide +kernel
theorem d11_39 : decode prog_1_method_3_code 39 = .ok (.iconst 0, 1) := by decide +kernel
theorem d11_40 : decode prog_1_method_3_code 40 = .ok (.ireturn, 1) := by decide +kernel
theorem pn_11 : plainName "com/example/sugglint/sugglint/geo/Box" = true := by first | (simp [plainName, overriddenIn]; done) | decide +kernel
theorem pd_11 : parseMethodDescriptor "(Lcom/example/sugglint/sugglint/geo/Point;)Z" = some ⟨[(.object "com/example/sugglint/sugglint/geo/Point")], some .boolean⟩ := by decide +kernel
theorem d12_0 : decode prog_3_method_8_code 0 = .ok (.aload_n 0, 1) := by decide +kernel
theorem d12_1 : decode prog_3_method_8_code 1 = .ok (.getfield 16, 3) := by decide +kernel
theorem d12_4 : decode prog_3_method_8_code 4 = .ok (.dreturn, 1) := by decide +kernel
theorem pn_12 : plainName "com/example/sugglint/sugglint/geo/Point" = true := by first | (simp [plainName, overriddenIn]; done) | decide +kernel
theorem pd_12 : parseMethodDescriptor "()D" = some ⟨[], some .double⟩ := by decide +kernel
theorem d13_0 : decode prog_3_method_9_code 0 = .ok (.aload_n 0, 1) := by decide +kernel
theorem d13_1 : decode prog_3_method_9_code 1 = .ok (.getfield 20, 3) := by decide +kernel
theorem d13_4 : decode prog_3_method_9_code 4 = .ok (.dreturn, 1) := by decide +kernel
theorem pn_13 : plainName "com/example/sugglint/sugglint/geo/Point" = true := by first | (simp [plainName, overriddenIn]; done) | decide +kernel
theorem pd_13 : parseMethodDescriptor "()D" = some ⟨[], some .double⟩ := by decide +kernel
theorem d14_0 : decode prog_1_method_7_code 0 = .ok (.aload_n 0, 1) := by decide +kernel
theorem d14_1 : decode prog_1_method_7_code 1 = .ok (.getfield 25, 3) := by decide +kernel
theorem d14_4 : decode prog_1_method_7_code 4 = .ok (.aload_n 0, 1) := by decide +kernel
theorem d14_5 : decode prog_1_method_7_code 5 = .ok (.getfield 34, 3) := by decide +kernel
theorem d14_8 : decode prog_1_method_7_code 8 = .ok (.dcmp .g, 1) := by decide +kernel
theorem d14_9 : decode prog_1_method_7_code 9 = .ok (.ifCond .gt 30, 3) := by decide +kernel
theorem d14_12 : decode prog_1_method_7_code 12 = .ok (.dload_n 1, 1) := by decide +kernel
theorem d14_13 : decode prog_1_method_7_code 13 = .ok (.aload_n 0, 1) := by decide +kernel
theorem d14_14 : decode prog_1_method_7_code 14 = .ok (.getfield 25, 3) := by decide +kernel
theorem d14_17 : decode prog_1_method_7_code 17 = .ok (.dcmp .l, 1) := by decide +kernel
theorem d14_18 : decode prog_1_method_7_code 18 = .ok (.ifCond .lt 16, 3) := by decide +kernel
theorem d14_21 : decode prog_1_method_7_code 21 = .ok (.dload_n 1, 1) := by decide +kernel
theorem d14_22 : decode prog_1_method_7_code 22 = .ok (.aload_n 0, 1) := by decide +kernel
theorem d14_23 : decode prog_1_method_7_code 23 = .ok (.getfield 34, 3) := by decide +kernel
theorem d14_26 : decode prog_1_method_7_code 26 = .ok (.dcmp .g, 1) := by decide +kernel
theorem d14_27 : decode prog_1_method_7_code 27 = .ok (.ifCond .gt 7, 3) := by decide +kernel
theorem d14_30 : decode prog_1_method_7_code 30 = .ok (.iconst 1, 1) := by decide +kernel
theorem d14_31 : decode prog_1_method_7_code 31 = .ok (.goto 4, 3) := by decide +kernel
theorem d14_34 : decode prog_1_method_7_code 34 = .ok (.iconst 0, 1) := by decide +kernel
theorem d14_35 : decode prog_1_method_7_code 35 = .ok (.istore_n 3, 1) := by decide +kernel
theorem d14_36 : decode prog_1_method_7_code 36 = .ok (.goto 27, 3) := by decide +kernel
theorem d14_39 : decode prog_1_method_7_code 39 = .ok (.dload_n 1, 1) := by decide +kernel
theorem d14_40 : decode prog_1_method_7_code 40 = .ok (.aload_n 0, 1) := by decide +kernel
theorem d14_41 : decode prog_1_method_7_code 41 = .ok (.getfield 25, 3) := by decide +kernel
theorem d14_44 : decode prog_1_method_7_code 44 = .ok (.dcmp .l, 1) := by decide +kernel
theorem d14_45 : decode prog_1_method_7_code 45 = .ok (.ifCond .ge 12, 3) := by decide +kernel
theorem d14_48 : decode prog_1_method_7_code 48 = .ok (.dload_n 1, 1) := by decide +kernel
theorem d14_49 : decode prog_1_method_7_code 49 = .ok (.aload_n 0, 1) := by decide +kernel
theorem d14_50 : decode prog_1_method_7_code 50 = .ok (.getfield 34, 3) := by decide +kernel
theorem d14_53 : decode prog_1_method_7_code 53 = .ok (.dcmp .g, 1) := by decide +kernel
theorem d14_54 : decode prog_1_method_7_code 54 = .ok (.ifCond .gt 7, 3) := by decide +kernel
theorem d14_57 : decode prog_1_method_7_code 57 = .ok (.iconst 1, 1) := by decide +kernel
theorem d14_58 : decode prog_1_method_7_code 58 = .ok (.goto 4, 3) := by decide +kernel
theorem d14_61 : decode prog_1_method_7_code 61 = .ok (.iconst 0, 1) := by decide +kernel
theorem d14_62 : decode prog_1_method_7_code 62 = .ok (.istore_n 3, 1) := by decide +kernel
theorem d14_63 : decode prog_1_method_7_code 63 = .ok (.iload_n 3, 1) := by decide +kernel
theorem d14_64 : decode prog_1_method_7_code 64 = .ok (.ireturn, 1) := by decide +kernel
theorem pn_14 : plainName "com/example/sugglint/sugglint/geo/Box" = true := by first | (simp [plainName, overriddenIn]; done) | decide +kernel
theorem pd_14 : parseMethodDescriptor "(D)Z" = some ⟨[.double], some .boolean⟩ := by decide +kernel

theorem own_mask31 (x : Int32) : 0 ≤ (x &&& 2147483647).toInt := by
  have := c_mask x 2147483647 31 (by decide) (by decide)
  omega
theorem own_rem (x k : Int32) (n : Int) (hn : 0 < n) (hk : k.toInt = n) (hx : 0 ≤ x.toInt) : 0 ≤ (x % k).toInt ∧ (x % k).toInt < n := by
  have := (c_irem x k n hk).1 hx
  rw [this]
  exact ⟨Int.emod_nonneg _ (by omega), Int.emod_lt_of_pos _ hn⟩
theorem own_is {v : Int32} {k : Int} (h : v.toInt = k) : v = Int32.ofInt k := by rw [← h, Int32.ofInt_toInt]

section Priv
variable {p : Program} {l : Launch} {e : Env} {R : Room} {s : State} {m : MethodId} {args : Array Value} {below : List Frame} {meth : Method} {c : Code} {T : State} {locs : List Loc} {cells slots : Nat} {Q : Option Value → Heap → List Loc → Prop} {K N : Nat} {pc pc' : Nat} {Ls : Array Slot} {st : List Value} {Z : State} {a0 : Array Value} {h : Heap}
theorem o_callP (X : Stand p l e R s m args below meth c T locs cells slots) (hx : p.tables.exec = Jvm.exec) (hZ : Z.Warmed39 s.vm) {own C : String} {index kk : Nat} {y : MethodName} {bytes : ByteArray} {maxL : Nat} {rt : Option FieldType} {rm : Room} {b : Addr} {argsL rest : List Value} {Q' : Option Value → Heap → List Loc → Prop} {ps : List FieldType} {pr : Option FieldType} (hown : s.vm.findClass own = some m.cls) (w1 : (Jvm.Cond.methodLink own index y).before a0 Z = true) (w2 : (Jvm.Cond.instanceMethod y).before a0 Z = true) (wp : (Jvm.Cond.privateMethod y).before a0 Z = true) (wi : (Jvm.Cond.instantiable y.cls kk).before a0 Z = true) (w3 : (Jvm.Cond.initialized y.cls).before a0 Z = true) (w4 : (Jvm.Cond.code y bytes maxL rt).before a0 Z = true)
    (hy : y.cls ≠ "java/lang/invoke/MethodHandle" ∧ y.cls ≠ "java/lang/invoke/VarHandle") (eT : T.heap = h) (X1 : Exa Z h b C) (hM : Con l Z y bytes maxL rt rm (.ref b :: argsL).toArray h Q') (hsz : Ls.size = c.maxLocals) (hpd : parseMethodDescriptor y.desc = some ⟨ps, pr⟩) (hlen : argsL.length = ps.length) (hst : st = argsL.reverse ++ .ref b :: rest) (hd : decode c.code pc = .ok (.invokevirtual index, 3)) (hp : pc + 3 = pc')
    {W : Nat} (hf : rm.frames + 1 ≤ R.frames) (hW : (rest.map fun v => v.category).sum = W) (hl : W + (maxL + 11) + rm.locals ≤ R.locals) (hc : cells + rm.cells ≤ R.cells) (hs : slots + rm.slots ≤ R.slots)
    (E : ∀ (v : Option Value) (T' : State) (L : List Loc), Q' v T'.heap L → Stand p l e R s m args below meth c T' (locs ++ L) (cells + rm.cells) (slots + rm.slots) → Ends p e below s Q K N (T'.setTop (mkF m pc' Ls (v.toList ++ rest)))) : Ends p e below s Q K N (T.setTop (mkF m pc Ls st)) := by
  subst hp hst
  obtain ⟨cq, q1, q2⟩ := X1.cell
  obtain ⟨v, _, ⟨T2, L2, k2, n2⟩, -, X2, ⟨Lc2, hQ2, l2, y2, z2⟩, st2⟩ := X.privateBack hx (y := y) hown (mvT hZ w1) (mvT hZ w2) (Jvm.Kit.selects_private hy (mvT hZ wi) (mvP hZ wp) (mvT hZ w2)) (Cond.privateMethod_at (mvP hZ wp (args := #[]))) (mvT hZ w4) hy (backOf (W := W) (hM []) hZ w4 w3 hf hl) (g := mkF m pc Ls (argsL.reverse ++ .ref b :: rest)) rfl hsz (Steps.refl _) (a := b) (by rw [eT]; exact q1) q2 (argsL := argsL) (rest := rest) (lenOf hpd hlen) rfl (by show 2 * 0 + _ ≤ _; omega) hd (fun _ _ => ⟨rfl, eT, hc, hs⟩)
  dsimp only [Pt.U, Pt.locs, Pt.cells, Pt.slots] at X2 l2 y2 z2 st2 hQ2
  subst l2 y2 z2
  exact Ends.go (fun t q => st2.trans q) (E v T2 Lc2 hQ2 X2)
end Priv

def q4 (i : Int32) : UInt64 := FP.ddiv (FP.i2d i) 4616189618054758400
def qn (n : Nat) : UInt64 := q4 (Int32.ofInt ((n : Int) - 720))
def Rg (i : Int32) : Prop := -720 ≤ i.toInt ∧ i.toInt ≤ 720
def Rl (i : Int32) : Prop := -360 ≤ i.toInt ∧ i.toInt ≤ 360
theorem Rl.rg {i : Int32} (h : Rl i) : Rg i := ⟨by have := h.1; omega, by have := h.2; omega⟩
def sg (i j : Int32) : Int32 := if i < j then (-1 : Int32) else if i = j then (0 : Int32) else (1 : Int32)
theorem own_tab0 : ∀ (a b : Fin 38), qn (38 * a.val + b.val) &&& 0x7fffffffffffffff ≤ 0x7ff0000000000000 ∧ FP.Core.dIsNaN (qn (38 * a.val + b.val)) = false ∧ FP.Core.dkey (qn (38 * a.val + b.val)) < FP.Core.dkey (qn (38 * a.val + b.val + 1)) := by decide +kernel
theorem own_tab (n : Nat) (h : n < 1441) : qn n &&& 0x7fffffffffffffff ≤ 0x7ff0000000000000 ∧ FP.Core.dIsNaN (qn n) = false ∧ FP.Core.dkey (qn n) < FP.Core.dkey (qn (n + 1)) := by
  have k := own_tab0 ⟨n / 38, by omega⟩ ⟨n % 38, by omega⟩
  have e1 : 38 * (n / 38) + n % 38 = n := by omega
  dsimp only at k
  rw [e1] at k
  exact k
theorem own_qn {i : Int32} (h : Rg i) : q4 i = qn (i.toInt + 720).toNat := by
  unfold qn
  rw [show (((i.toInt + 720).toNat : Nat) : Int) - 720 = i.toInt by have := h.1; omega, Int32.ofInt_toInt]
theorem own_nn {i : Int32} (h : Rg i) : Jvm.Free.Fl.NoNaN64 (q4 i) := by
  rw [own_qn h]
  exact (own_tab (i.toInt + 720).toNat (by have := h.1; have := h.2; omega)).1
theorem own_mono : ∀ (d m : Nat), m + d + 1 ≤ 1440 → FP.Core.dkey (qn m) < FP.Core.dkey (qn (m + d + 1))
  | 0, m, h => (own_tab m (by omega)).2.2
  | d + 1, m, h => Int.lt_trans (own_mono d m (by omega)) (own_tab (m + d + 1) (by omega)).2.2
theorem own_cmp {i j : Int32} (hi : Rg i) (hj : Rg j) (o : CmpOp) : cmpValue (FP.dcmp (q4 i) (q4 j)) o = sg i j := by
  have bi := own_tab (i.toInt + 720).toNat (by have := hi.1; have := hi.2; omega)
  have bj := own_tab (j.toInt + 720).toNat (by have := hj.1; have := hj.2; omega)
  have ni := (FP.Core.notNaN_iff _).mp bi.2.1
  have nj := (FP.Core.notNaN_iff _).mp bj.2.1
  have h1 := hi.1; have h2 := hi.2; have h3 := hj.1; have h4 := hj.2
  rw [own_qn hi, own_qn hj]
  by_cases c1 : i.toInt < j.toInt
  · have k := own_mono (j.toInt - i.toInt - 1).toNat (i.toInt + 720).toNat (by omega)
    rw [show (i.toInt + 720).toNat + (j.toInt - i.toInt - 1).toNat + 1 = (j.toInt + 720).toNat by omega] at k
    have r : FP.dcmp (qn (i.toInt + 720).toNat) (qn (j.toInt + 720).toNat) = some .lt := (FP.Core.dcmp_lt_key ni nj).mpr k
    rw [r, sg, if_pos (Int32.lt_iff_toInt_lt.mpr c1)]; cases o <;> rfl
  · by_cases c2 : i.toInt = j.toInt
    · have e1 : i = j := Int32.toInt_inj.mp c2
      subst e1
      have r : FP.dcmp (qn (i.toInt + 720).toNat) (qn (i.toInt + 720).toNat) = some .eq := (FP.Core.dcmp_eq_key ni ni).mpr rfl
      rw [r, sg, if_neg (fun q => c1 (Int32.lt_iff_toInt_lt.mp q)), if_pos rfl]; cases o <;> rfl
    · have k := own_mono (i.toInt - j.toInt - 1).toNat (j.toInt + 720).toNat (by omega)
      rw [show (j.toInt + 720).toNat + (i.toInt - j.toInt - 1).toNat + 1 = (i.toInt + 720).toNat by omega] at k
      have r : FP.dcmp (qn (i.toInt + 720).toNat) (qn (j.toInt + 720).toNat) = some .gt := (FP.Core.dcmp_gt_key ni nj).mpr k
      rw [r, sg, if_neg (fun q => c1 (Int32.lt_iff_toInt_lt.mp q)), if_neg (fun q => c2 (by rw [q]))]; cases o <;> rfl
theorem sg_lt (i j : Int32) : sg i j < (0 : Int32) ↔ i < j := by
  unfold sg
  by_cases c1 : i < j
  · rw [if_pos c1]; exact ⟨fun _ => c1, fun _ => by decide⟩
  · rw [if_neg c1]
    by_cases c2 : i = j
    · rw [if_pos c2]; exact ⟨fun q => absurd q (by decide), fun q => absurd q c1⟩
    · rw [if_neg c2]; exact ⟨fun q => absurd q (by decide), fun q => absurd q c1⟩
theorem sg_gt (i j : Int32) : (0 : Int32) < sg i j ↔ j < i := by
  unfold sg
  by_cases c1 : i < j
  · rw [if_pos c1]; exact ⟨fun q => absurd q (by decide), fun q => by have := Int32.lt_iff_toInt_lt.mp c1; have := Int32.lt_iff_toInt_lt.mp q; omega⟩
  · rw [if_neg c1]
    by_cases c2 : i = j
    · rw [if_pos c2]; exact ⟨fun q => absurd q (by decide), fun q => by subst c2; exact absurd q c1⟩
    · rw [if_neg c2]; exact ⟨fun _ => Int32.lt_iff_toInt_lt.mpr (by have : ¬ i.toInt < j.toInt := fun q => c1 (Int32.lt_iff_toInt_lt.mpr q); have : ¬ i.toInt = j.toInt := fun q => c2 (Int32.toInt_inj.mp q); omega), fun _ => by decide⟩
theorem r720 : Rg (720 : Int32) := by constructor <;> decide
theorem rm720 : Rg (-720 : Int32) := by constructor <;> decide
theorem r360 : Rg (360 : Int32) := by constructor <;> decide
theorem rm360 : Rg (-360 : Int32) := by constructor <;> decide
theorem c720 : (4640537203540230144 : UInt64) = q4 720 := by decide +kernel
theorem cm720 : (13863909240395005952 : UInt64) = q4 (-720) := by decide +kernel
theorem c360 : (4636033603912859648 : UInt64) = q4 360 := by decide +kernel
theorem cm360 : (13859405640767635456 : UInt64) = q4 (-360) := by decide +kernel
def flon (p1 : Int32) : Int32 := ((p1 &&& (2147483647 : Int32)) % (1441 : Int32)) - (720 : Int32)
abbrev Q1 (Z : State) (p1 : Int32) (h0 : Heap) (v : Option Value) (h : Heap) (L : List Loc) : Prop := v = some (.int (flon p1)) ∧ L = [] ∧ h = h0
set_option maxRecDepth 65536 in
set_option maxHeartbeats 40000000 in
theorem rm1 (l : Launch) (Z : State) (a0 : Array Value) (hw : ∀ d ∈ tables_1, d.before a0 Z = true) (p1 : Int32) (h0 : Heap)  :
    Con l Z (⟨"com/example/sugglint/sugglint/geo/BoxContainsPinLaw", "lon4", "(I)I"⟩ : MethodName) method_2_code 1 (some .int) ({ frames := 0, cells := 0, slots := 0, locals := 0 } : Room) #[(.int p1)] h0 (Q1 Z p1 h0) := by
  refine Con.of pn_1 (fun p e s m below meth c T0 X0 hx hby hml hret hlk hown hnm hZ e0 => ?_)
  replace hown : s.vm.findClass "com/example/sugglint/sugglint/geo/BoxContainsPinLaw" = some m.cls := hown
  have ef : entryFrame m #[(.int p1)] 1 = mkF m 0 #[.val (.int p1)] [] := by first | (simp [entryFrame, mkF, argsToLocals, Value.category]; done) | rfl
  rw [ef]
  refine o_iloadN (pc' := 1) X0 hx (hb hby d1_0) rfl rfl ?_
  refine o_ldc (pc' := 3) (v := (2147483647 : Int32)) X0 hx (hb hby d1_1) hZ hown (hw _ (List.mem_of_getElem? (i := 4) rfl)) rfl ?_
  refine o_iand (pc' := 4) X0 hx (hb hby d1_3) rfl ?_
  refine o_sipush (v := (1441 : Int32)) (pc' := 7) X0 hx (hb hby d1_4) (by decide) rfl ?_
  refine o_irem (pc' := 8) X0 hx (hb hby d1_7) (by decide) rfl ?_
  refine o_sipush (v := (720 : Int32)) (pc' := 11) X0 hx (hb hby d1_8) (by decide) rfl ?_
  refine o_isub (pc' := 12) X0 hx (hb hby d1_11) rfl ?_
  exact o_retI X0 hx hlk hret (hb hby d1_12) ⟨rfl, rfl, e0⟩ (by decide) (by decide)
def flat (p1 : Int32) : Int32 := ((p1 &&& (2147483647 : Int32)) % (721 : Int32)) - (360 : Int32)
abbrev Q2 (Z : State) (p1 : Int32) (h0 : Heap) (v : Option Value) (h : Heap) (L : List Loc) : Prop := v = some (.int (flat p1)) ∧ L = [] ∧ h = h0
set_option maxRecDepth 65536 in
set_option maxHeartbeats 40000000 in
theorem rm2 (l : Launch) (Z : State) (a0 : Array Value) (hw : ∀ d ∈ tables_1, d.before a0 Z = true) (p1 : Int32) (h0 : Heap)  :
    Con l Z (⟨"com/example/sugglint/sugglint/geo/BoxContainsPinLaw", "lat4", "(I)I"⟩ : MethodName) method_3_code 1 (some .int) ({ frames := 0, cells := 0, slots := 0, locals := 0 } : Room) #[(.int p1)] h0 (Q2 Z p1 h0) := by
  refine Con.of pn_2 (fun p e s m below meth c T0 X0 hx hby hml hret hlk hown hnm hZ e0 => ?_)
  replace hown : s.vm.findClass "com/example/sugglint/sugglint/geo/BoxContainsPinLaw" = some m.cls := hown
  have ef : entryFrame m #[(.int p1)] 1 = mkF m 0 #[.val (.int p1)] [] := by first | (simp [entryFrame, mkF, argsToLocals, Value.category]; done) | rfl
  rw [ef]
  refine o_iloadN (pc' := 1) X0 hx (hb hby d2_0) rfl rfl ?_
  refine o_ldc (pc' := 3) (v := (2147483647 : Int32)) X0 hx (hb hby d2_1) hZ hown (hw _ (List.mem_of_getElem? (i := 4) rfl)) rfl ?_
  refine o_iand (pc' := 4) X0 hx (hb hby d2_3) rfl ?_
  refine o_sipush (v := (721 : Int32)) (pc' := 7) X0 hx (hb hby d2_4) (by decide) rfl ?_
  refine o_irem (pc' := 8) X0 hx (hb hby d2_7) (by decide) rfl ?_
  refine o_sipush (v := (360 : Int32)) (pc' := 11) X0 hx (hb hby d2_8) (by decide) rfl ?_
  refine o_isub (pc' := 12) X0 hx (hb hby d2_11) rfl ?_
  exact o_retI X0 hx hlk hret (hb hby d2_12) ⟨rfl, rfl, e0⟩ (by decide) (by decide)
def fmin (p1 p2 : Int32) : Int32 := (if p2 < p1 then p2 else p1)
abbrev Q3 (Z : State) (p1 p2 : Int32) (h0 : Heap) (v : Option Value) (h : Heap) (L : List Loc) : Prop := v = some (.int (fmin p1 p2)) ∧ L = [] ∧ h = h0
set_option maxRecDepth 65536 in
set_option maxHeartbeats 40000000 in
theorem rm3 (l : Launch) (Z : State) (a0 : Array Value) (hw : ∀ d ∈ tables_1, d.before a0 Z = true) (p1 p2 : Int32) (h0 : Heap)  :
    Con l Z (⟨"java/lang/Math", "min", "(II)I"⟩ : MethodName) jdk_29_method_69_code 2 (some .int) ({ frames := 0, cells := 0, slots := 0, locals := 0 } : Room) #[(.int p1), (.int p2)] h0 (Q3 Z p1 p2 h0) := by
  refine Con.ofP pf_3 (fun p e s m below meth c T0 X0 hx hby hml hret hlk hown hnm hZ e0 => ?_)
  replace hown : s.vm.findClass "java/lang/Math" = some m.cls := hown
  have ef : entryFrame m #[(.int p1), (.int p2)] 2 = mkF m 0 #[.val (.int p1), .val (.int p2)] [] := by first | (simp [entryFrame, mkF, argsToLocals, Value.category]; done) | rfl
  rw [ef]
  refine o_iloadN (pc' := 1) X0 hx (hb hby d3_0) rfl rfl ?_
  refine o_iloadN (pc' := 2) X0 hx (hb hby d3_1) rfl rfl ?_
  refine o_icmp_gt (p1 := 5) (p2 := 9) X0 hx (hb hby d3_2) rfl (by decide) (by decide) (fun hc2 => ?_) (fun hc2 => ?_)
  · refine o_iloadN (pc' := 10) X0 hx (hb hby d3_9) rfl rfl ?_
    exact o_retI X0 hx hlk hret (hb hby d3_10) ⟨by simp only [fmin, if_pos hc2], rfl, e0⟩ (by decide) (by decide)
  · refine o_iloadN (pc' := 6) X0 hx (hb hby d3_5) rfl rfl ?_
    refine o_goto (pc' := 10) X0 hx (hb hby d3_6) (by decide) (by decide) ?_
    exact o_retI X0 hx hlk hret (hb hby d3_10) ⟨by simp only [fmin, if_neg hc2], rfl, e0⟩ (by decide) (by decide)
def fmax (p1 p2 : Int32) : Int32 := (if p1 < p2 then p2 else p1)
abbrev Q4 (Z : State) (p1 p2 : Int32) (h0 : Heap) (v : Option Value) (h : Heap) (L : List Loc) : Prop := v = some (.int (fmax p1 p2)) ∧ L = [] ∧ h = h0
set_option maxRecDepth 65536 in
set_option maxHeartbeats 40000000 in
theorem rm4 (l : Launch) (Z : State) (a0 : Array Value) (hw : ∀ d ∈ tables_1, d.before a0 Z = true) (p1 p2 : Int32) (h0 : Heap)  :
    Con l Z (⟨"java/lang/Math", "max", "(II)I"⟩ : MethodName) jdk_29_method_65_code 2 (some .int) ({ frames := 0, cells := 0, slots := 0, locals := 0 } : Room) #[(.int p1), (.int p2)] h0 (Q4 Z p1 p2 h0) := by
  refine Con.ofP pf_4 (fun p e s m below meth c T0 X0 hx hby hml hret hlk hown hnm hZ e0 => ?_)
  replace hown : s.vm.findClass "java/lang/Math" = some m.cls := hown
  have ef : entryFrame m #[(.int p1), (.int p2)] 2 = mkF m 0 #[.val (.int p1), .val (.int p2)] [] := by first | (simp [entryFrame, mkF, argsToLocals, Value.category]; done) | rfl
  rw [ef]
  refine o_iloadN (pc' := 1) X0 hx (hb hby d4_0) rfl rfl ?_
  refine o_iloadN (pc' := 2) X0 hx (hb hby d4_1) rfl rfl ?_
  refine o_icmp_lt (p1 := 5) (p2 := 9) X0 hx (hb hby d4_2) rfl (by decide) (by decide) (fun hc2 => ?_) (fun hc2 => ?_)
  · refine o_iloadN (pc' := 10) X0 hx (hb hby d4_9) rfl rfl ?_
    exact o_retI X0 hx hlk hret (hb hby d4_10) ⟨by simp only [fmax, if_pos hc2], rfl, e0⟩ (by decide) (by decide)
  · refine o_iloadN (pc' := 6) X0 hx (hb hby d4_5) rfl rfl ?_
    refine o_goto (pc' := 10) X0 hx (hb hby d4_6) (by decide) (by decide) ?_
    exact o_retI X0 hx hlk hret (hb hby d4_10) ⟨by simp only [fmax, if_neg hc2], rfl, e0⟩ (by decide) (by decide)

theorem own_lon (x : Int32) : Rg (flon x) := by
  have r := own_rem (x &&& 2147483647) 1441 1441 (by decide) (by decide) (own_mask31 x)
  have h1 := c_isub ((x &&& 2147483647) % 1441) 720
  have h2 := rng32 (((x &&& 2147483647) % 1441) - 720)
  have e1 : (720 : Int32).toInt = 720 := by decide
  show -720 ≤ (((x &&& 2147483647) % 1441) - 720).toInt ∧ (((x &&& 2147483647) % 1441) - 720).toInt ≤ 720
  omega
theorem own_lat (x : Int32) : Rl (flat x) := by
  have r := own_rem (x &&& 2147483647) 721 721 (by decide) (by decide) (own_mask31 x)
  have h1 := c_isub ((x &&& 2147483647) % 721) 360
  have h2 := rng32 (((x &&& 2147483647) % 721) - 360)
  have e1 : (360 : Int32).toInt = 360 := by decide
  show -360 ≤ (((x &&& 2147483647) % 721) - 360).toInt ∧ (((x &&& 2147483647) % 721) - 360).toInt ≤ 360
  omega
theorem own_min (a b : Int32) (ha : Rl a) (hb : Rl b) : Rl (fmin a b) ∧ Rl (fmax a b) ∧ ¬ fmax a b < fmin a b := by
  unfold fmin fmax
  have h : ∀ x y : Int32, x < y ↔ x.toInt < y.toInt := fun x y => Int32.lt_iff_toInt_lt
  by_cases c1 : b < a
  · have c2 : ¬ a < b := fun q => by rw [h] at c1 q; omega
    rw [if_pos c1, if_neg c2]; exact ⟨hb, ha, c2⟩
  · rw [if_neg c1]
    by_cases c2 : a < b
    · rw [if_pos c2]; exact ⟨ha, hb, c1⟩
    · rw [if_neg c2]; exact ⟨ha, ha, fun q => by rw [h] at q; omega⟩
abbrev Q6 (Z : State) (a : Addr) (h0 : Heap) (v : Option Value) (h : Heap) (L : List Loc) : Prop := v = none ∧ L = [] ∧ h = h0
set_option maxRecDepth 65536 in
set_option maxHeartbeats 40000000 in
theorem rm6 (l : Launch) (Z : State) (a0 : Array Value) (hw : ∀ d ∈ tables_1, d.before a0 Z = true) (a : Addr) (h0 : Heap)  :
    Con l Z (⟨"java/lang/Record", "<init>", "()V"⟩ : MethodName) jdk_30_method_1_code 1 none ({ frames := 1, cells := 0, slots := 0, locals := 12 } : Room) #[(.ref a)] h0 (Q6 Z a h0) := by
  refine Con.of pn_6 (fun p e s m below meth c T0 X0 hx hby hml hret hlk hown hnm hZ e0 => ?_)
  replace hown : s.vm.findClass "java/lang/Record" = some m.cls := hown
  have ef : entryFrame m #[(.ref a)] 1 = mkF m 0 #[.val (.ref a)] [] := by first | (simp [entryFrame, mkF, argsToLocals, Value.category]; done) | rfl
  rw [ef]
  refine o_aloadN (pc' := 1) X0 hx (hb hby d6_0) rfl rfl rfl ?_
  refine o_initO (W := 0) (pc' := 4) X0 hx hZ hown (hw _ (List.mem_of_getElem? (i := 27) rfl)) (hw _ (List.mem_of_getElem? (i := 28) rfl)) (hw _ (List.mem_of_getElem? (i := 29) rfl)) e0 (by rw [hml]; rfl) (hb hby d6_1) rfl (by decide) rfl (by decide) ?_
  intro T1 e1 X1
  exact o_ret0 X1 hx hlk hret (hb hby d6_4) ⟨rfl, rfl, e1⟩ (by decide) (by decide)
abbrev Q8 (Z : State) (i : Int32) (d : UInt64) (h0 : Heap) (v : Option Value) (h : Heap) (L : List Loc) : Prop := v = none ∧ L = [] ∧ h = h0
set_option maxRecDepth 65536 in
set_option maxHeartbeats 40000000 in
theorem rm8 (l : Launch) (Z : State) (a0 : Array Value) (hw : ∀ d ∈ tables_1, d.before a0 Z = true) (i : Int32) (d : UInt64) (h0 : Heap) (hd : d = q4 i) (hi : Rg i) :
    Con l Z (⟨"com/example/sugglint/sugglint/geo/Point", "checkLongitude", "(D)V"⟩ : MethodName) prog_3_method_3_code 2 none ({ frames := 0, cells := 0, slots := 0, locals := 0 } : Room) #[(.double d)] h0 (Q8 Z i d h0) := by
  refine Con.of pn_8 (fun p e s m below meth c T0 X0 hx hby hml hret hlk hown hnm hZ e0 => ?_)
  replace hown : s.vm.findClass "com/example/sugglint/sugglint/geo/Point" = some m.cls := hown
  have ef : entryFrame m #[(.double d)] 2 = mkF m 0 #[.val (.double d), .second] [] := by first | (simp [entryFrame, mkF, argsToLocals, Value.category]; done) | rfl
  rw [ef]
  subst hd
  refine o_dloadN (pc' := 1) X0 hx (hb hby d8_0) rfl rfl ?_
  refine o_ldc2D (pc' := 4) (v := (13863909240395005952 : UInt64)) X0 hx (hb hby d8_1) hZ hown (hw _ (List.mem_of_getElem? (i := 34) rfl)) rfl ?_
  rw [cm720]
  refine o_dcmp (pc' := 5) (v := sg i (-720 : Int32)) X0 hx (hb hby d8_4) (own_cmp hi rm720 _) rfl ?_
  refine o_if_lt (p1 := 8) (p2 := 16) X0 hx (hb hby d8_5) rfl (by decide) (by decide) (fun hc5 => absurd hc5 (fun z => by have q1 := Int32.lt_iff_toInt_lt.mp ((sg_lt i (-720 : Int32)).mp z); have e1 : (-720 : Int32).toInt = -720 := (by decide); have q2 := hi.1; omega)) (fun hc5 => ?_)
  refine o_dloadN (pc' := 9) X0 hx (hb hby d8_8) rfl rfl ?_
  refine o_ldc2D (pc' := 12) (v := (4640537203540230144 : UInt64)) X0 hx (hb hby d8_9) hZ hown (hw _ (List.mem_of_getElem? (i := 35) rfl)) rfl ?_
  rw [c720]
  refine o_dcmp (pc' := 13) (v := sg i (720 : Int32)) X0 hx (hb hby d8_12) (own_cmp hi r720 _) rfl ?_
  refine o_if_le (p1 := 16) (p2 := 30) X0 hx (hb hby d8_13) rfl (by decide) (by decide) (fun hc13 => ?_) (fun hc13 => absurd hc13 (fun z => by have q1 := Int32.lt_iff_toInt_lt.mp ((sg_gt i (720 : Int32)).mp z); have e1 : (720 : Int32).toInt = 720 := (by decide); have q2 := hi.2; omega))
  exact o_ret0 X0 hx hlk hret (hb hby d8_30) ⟨rfl, rfl, e0⟩ (by decide) (by decide)
abbrev Q9 (Z : State) (i : Int32) (d : UInt64) (h0 : Heap) (v : Option Value) (h : Heap) (L : List Loc) : Prop := v = none ∧ L = [] ∧ h = h0
set_option maxRecDepth 65536 in
set_option maxHeartbeats 40000000 in
theorem rm9 (l : Launch) (Z : State) (a0 : Array Value) (hw : ∀ d ∈ tables_1, d.before a0 Z = true) (i : Int32) (d : UInt64) (h0 : Heap) (hd : d = q4 i) (hi : Rl i) :
    Con l Z (⟨"com/example/sugglint/sugglint/geo/Point", "checkLatitude", "(D)V"⟩ : MethodName) prog_3_method_2_code 2 none ({ frames := 0, cells := 0, slots := 0, locals := 0 } : Room) #[(.double d)] h0 (Q9 Z i d h0) := by
  refine Con.of pn_9 (fun p e s m below meth c T0 X0 hx hby hml hret hlk hown hnm hZ e0 => ?_)
  replace hown : s.vm.findClass "com/example/sugglint/sugglint/geo/Point" = some m.cls := hown
  have ef : entryFrame m #[(.double d)] 2 = mkF m 0 #[.val (.double d), .second] [] := by first | (simp [entryFrame, mkF, argsToLocals, Value.category]; done) | rfl
  rw [ef]
  subst hd
  refine o_dloadN (pc' := 1) X0 hx (hb hby d9_0) rfl rfl ?_
  refine o_ldc2D (pc' := 4) (v := (13859405640767635456 : UInt64)) X0 hx (hb hby d9_1) hZ hown (hw _ (List.mem_of_getElem? (i := 39) rfl)) rfl ?_
  rw [cm360]
  refine o_dcmp (pc' := 5) (v := sg i (-360 : Int32)) X0 hx (hb hby d9_4) (own_cmp hi.rg rm360 _) rfl ?_
  refine o_if_lt (p1 := 8) (p2 := 16) X0 hx (hb hby d9_5) rfl (by decide) (by decide) (fun hc5 => absurd hc5 (fun z => by have q1 := Int32.lt_iff_toInt_lt.mp ((sg_lt i (-360 : Int32)).mp z); have e1 : (-360 : Int32).toInt = -360 := (by decide); have q2 := hi.1; omega)) (fun hc5 => ?_)
  refine o_dloadN (pc' := 9) X0 hx (hb hby d9_8) rfl rfl ?_
  refine o_ldc2D (pc' := 12) (v := (4636033603912859648 : UInt64)) X0 hx (hb hby d9_9) hZ hown (hw _ (List.mem_of_getElem? (i := 40) rfl)) rfl ?_
  rw [c360]
  refine o_dcmp (pc' := 13) (v := sg i (360 : Int32)) X0 hx (hb hby d9_12) (own_cmp hi.rg r360 _) rfl ?_
  refine o_if_le (p1 := 16) (p2 := 30) X0 hx (hb hby d9_13) rfl (by decide) (by decide) (fun hc13 => ?_) (fun hc13 => absurd hc13 (fun z => by have q1 := Int32.lt_iff_toInt_lt.mp ((sg_gt i (360 : Int32)).mp z); have e1 : (360 : Int32).toInt = 360 := (by decide); have q2 := hi.2; omega))
  exact o_ret0 X0 hx hlk hret (hb hby d9_30) ⟨rfl, rfl, e0⟩ (by decide) (by decide)
abbrev Q5 (Z : State) (a : Addr) (n0 : Nat) (i1 i2 i3 i4 : Int32) (d1 d2 d3 d4 : UInt64) (h0 : Heap) (v : Option Value) (h : Heap) (L : List Loc) : Prop := v = none ∧ Fr n0 L ∧ Keep h0 h [a] ∧ Fld Z h a "com/example/sugglint/sugglint/geo/Box" "west" "D" (.double d1) ∧ Fld Z h a "com/example/sugglint/sugglint/geo/Box" "south" "D" (.double d2) ∧ Fld Z h a "com/example/sugglint/sugglint/geo/Box" "east" "D" (.double d3) ∧ Fld Z h a "com/example/sugglint/sugglint/geo/Box" "north" "D" (.double d4)
set_option maxRecDepth 65536 in
set_option maxHeartbeats 40000000 in
theorem rm5 (l : Launch) (Z : State) (a0 : Array Value) (hw : ∀ d ∈ tables_1, d.before a0 Z = true) (a : Addr) (n0 : Nat) (i1 i2 i3 i4 : Int32) (d1 d2 d3 d4 : UInt64) (h0 : Heap) (q0 : n0 ≤ a) (E : Exa Z h0 a "com/example/sugglint/sugglint/geo/Box") (F_west : Fld Z h0 a "com/example/sugglint/sugglint/geo/Box" "west" "D" (.double 0)) (F_south : Fld Z h0 a "com/example/sugglint/sugglint/geo/Box" "south" "D" (.double 0)) (F_east : Fld Z h0 a "com/example/sugglint/sugglint/geo/Box" "east" "D" (.double 0)) (F_north : Fld Z h0 a "com/example/sugglint/sugglint/geo/Box" "north" "D" (.double 0)) (ed1 : d1 = q4 i1) (ed2 : d2 = q4 i2) (ed3 : d3 = q4 i3) (ed4 : d4 = q4 i4) (hi1 : Rg i1) (hi2 : Rl i2) (hi3 : Rg i3) (hi4 : Rl i4) (hle : ¬ i4 < i2) :
    Con l Z (⟨"com/example/sugglint/sugglint/geo/Box", "<init>", "(DDDD)V"⟩ : MethodName) prog_1_method_1_code 9 none ({ frames := 2, cells := 0, slots := 0, locals := 24 } : Room) #[(.ref a), (.double d1), (.double d2), (.double d3), (.double d4)] h0 (Q5 Z a n0 i1 i2 i3 i4 d1 d2 d3 d4 h0) := by
  refine Con.of pn_5 (fun p e s m below meth c T0 X0 hx hby hml hret hlk hown hnm hZ e0 => ?_)
  replace hown : s.vm.findClass "com/example/sugglint/sugglint/geo/Box" = some m.cls := hown
  have ef : entryFrame m #[(.ref a), (.double d1), (.double d2), (.double d3), (.double d4)] 9 = mkF m 0 #[.val (.ref a), .val (.double d1), .second, .val (.double d2), .second, .val (.double d3), .second, .val (.double d4), .second] [] := by first | (simp [entryFrame, mkF, argsToLocals, Value.category]; done) | rfl
  rw [ef]
  have N := Fr.nil n0
  have K := Keep.refl h0 [a]
  refine o_aloadN (pc' := 1) X0 hx (hb hby d5_0) rfl rfl rfl ?_
  refine o_callC (W := 0) (pc' := 4) (rm := ({ frames := 1, cells := 0, slots := 0, locals := 12 } : Room)) (a := a) (argsL := []) (rest := []) X0 hx hZ rfl hown (hw _ (List.mem_of_getElem? (i := 22) rfl)) (hw _ (List.mem_of_getElem? (i := 23) rfl)) (hw _ (List.mem_of_getElem? (i := 25) rfl)) (hw _ (List.mem_of_getElem? (i := 26) rfl)) (by decide) e0 (rm6 l Z a0 hw a h0) (by rw [hml]; rfl) pd_6 rfl rfl (hb hby d5_1) rfl (by decide) rfl (by decide) (by decide) (by decide) ?_
  rintro _ T1 L1 ⟨rfl, rfl, e1⟩ X1
  show Ends p e below s (Q5 Z a n0 i1 i2 i3 i4 d1 d2 d3 d4 h0) ({ frames := 2, cells := 0, slots := 0, locals := 24 } : Room).cells ({ frames := 2, cells := 0, slots := 0, locals := 24 } : Room).slots (T1.setTop (mkF m 4 #[.val (.ref a), .val (.double d1), .second, .val (.double d2), .second, .val (.double d3), .second, .val (.double d4), .second] []))
  refine o_dloadN (pc' := 5) X1 hx (hb hby d5_4) rfl rfl ?_
  refine o_callS (W := 0) (pc' := 8) (rm := ({ frames := 0, cells := 0, slots := 0, locals := 0 } : Room)) (argsL := [(.double d1)]) (rest := []) X1 hx hZ hown (hw _ (List.mem_of_getElem? (i := 30) rfl)) (hw _ (List.mem_of_getElem? (i := 31) rfl)) (hw _ (List.mem_of_getElem? (i := 32) rfl)) (hw _ (List.mem_of_getElem? (i := 33) rfl)) (by decide) e1 (rm8 l Z a0 hw i1 d1 h0 ed1 hi1) (by rw [hml]; rfl) pd_8 rfl rfl (hb hby d5_5) rfl (by decide) rfl (by decide) (by decide) (by decide) ?_
  rintro _ T5 L5 ⟨rfl, rfl, e5⟩ X5
  show Ends p e below s (Q5 Z a n0 i1 i2 i3 i4 d1 d2 d3 d4 h0) ({ frames := 2, cells := 0, slots := 0, locals := 24 } : Room).cells ({ frames := 2, cells := 0, slots := 0, locals := 24 } : Room).slots (T5.setTop (mkF m 8 #[.val (.ref a), .val (.double d1), .second, .val (.double d2), .second, .val (.double d3), .second, .val (.double d4), .second] []))
  refine o_dloadN (pc' := 9) X5 hx (hb hby d5_8) rfl rfl ?_
  refine o_callS (W := 0) (pc' := 12) (rm := ({ frames := 0, cells := 0, slots := 0, locals := 0 } : Room)) (argsL := [(.double d2)]) (rest := []) X5 hx hZ hown (hw _ (List.mem_of_getElem? (i := 36) rfl)) (hw _ (List.mem_of_getElem? (i := 37) rfl)) (hw _ (List.mem_of_getElem? (i := 32) rfl)) (hw _ (List.mem_of_getElem? (i := 38) rfl)) (by decide) e5 (rm9 l Z a0 hw i2 d2 h0 ed2 hi2) (by rw [hml]; rfl) pd_9 rfl rfl (hb hby d5_9) rfl (by decide) rfl (by decide) (by decide) (by decide) ?_
  rintro _ T9 L9 ⟨rfl, rfl, e9⟩ X9
  show Ends p e below s (Q5 Z a n0 i1 i2 i3 i4 d1 d2 d3 d4 h0) ({ frames := 2, cells := 0, slots := 0, locals := 24 } : Room).cells ({ frames := 2, cells := 0, slots := 0, locals := 24 } : Room).slots (T9.setTop (mkF m 12 #[.val (.ref a), .val (.double d1), .second, .val (.double d2), .second, .val (.double d3), .second, .val (.double d4), .second] []))
  refine o_dload (pc' := 14) X9 hx (hb hby d5_12) rfl rfl ?_
  refine o_callS (W := 0) (pc' := 17) (rm := ({ frames := 0, cells := 0, slots := 0, locals := 0 } : Room)) (argsL := [(.double d3)]) (rest := []) X9 hx hZ hown (hw _ (List.mem_of_getElem? (i := 30) rfl)) (hw _ (List.mem_of_getElem? (i := 31) rfl)) (hw _ (List.mem_of_getElem? (i := 32) rfl)) (hw _ (List.mem_of_getElem? (i := 33) rfl)) (by decide) e9 (rm8 l Z a0 hw i3 d3 h0 ed3 hi3) (by rw [hml]; rfl) pd_8 rfl rfl (hb hby d5_14) rfl (by decide) rfl (by decide) (by decide) (by decide) ?_
  rintro _ T14 L14 ⟨rfl, rfl, e14⟩ X14
  show Ends p e below s (Q5 Z a n0 i1 i2 i3 i4 d1 d2 d3 d4 h0) ({ frames := 2, cells := 0, slots := 0, locals := 24 } : Room).cells ({ frames := 2, cells := 0, slots := 0, locals := 24 } : Room).slots (T14.setTop (mkF m 17 #[.val (.ref a), .val (.double d1), .second, .val (.double d2), .second, .val (.double d3), .second, .val (.double d4), .second] []))
  refine o_dload (pc' := 19) X14 hx (hb hby d5_17) rfl rfl ?_
  refine o_callS (W := 0) (pc' := 22) (rm := ({ frames := 0, cells := 0, slots := 0, locals := 0 } : Room)) (argsL := [(.double d4)]) (rest := []) X14 hx hZ hown (hw _ (List.mem_of_getElem? (i := 36) rfl)) (hw _ (List.mem_of_getElem? (i := 37) rfl)) (hw _ (List.mem_of_getElem? (i := 32) rfl)) (hw _ (List.mem_of_getElem? (i := 38) rfl)) (by decide) e14 (rm9 l Z a0 hw i4 d4 h0 ed4 hi4) (by rw [hml]; rfl) pd_9 rfl rfl (hb hby d5_19) rfl (by decide) rfl (by decide) (by decide) (by decide) ?_
  rintro _ T19 L19 ⟨rfl, rfl, e19⟩ X19
  show Ends p e below s (Q5 Z a n0 i1 i2 i3 i4 d1 d2 d3 d4 h0) ({ frames := 2, cells := 0, slots := 0, locals := 24 } : Room).cells ({ frames := 2, cells := 0, slots := 0, locals := 24 } : Room).slots (T19.setTop (mkF m 22 #[.val (.ref a), .val (.double d1), .second, .val (.double d2), .second, .val (.double d3), .second, .val (.double d4), .second] []))
  have hcm : ∀ o, cmpValue (FP.dcmp d2 d4) o = sg i2 i4 := fun o => by rw [ed2, ed4]; exact own_cmp hi2.rg hi4.rg o
  refine o_dloadN (pc' := 23) X19 hx (hb hby d5_22) rfl rfl ?_
  refine o_dload (pc' := 25) X19 hx (hb hby d5_23) rfl rfl ?_
  refine o_dcmp (pc' := 26) (v := sg i2 i4) X19 hx (hb hby d5_25) (hcm _) rfl ?_
  refine o_if_le (p1 := 29) (p2 := 45) X19 hx (hb hby d5_26) rfl (by decide) (by decide) (fun hc26 => ?_) (fun hc26 => absurd hc26 (fun z => hle ((sg_gt i2 i4).mp z)))
  refine o_aloadN (pc' := 46) X19 hx (hb hby d5_45) rfl rfl rfl ?_
  refine o_dloadN (pc' := 47) X19 hx (hb hby d5_46) rfl rfl ?_
  refine o_putF (pc' := 50) (ty := .double) X19 hx hZ hown (hw _ (List.mem_of_getElem? (i := 41) rfl)) Via.refl e19 F_west E (Or.inr ⟨(hw _ (List.mem_of_getElem? (i := 42) rfl)), rfl, hnm⟩) (hw _ (List.mem_of_getElem? (i := 16) rfl)) (by decide) rfl rfl (hb hby d5_47) rfl ?_
  intro T47 h47 e47 W47 X47
  replace N := Fr.snoc X47 N q0
  replace K := K.wr W47 (Or.inl (List.mem_cons_self ..))
  replace E := E.wr W47
  replace F_west := F_west.same W47
  replace F_south := F_south.other W47 (Or.inr (slot_ne (C := "com/example/sugglint/sugglint/geo/Box") (t := .double) (t' := .double) (Or.inr (hw _ (List.mem_of_getElem? (i := 44) rfl))) (Or.inr (hw _ (List.mem_of_getElem? (i := 42) rfl))) (by decide) (by decide) (by decide)))
  replace F_east := F_east.other W47 (Or.inr (slot_ne (C := "com/example/sugglint/sugglint/geo/Box") (t := .double) (t' := .double) (Or.inr (hw _ (List.mem_of_getElem? (i := 46) rfl))) (Or.inr (hw _ (List.mem_of_getElem? (i := 42) rfl))) (by decide) (by decide) (by decide)))
  replace F_north := F_north.other W47 (Or.inr (slot_ne (C := "com/example/sugglint/sugglint/geo/Box") (t := .double) (t' := .double) (Or.inr (hw _ (List.mem_of_getElem? (i := 48) rfl))) (Or.inr (hw _ (List.mem_of_getElem? (i := 42) rfl))) (by decide) (by decide) (by decide)))
  refine o_aloadN (pc' := 51) X47 hx (hb hby d5_50) rfl rfl rfl ?_
  refine o_dloadN (pc' := 52) X47 hx (hb hby d5_51) rfl rfl ?_
  refine o_putF (pc' := 55) (ty := .double) X47 hx hZ hown (hw _ (List.mem_of_getElem? (i := 43) rfl)) Via.refl e47 F_south E (Or.inr ⟨(hw _ (List.mem_of_getElem? (i := 44) rfl)), rfl, hnm⟩) (hw _ (List.mem_of_getElem? (i := 16) rfl)) (by decide) rfl rfl (hb hby d5_52) rfl ?_
  intro T52 h52 e52 W52 X52
  replace N := Fr.snoc X52 N q0
  replace K := K.wr W52 (Or.inl (List.mem_cons_self ..))
  replace E := E.wr W52
  replace F_west := F_west.other W52 (Or.inr (slot_ne (C := "com/example/sugglint/sugglint/geo/Box") (t := .double) (t' := .double) (Or.inr (hw _ (List.mem_of_getElem? (i := 42) rfl))) (Or.inr (hw _ (List.mem_of_getElem? (i := 44) rfl))) (by decide) (by decide) (by decide)))
  replace F_south := F_south.same W52
  replace F_east := F_east.other W52 (Or.inr (slot_ne (C := "com/example/sugglint/sugglint/geo/Box") (t := .double) (t' := .double) (Or.inr (hw _ (List.mem_of_getElem? (i := 46) rfl))) (Or.inr (hw _ (List.mem_of_getElem? (i := 44) rfl))) (by decide) (by decide) (by decide)))
  replace F_north := F_north.other W52 (Or.inr (slot_ne (C := "com/example/sugglint/sugglint/geo/Box") (t := .double) (t' := .double) (Or.inr (hw _ (List.mem_of_getElem? (i := 48) rfl))) (Or.inr (hw _ (List.mem_of_getElem? (i := 44) rfl))) (by decide) (by decide) (by decide)))
  refine o_aloadN (pc' := 56) X52 hx (hb hby d5_55) rfl rfl rfl ?_
  refine o_dload (pc' := 58) X52 hx (hb hby d5_56) rfl rfl ?_
  refine o_putF (pc' := 61) (ty := .double) X52 hx hZ hown (hw _ (List.mem_of_getElem? (i := 45) rfl)) Via.refl e52 F_east E (Or.inr ⟨(hw _ (List.mem_of_getElem? (i := 46) rfl)), rfl, hnm⟩) (hw _ (List.mem_of_getElem? (i := 16) rfl)) (by decide) rfl rfl (hb hby d5_58) rfl ?_
  intro T58 h58 e58 W58 X58
  replace N := Fr.snoc X58 N q0
  replace K := K.wr W58 (Or.inl (List.mem_cons_self ..))
  replace E := E.wr W58
  replace F_west := F_west.other W58 (Or.inr (slot_ne (C := "com/example/sugglint/sugglint/geo/Box") (t := .double) (t' := .double) (Or.inr (hw _ (List.mem_of_getElem? (i := 42) rfl))) (Or.inr (hw _ (List.mem_of_getElem? (i := 46) rfl))) (by decide) (by decide) (by decide)))
  replace F_south := F_south.other W58 (Or.inr (slot_ne (C := "com/example/sugglint/sugglint/geo/Box") (t := .double) (t' := .double) (Or.inr (hw _ (List.mem_of_getElem? (i := 44) rfl))) (Or.inr (hw _ (List.mem_of_getElem? (i := 46) rfl))) (by decide) (by decide) (by decide)))
  replace F_east := F_east.same W58
  replace F_north := F_north.other W58 (Or.inr (slot_ne (C := "com/example/sugglint/sugglint/geo/Box") (t := .double) (t' := .double) (Or.inr (hw _ (List.mem_of_getElem? (i := 48) rfl))) (Or.inr (hw _ (List.mem_of_getElem? (i := 46) rfl))) (by decide) (by decide) (by decide)))
  refine o_aloadN (pc' := 62) X58 hx (hb hby d5_61) rfl rfl rfl ?_
  refine o_dload (pc' := 64) X58 hx (hb hby d5_62) rfl rfl ?_
  refine o_putF (pc' := 67) (ty := .double) X58 hx hZ hown (hw _ (List.mem_of_getElem? (i := 47) rfl)) Via.refl e58 F_north E (Or.inr ⟨(hw _ (List.mem_of_getElem? (i := 48) rfl)), rfl, hnm⟩) (hw _ (List.mem_of_getElem? (i := 16) rfl)) (by decide) rfl rfl (hb hby d5_64) rfl ?_
  intro T64 h64 e64 W64 X64
  replace N := Fr.snoc X64 N q0
  replace K := K.wr W64 (Or.inl (List.mem_cons_self ..))
  replace E := E.wr W64
  replace F_west := F_west.other W64 (Or.inr (slot_ne (C := "com/example/sugglint/sugglint/geo/Box") (t := .double) (t' := .double) (Or.inr (hw _ (List.mem_of_getElem? (i := 42) rfl))) (Or.inr (hw _ (List.mem_of_getElem? (i := 48) rfl))) (by decide) (by decide) (by decide)))
  replace F_south := F_south.other W64 (Or.inr (slot_ne (C := "com/example/sugglint/sugglint/geo/Box") (t := .double) (t' := .double) (Or.inr (hw _ (List.mem_of_getElem? (i := 44) rfl))) (Or.inr (hw _ (List.mem_of_getElem? (i := 48) rfl))) (by decide) (by decide) (by decide)))
  replace F_east := F_east.other W64 (Or.inr (slot_ne (C := "com/example/sugglint/sugglint/geo/Box") (t := .double) (t' := .double) (Or.inr (hw _ (List.mem_of_getElem? (i := 46) rfl))) (Or.inr (hw _ (List.mem_of_getElem? (i := 48) rfl))) (by decide) (by decide) (by decide)))
  replace F_north := F_north.same W64
  exact o_ret0 X64 hx hlk hret (hb hby d5_67) ⟨rfl, by first | exact N | simpa using N, by rw [e64]; exact K, by rw [e64]; exact F_west, by rw [e64]; exact F_south, by rw [e64]; exact F_east, by rw [e64]; exact F_north⟩ (by decide) (by decide)
abbrev Q10 (Z : State) (a : Addr) (n0 : Nat) (i5 i6 : Int32) (d5 d6 : UInt64) (h0 : Heap) (v : Option Value) (h : Heap) (L : List Loc) : Prop := v = none ∧ Fr n0 L ∧ Keep h0 h [a] ∧ Fld Z h a "com/example/sugglint/sugglint/geo/Point" "lat" "D" (.double d5) ∧ Fld Z h a "com/example/sugglint/sugglint/geo/Point" "lon" "D" (.double d6)
set_option maxRecDepth 65536 in
set_option maxHeartbeats 40000000 in
theorem rm10 (l : Launch) (Z : State) (a0 : Array Value) (hw : ∀ d ∈ tables_1, d.before a0 Z = true) (a : Addr) (n0 : Nat) (i5 i6 : Int32) (d5 d6 : UInt64) (h0 : Heap) (q0 : n0 ≤ a) (E : Exa Z h0 a "com/example/sugglint/sugglint/geo/Point") (F_lat : Fld Z h0 a "com/example/sugglint/sugglint/geo/Point" "lat" "D" (.double 0)) (F_lon : Fld Z h0 a "com/example/sugglint/sugglint/geo/Point" "lon" "D" (.double 0)) (ed5 : d5 = q4 i5) (ed6 : d6 = q4 i6) (hi5 : Rl i5) (hi6 : Rg i6) :
    Con l Z (⟨"com/example/sugglint/sugglint/geo/Point", "<init>", "(DD)V"⟩ : MethodName) prog_3_method_1_code 5 none ({ frames := 2, cells := 0, slots := 0, locals := 24 } : Room) #[(.ref a), (.double d5), (.double d6)] h0 (Q10 Z a n0 i5 i6 d5 d6 h0) := by
  refine Con.of pn_10 (fun p e s m below meth c T0 X0 hx hby hml hret hlk hown hnm hZ e0 => ?_)
  replace hown : s.vm.findClass "com/example/sugglint/sugglint/geo/Point" = some m.cls := hown
  have ef : entryFrame m #[(.ref a), (.double d5), (.double d6)] 5 = mkF m 0 #[.val (.ref a), .val (.double d5), .second, .val (.double d6), .second] [] := by first | (simp [entryFrame, mkF, argsToLocals, Value.category]; done) | rfl
  rw [ef]
  have N := Fr.nil n0
  have K := Keep.refl h0 [a]
  refine o_aloadN (pc' := 1) X0 hx (hb hby d10_0) rfl rfl rfl ?_
  refine o_callC (W := 0) (pc' := 4) (rm := ({ frames := 1, cells := 0, slots := 0, locals := 12 } : Room)) (a := a) (argsL := []) (rest := []) X0 hx hZ rfl hown (hw _ (List.mem_of_getElem? (i := 54) rfl)) (hw _ (List.mem_of_getElem? (i := 23) rfl)) (hw _ (List.mem_of_getElem? (i := 25) rfl)) (hw _ (List.mem_of_getElem? (i := 26) rfl)) (by decide) e0 (rm6 l Z a0 hw a h0) (by rw [hml]; rfl) pd_6 rfl rfl (hb hby d10_1) rfl (by decide) rfl (by decide) (by decide) (by decide) ?_
  rintro _ T1 L1 ⟨rfl, rfl, e1⟩ X1
  show Ends p e below s (Q10 Z a n0 i5 i6 d5 d6 h0) ({ frames := 2, cells := 0, slots := 0, locals := 24 } : Room).cells ({ frames := 2, cells := 0, slots := 0, locals := 24 } : Room).slots (T1.setTop (mkF m 4 #[.val (.ref a), .val (.double d5), .second, .val (.double d6), .second] []))
  refine o_dloadN (pc' := 5) X1 hx (hb hby d10_4) rfl rfl ?_
  refine o_callS (W := 0) (pc' := 8) (rm := ({ frames := 0, cells := 0, slots := 0, locals := 0 } : Room)) (argsL := [(.double d5)]) (rest := []) X1 hx hZ hown (hw _ (List.mem_of_getElem? (i := 55) rfl)) (hw _ (List.mem_of_getElem? (i := 37) rfl)) (hw _ (List.mem_of_getElem? (i := 32) rfl)) (hw _ (List.mem_of_getElem? (i := 38) rfl)) (by decide) e1 (rm9 l Z a0 hw i5 d5 h0 ed5 hi5) (by rw [hml]; rfl) pd_9 rfl rfl (hb hby d10_5) rfl (by decide) rfl (by decide) (by decide) (by decide) ?_
  rintro _ T5 L5 ⟨rfl, rfl, e5⟩ X5
  show Ends p e below s (Q10 Z a n0 i5 i6 d5 d6 h0) ({ frames := 2, cells := 0, slots := 0, locals := 24 } : Room).cells ({ frames := 2, cells := 0, slots := 0, locals := 24 } : Room).slots (T5.setTop (mkF m 8 #[.val (.ref a), .val (.double d5), .second, .val (.double d6), .second] []))
  refine o_dloadN (pc' := 9) X5 hx (hb hby d10_8) rfl rfl ?_
  refine o_callS (W := 0) (pc' := 12) (rm := ({ frames := 0, cells := 0, slots := 0, locals := 0 } : Room)) (argsL := [(.double d6)]) (rest := []) X5 hx hZ hown (hw _ (List.mem_of_getElem? (i := 56) rfl)) (hw _ (List.mem_of_getElem? (i := 31) rfl)) (hw _ (List.mem_of_getElem? (i := 32) rfl)) (hw _ (List.mem_of_getElem? (i := 33) rfl)) (by decide) e5 (rm8 l Z a0 hw i6 d6 h0 ed6 hi6) (by rw [hml]; rfl) pd_8 rfl rfl (hb hby d10_9) rfl (by decide) rfl (by decide) (by decide) (by decide) ?_
  rintro _ T9 L9 ⟨rfl, rfl, e9⟩ X9
  show Ends p e below s (Q10 Z a n0 i5 i6 d5 d6 h0) ({ frames := 2, cells := 0, slots := 0, locals := 24 } : Room).cells ({ frames := 2, cells := 0, slots := 0, locals := 24 } : Room).slots (T9.setTop (mkF m 12 #[.val (.ref a), .val (.double d5), .second, .val (.double d6), .second] []))
  refine o_aloadN (pc' := 13) X9 hx (hb hby d10_12) rfl rfl rfl ?_
  refine o_dloadN (pc' := 14) X9 hx (hb hby d10_13) rfl rfl ?_
  refine o_putF (pc' := 17) (ty := .double) X9 hx hZ hown (hw _ (List.mem_of_getElem? (i := 57) rfl)) Via.refl e9 F_lat E (Or.inr ⟨(hw _ (List.mem_of_getElem? (i := 58) rfl)), rfl, hnm⟩) (hw _ (List.mem_of_getElem? (i := 50) rfl)) (by decide) rfl rfl (hb hby d10_14) rfl ?_
  intro T14 h14 e14 W14 X14
  replace N := Fr.snoc X14 N q0
  replace K := K.wr W14 (Or.inl (List.mem_cons_self ..))
  replace E := E.wr W14
  replace F_lat := F_lat.same W14
  replace F_lon := F_lon.other W14 (Or.inr (slot_ne (C := "com/example/sugglint/sugglint/geo/Point") (t := .double) (t' := .double) (Or.inr (hw _ (List.mem_of_getElem? (i := 60) rfl))) (Or.inr (hw _ (List.mem_of_getElem? (i := 58) rfl))) (by decide) (by decide) (by decide)))
  refine o_aloadN (pc' := 18) X14 hx (hb hby d10_17) rfl rfl rfl ?_
  refine o_dloadN (pc' := 19) X14 hx (hb hby d10_18) rfl rfl ?_
  refine o_putF (pc' := 22) (ty := .double) X14 hx hZ hown (hw _ (List.mem_of_getElem? (i := 59) rfl)) Via.refl e14 F_lon E (Or.inr ⟨(hw _ (List.mem_of_getElem? (i := 60) rfl)), rfl, hnm⟩) (hw _ (List.mem_of_getElem? (i := 50) rfl)) (by decide) rfl rfl (hb hby d10_19) rfl ?_
  intro T19 h19 e19 W19 X19
  replace N := Fr.snoc X19 N q0
  replace K := K.wr W19 (Or.inl (List.mem_cons_self ..))
  replace E := E.wr W19
  replace F_lat := F_lat.other W19 (Or.inr (slot_ne (C := "com/example/sugglint/sugglint/geo/Point") (t := .double) (t' := .double) (Or.inr (hw _ (List.mem_of_getElem? (i := 58) rfl))) (Or.inr (hw _ (List.mem_of_getElem? (i := 60) rfl))) (by decide) (by decide) (by decide)))
  replace F_lon := F_lon.same W19
  exact o_ret0 X19 hx hlk hret (hb hby d10_22) ⟨rfl, by first | exact N | simpa using N, by rw [e19]; exact K, by rw [e19]; exact F_lat, by rw [e19]; exact F_lon⟩ (by decide) (by decide)
abbrev Q12 (Z : State) (a : Addr) (i : Int32) (h0 : Heap) (v : Option Value) (h : Heap) (L : List Loc) : Prop := v = some (.double (q4 i)) ∧ L = [] ∧ h = h0
set_option maxRecDepth 65536 in
set_option maxHeartbeats 40000000 in
theorem rm12 (l : Launch) (Z : State) (a0 : Array Value) (hw : ∀ d ∈ tables_1, d.before a0 Z = true) (a : Addr) (i : Int32) (h0 : Heap) (G : Fld Z h0 a "com/example/sugglint/sugglint/geo/Point" "lat" "D" (.double (q4 i))) :
    Con l Z (⟨"com/example/sugglint/sugglint/geo/Point", "lat", "()D"⟩ : MethodName) prog_3_method_8_code 1 (some .double) ({ frames := 0, cells := 0, slots := 0, locals := 0 } : Room) #[(.ref a)] h0 (Q12 Z a i h0) := by
  refine Con.of pn_12 (fun p e s m below meth c T0 X0 hx hby hml hret hlk hown hnm hZ e0 => ?_)
  replace hown : s.vm.findClass "com/example/sugglint/sugglint/geo/Point" = some m.cls := hown
  have ef : entryFrame m #[(.ref a)] 1 = mkF m 0 #[.val (.ref a)] [] := by first | (simp [entryFrame, mkF, argsToLocals, Value.category]; done) | rfl
  rw [ef]
  refine o_aloadN (pc' := 1) X0 hx (hb hby d12_0) rfl rfl rfl ?_
  refine o_getF (pc' := 4) X0 hx hZ hown (hw _ (List.mem_of_getElem? (i := 57) rfl)) Via.refl e0 G (hb hby d12_1) rfl ?_
  intro T1 e1 X1
  exact o_retD X1 hx hlk hret (hb hby d12_4) ⟨rfl, rfl, e1⟩ (by decide) (by decide)
abbrev Q13 (Z : State) (a : Addr) (i : Int32) (h0 : Heap) (v : Option Value) (h : Heap) (L : List Loc) : Prop := v = some (.double (q4 i)) ∧ L = [] ∧ h = h0
set_option maxRecDepth 65536 in
set_option maxHeartbeats 40000000 in
theorem rm13 (l : Launch) (Z : State) (a0 : Array Value) (hw : ∀ d ∈ tables_1, d.before a0 Z = true) (a : Addr) (i : Int32) (h0 : Heap) (G : Fld Z h0 a "com/example/sugglint/sugglint/geo/Point" "lon" "D" (.double (q4 i))) :
    Con l Z (⟨"com/example/sugglint/sugglint/geo/Point", "lon", "()D"⟩ : MethodName) prog_3_method_9_code 1 (some .double) ({ frames := 0, cells := 0, slots := 0, locals := 0 } : Room) #[(.ref a)] h0 (Q13 Z a i h0) := by
  refine Con.of pn_13 (fun p e s m below meth c T0 X0 hx hby hml hret hlk hown hnm hZ e0 => ?_)
  replace hown : s.vm.findClass "com/example/sugglint/sugglint/geo/Point" = some m.cls := hown
  have ef : entryFrame m #[(.ref a)] 1 = mkF m 0 #[.val (.ref a)] [] := by first | (simp [entryFrame, mkF, argsToLocals, Value.category]; done) | rfl
  rw [ef]
  refine o_aloadN (pc' := 1) X0 hx (hb hby d13_0) rfl rfl rfl ?_
  refine o_getF (pc' := 4) X0 hx hZ hown (hw _ (List.mem_of_getElem? (i := 59) rfl)) Via.refl e0 G (hb hby d13_1) rfl ?_
  intro T1 e1 X1
  exact o_retD X1 hx hlk hret (hb hby d13_4) ⟨rfl, rfl, e1⟩ (by decide) (by decide)
def fsp (i1 i3 i6 : Int32) : Int32 := (if (0 : Int32) < (sg i1 i3) then (if (sg i6 i1) < (0 : Int32) then (if (0 : Int32) < (sg i6 i3) then (0 : Int32) else (1 : Int32)) else (1 : Int32)) else (if (sg i6 i1) < (0 : Int32) then (0 : Int32) else (if (0 : Int32) < (sg i6 i3) then (0 : Int32) else (1 : Int32))))
abbrev Q14 (Z : State) (a : Addr) (i1 i3 i6 : Int32) (h0 : Heap) (v : Option Value) (h : Heap) (L : List Loc) : Prop := v = some (.int (fsp i1 i3 i6)) ∧ L = [] ∧ h = h0
set_option maxRecDepth 65536 in
set_option maxHeartbeats 40000000 in
theorem rm14 (l : Launch) (Z : State) (a0 : Array Value) (hw : ∀ d ∈ tables_1, d.before a0 Z = true) (a : Addr) (i1 i3 i6 : Int32) (h0 : Heap) (F_west : Fld Z h0 a "com/example/sugglint/sugglint/geo/Box" "west" "D" (.double (q4 i1))) (F_east : Fld Z h0 a "com/example/sugglint/sugglint/geo/Box" "east" "D" (.double (q4 i3))) (hi1 : Rg i1) (hi3 : Rg i3) (hi6 : Rg i6) :
    Con l Z (⟨"com/example/sugglint/sugglint/geo/Box", "spansLongitude", "(D)Z"⟩ : MethodName) prog_1_method_7_code 4 (some .boolean) ({ frames := 0, cells := 0, slots := 0, locals := 0 } : Room) #[(.ref a), (.double (q4 i6))] h0 (Q14 Z a i1 i3 i6 h0) := by
  refine Con.of pn_14 (fun p e s m below meth c T0 X0 hx hby hml hret hlk hown hnm hZ e0 => ?_)
  replace hown : s.vm.findClass "com/example/sugglint/sugglint/geo/Box" = some m.cls := hown
  have ef : entryFrame m #[(.ref a), (.double (q4 i6))] 4 = mkF m 0 #[.val (.ref a), .val (.double (q4 i6)), .second, .unset] [] := by first | (simp [entryFrame, mkF, argsToLocals, Value.category]; done) | rfl
  rw [ef]
  refine o_aloadN (pc' := 1) X0 hx (hb hby d14_0) rfl rfl rfl ?_
  refine o_getF (pc' := 4) X0 hx hZ hown (hw _ (List.mem_of_getElem? (i := 41) rfl)) Via.refl e0 F_west (hb hby d14_1) rfl ?_
  intro T1 e1 X1
  refine o_aloadN (pc' := 5) X1 hx (hb hby d14_4) rfl rfl rfl ?_
  refine o_getF (pc' := 8) X1 hx hZ hown (hw _ (List.mem_of_getElem? (i := 45) rfl)) Via.refl e1 F_east (hb hby d14_5) rfl ?_
  intro T5 e5 X5
  refine o_dcmp (pc' := 9) (v := sg i1 i3) X5 hx (hb hby d14_8) (own_cmp hi1 hi3 _) rfl ?_
  refine o_if_gt (p1 := 12) (p2 := 39) X5 hx (hb hby d14_9) rfl (by decide) (by decide) (fun hc9 => ?_) (fun hc9 => ?_)
  · refine o_dloadN (pc' := 40) X5 hx (hb hby d14_39) rfl rfl ?_
    refine o_aloadN (pc' := 41) X5 hx (hb hby d14_40) rfl rfl rfl ?_
    refine o_getF (pc' := 44) X5 hx hZ hown (hw _ (List.mem_of_getElem? (i := 41) rfl)) Via.refl e5 F_west (hb hby d14_41) rfl ?_
    intro T41 e41 X41
    refine o_dcmp (pc' := 45) (v := sg i6 i1) X41 hx (hb hby d14_44) (own_cmp hi6 hi1 _) rfl ?_
    refine o_if_ge (p1 := 48) (p2 := 57) X41 hx (hb hby d14_45) rfl (by decide) (by decide) (fun hc45 => ?_) (fun hc45 => ?_)
    · refine o_iconst (v := (1 : Int32)) (pc' := 58) X41 hx (hb hby d14_57) (by decide) rfl ?_
      refine o_goto (pc' := 62) X41 hx (hb hby d14_58) (by decide) (by decide) ?_
      refine o_istoreN (Ls' := #[.val (.ref a), .val (.double (q4 i6)), .second, .val (.int (1 : Int32))]) (pc' := 63) X41 hx (hb hby d14_62) rfl rfl ?_
      refine o_iloadN (pc' := 64) X41 hx (hb hby d14_63) rfl rfl ?_
      exact o_retZ X41 hx hlk hret (hb hby d14_64) (by decide) ⟨by simp only [fsp, if_pos hc9, if_neg hc45], rfl, e41⟩ (by decide) (by decide)
    · refine o_dloadN (pc' := 49) X41 hx (hb hby d14_48) rfl rfl ?_
      refine o_aloadN (pc' := 50) X41 hx (hb hby d14_49) rfl rfl rfl ?_
      refine o_getF (pc' := 53) X41 hx hZ hown (hw _ (List.mem_of_getElem? (i := 45) rfl)) Via.refl e41 F_east (hb hby d14_50) rfl ?_
      intro T50 e50 X50
      refine o_dcmp (pc' := 54) (v := sg i6 i3) X50 hx (hb hby d14_53) (own_cmp hi6 hi3 _) rfl ?_
      refine o_if_gt (p1 := 57) (p2 := 61) X50 hx (hb hby d14_54) rfl (by decide) (by decide) (fun hc54 => ?_) (fun hc54 => ?_)
      · refine o_iconst (v := (0 : Int32)) (pc' := 62) X50 hx (hb hby d14_61) (by decide) rfl ?_
        refine o_istoreN (Ls' := #[.val (.ref a), .val (.double (q4 i6)), .second, .val (.int (0 : Int32))]) (pc' := 63) X50 hx (hb hby d14_62) rfl rfl ?_
        refine o_iloadN (pc' := 64) X50 hx (hb hby d14_63) rfl rfl ?_
        exact o_retZ X50 hx hlk hret (hb hby d14_64) (by decide) ⟨by simp only [fsp, if_pos hc9, if_pos hc45, if_pos hc54], rfl, e50⟩ (by decide) (by decide)
      · refine o_iconst (v := (1 : Int32)) (pc' := 58) X50 hx (hb hby d14_57) (by decide) rfl ?_
        refine o_goto (pc' := 62) X50 hx (hb hby d14_58) (by decide) (by decide) ?_
        refine o_istoreN (Ls' := #[.val (.ref a), .val (.double (q4 i6)), .second, .val (.int (1 : Int32))]) (pc' := 63) X50 hx (hb hby d14_62) rfl rfl ?_
        refine o_iloadN (pc' := 64) X50 hx (hb hby d14_63) rfl rfl ?_
        exact o_retZ X50 hx hlk hret (hb hby d14_64) (by decide) ⟨by simp only [fsp, if_pos hc9, if_pos hc45, if_neg hc54], rfl, e50⟩ (by decide) (by decide)
  · refine o_dloadN (pc' := 13) X5 hx (hb hby d14_12) rfl rfl ?_
    refine o_aloadN (pc' := 14) X5 hx (hb hby d14_13) rfl rfl rfl ?_
    refine o_getF (pc' := 17) X5 hx hZ hown (hw _ (List.mem_of_getElem? (i := 41) rfl)) Via.refl e5 F_west (hb hby d14_14) rfl ?_
    intro T14 e14 X14
    refine o_dcmp (pc' := 18) (v := sg i6 i1) X14 hx (hb hby d14_17) (own_cmp hi6 hi1 _) rfl ?_
    refine o_if_lt (p1 := 21) (p2 := 34) X14 hx (hb hby d14_18) rfl (by decide) (by decide) (fun hc18 => ?_) (fun hc18 => ?_)
    · refine o_iconst (v := (0 : Int32)) (pc' := 35) X14 hx (hb hby d14_34) (by decide) rfl ?_
      refine o_istoreN (Ls' := #[.val (.ref a), .val (.double (q4 i6)), .second, .val (.int (0 : Int32))]) (pc' := 36) X14 hx (hb hby d14_35) rfl rfl ?_
      refine o_goto (pc' := 63) X14 hx (hb hby d14_36) (by decide) (by decide) ?_
      refine o_iloadN (pc' := 64) X14 hx (hb hby d14_63) rfl rfl ?_
      exact o_retZ X14 hx hlk hret (hb hby d14_64) (by decide) ⟨by simp only [fsp, if_neg hc9, if_pos hc18], rfl, e14⟩ (by decide) (by decide)
    · refine o_dloadN (pc' := 22) X14 hx (hb hby d14_21) rfl rfl ?_
      refine o_aloadN (pc' := 23) X14 hx (hb hby d14_22) rfl rfl rfl ?_
      refine o_getF (pc' := 26) X14 hx hZ hown (hw _ (List.mem_of_getElem? (i := 45) rfl)) Via.refl e14 F_east (hb hby d14_23) rfl ?_
      intro T23 e23 X23
      refine o_dcmp (pc' := 27) (v := sg i6 i3) X23 hx (hb hby d14_26) (own_cmp hi6 hi3 _) rfl ?_
      refine o_if_gt (p1 := 30) (p2 := 34) X23 hx (hb hby d14_27) rfl (by decide) (by decide) (fun hc27 => ?_) (fun hc27 => ?_)
      · refine o_iconst (v := (0 : Int32)) (pc' := 35) X23 hx (hb hby d14_34) (by decide) rfl ?_
        refine o_istoreN (Ls' := #[.val (.ref a), .val (.double (q4 i6)), .second, .val (.int (0 : Int32))]) (pc' := 36) X23 hx (hb hby d14_35) rfl rfl ?_
        refine o_goto (pc' := 63) X23 hx (hb hby d14_36) (by decide) (by decide) ?_
        refine o_iloadN (pc' := 64) X23 hx (hb hby d14_63) rfl rfl ?_
        exact o_retZ X23 hx hlk hret (hb hby d14_64) (by decide) ⟨by simp only [fsp, if_neg hc9, if_neg hc18, if_pos hc27], rfl, e23⟩ (by decide) (by decide)
      · refine o_iconst (v := (1 : Int32)) (pc' := 31) X23 hx (hb hby d14_30) (by decide) rfl ?_
        refine o_goto (pc' := 35) X23 hx (hb hby d14_31) (by decide) (by decide) ?_
        refine o_istoreN (Ls' := #[.val (.ref a), .val (.double (q4 i6)), .second, .val (.int (1 : Int32))]) (pc' := 36) X23 hx (hb hby d14_35) rfl rfl ?_
        refine o_goto (pc' := 63) X23 hx (hb hby d14_36) (by decide) (by decide) ?_
        refine o_iloadN (pc' := 64) X23 hx (hb hby d14_63) rfl rfl ?_
        exact o_retZ X23 hx hlk hret (hb hby d14_64) (by decide) ⟨by simp only [fsp, if_neg hc9, if_neg hc18, if_neg hc27], rfl, e23⟩ (by decide) (by decide)
def fct (i1 i2 i3 i4 i5 i6 : Int32) : Int32 := (if (sg i5 i2) < (0 : Int32) then (0 : Int32) else (if (0 : Int32) < (sg i5 i4) then (0 : Int32) else (if (fsp i1 i3 i6) = (0 : Int32) then (0 : Int32) else (1 : Int32))))
abbrev Q11 (Z : State) (a b : Addr) (i1 i2 i3 i4 i5 i6 : Int32) (h0 : Heap) (v : Option Value) (h : Heap) (L : List Loc) : Prop := v = some (.int (fct i1 i2 i3 i4 i5 i6)) ∧ L = [] ∧ h = h0
set_option maxRecDepth 65536 in
set_option maxHeartbeats 40000000 in
theorem rm11 (l : Launch) (Z : State) (a0 : Array Value) (hw : ∀ d ∈ tables_1, d.before a0 Z = true) (a b : Addr) (i1 i2 i3 i4 i5 i6 : Int32) (h0 : Heap) (E : Exa Z h0 a "com/example/sugglint/sugglint/geo/Box") (EP : Exa Z h0 b "com/example/sugglint/sugglint/geo/Point") (F_west : Fld Z h0 a "com/example/sugglint/sugglint/geo/Box" "west" "D" (.double (q4 i1))) (F_south : Fld Z h0 a "com/example/sugglint/sugglint/geo/Box" "south" "D" (.double (q4 i2))) (F_east : Fld Z h0 a "com/example/sugglint/sugglint/geo/Box" "east" "D" (.double (q4 i3))) (F_north : Fld Z h0 a "com/example/sugglint/sugglint/geo/Box" "north" "D" (.double (q4 i4))) (G_lat : Fld Z h0 b "com/example/sugglint/sugglint/geo/Point" "lat" "D" (.double (q4 i5))) (G_lon : Fld Z h0 b "com/example/sugglint/sugglint/geo/Point" "lon" "D" (.double (q4 i6))) (hi1 : Rg i1) (hi2 : Rl i2) (hi3 : Rg i3) (hi4 : Rl i4) (hi5 : Rl i5) (hi6 : Rg i6) :
    Con l Z (⟨"com/example/sugglint/sugglint/geo/Box", "contains", "(Lcom/example/sugglint/sugglint/geo/Point;)Z"⟩ : MethodName) prog_1_method_3_code 2 (some .boolean) ({ frames := 1, cells := 0, slots := 0, locals := 20 } : Room) #[(.ref a), (.ref b)] h0 (Q11 Z a b i1 i2 i3 i4 i5 i6 h0) := by
  refine Con.of pn_11 (fun p e s m below meth c T0 X0 hx hby hml hret hlk hown hnm hZ e0 => ?_)
  replace hown : s.vm.findClass "com/example/sugglint/sugglint/geo/Box" = some m.cls := hown
  have ef : entryFrame m #[(.ref a), (.ref b)] 2 = mkF m 0 #[.val (.ref a), .val (.ref b)] [] := by first | (simp [entryFrame, mkF, argsToLocals, Value.category]; done) | rfl
  rw [ef]
  refine o_aloadN (pc' := 1) X0 hx (hb hby d11_0) rfl rfl rfl ?_
  refine o_callV (W := 0) (pc' := 4) (rm := ({ frames := 0, cells := 0, slots := 0, locals := 0 } : Room)) (argsL := []) (rest := []) X0 hx hZ hown (hw _ (List.mem_of_getElem? (i := 66) rfl)) (hw _ (List.mem_of_getElem? (i := 67) rfl)) (hw _ (List.mem_of_getElem? (i := 69) rfl)) (hw _ (List.mem_of_getElem? (i := 68) rfl)) (hw _ (List.mem_of_getElem? (i := 32) rfl)) (hw _ (List.mem_of_getElem? (i := 70) rfl)) (by decide) e0 EP (rm12 l Z a0 hw b i5 h0 G_lat) (by rw [hml]; rfl) pd_12 rfl rfl (hb hby d11_1) rfl (by decide) rfl (by decide) (by decide) (by decide) ?_
  rintro _ T1 L1 ⟨rfl, rfl, e1⟩ X1
  show Ends p e below s (Q11 Z a b i1 i2 i3 i4 i5 i6 h0) ({ frames := 1, cells := 0, slots := 0, locals := 20 } : Room).cells ({ frames := 1, cells := 0, slots := 0, locals := 20 } : Room).slots (T1.setTop (mkF m 4 #[.val (.ref a), .val (.ref b)] [(.double (q4 i5))]))
  refine o_aloadN (pc' := 5) X1 hx (hb hby d11_4) rfl rfl rfl ?_
  refine o_getF (pc' := 8) X1 hx hZ hown (hw _ (List.mem_of_getElem? (i := 43) rfl)) Via.refl e1 F_south (hb hby d11_5) rfl ?_
  intro T5 e5 X5
  refine o_dcmp (pc' := 9) (v := sg i5 i2) X5 hx (hb hby d11_8) (own_cmp hi5.rg hi2.rg _) rfl ?_
  refine o_if_lt (p1 := 12) (p2 := 39) X5 hx (hb hby d11_9) rfl (by decide) (by decide) (fun hc9 => ?_) (fun hc9 => ?_)
  · refine o_iconst (v := (0 : Int32)) (pc' := 40) X5 hx (hb hby d11_39) (by decide) rfl ?_
    exact o_retZ X5 hx hlk hret (hb hby d11_40) (by decide) ⟨by simp only [fct, if_pos hc9], rfl, e5⟩ (by decide) (by decide)
  · refine o_aloadN (pc' := 13) X5 hx (hb hby d11_12) rfl rfl rfl ?_
    refine o_callV (W := 0) (pc' := 16) (rm := ({ frames := 0, cells := 0, slots := 0, locals := 0 } : Room)) (argsL := []) (rest := []) X5 hx hZ hown (hw _ (List.mem_of_getElem? (i := 66) rfl)) (hw _ (List.mem_of_getElem? (i := 67) rfl)) (hw _ (List.mem_of_getElem? (i := 69) rfl)) (hw _ (List.mem_of_getElem? (i := 68) rfl)) (hw _ (List.mem_of_getElem? (i := 32) rfl)) (hw _ (List.mem_of_getElem? (i := 70) rfl)) (by decide) e5 EP (rm12 l Z a0 hw b i5 h0 G_lat) (by rw [hml]; rfl) pd_12 rfl rfl (hb hby d11_13) rfl (by decide) rfl (by decide) (by decide) (by decide) ?_
    rintro _ T13 L13 ⟨rfl, rfl, e13⟩ X13
    show Ends p e below s (Q11 Z a b i1 i2 i3 i4 i5 i6 h0) ({ frames := 1, cells := 0, slots := 0, locals := 20 } : Room).cells ({ frames := 1, cells := 0, slots := 0, locals := 20 } : Room).slots (T13.setTop (mkF m 16 #[.val (.ref a), .val (.ref b)] [(.double (q4 i5))]))
    refine o_aloadN (pc' := 17) X13 hx (hb hby d11_16) rfl rfl rfl ?_
    refine o_getF (pc' := 20) X13 hx hZ hown (hw _ (List.mem_of_getElem? (i := 47) rfl)) Via.refl e13 F_north (hb hby d11_17) rfl ?_
    intro T17 e17 X17
    refine o_dcmp (pc' := 21) (v := sg i5 i4) X17 hx (hb hby d11_20) (own_cmp hi5.rg hi4.rg _) rfl ?_
    refine o_if_gt (p1 := 24) (p2 := 39) X17 hx (hb hby d11_21) rfl (by decide) (by decide) (fun hc21 => ?_) (fun hc21 => ?_)
    · refine o_iconst (v := (0 : Int32)) (pc' := 40) X17 hx (hb hby d11_39) (by decide) rfl ?_
      exact o_retZ X17 hx hlk hret (hb hby d11_40) (by decide) ⟨by simp only [fct, if_neg hc9, if_pos hc21], rfl, e17⟩ (by decide) (by decide)
    · refine o_aloadN (pc' := 25) X17 hx (hb hby d11_24) rfl rfl rfl ?_
      refine o_aloadN (pc' := 26) X17 hx (hb hby d11_25) rfl rfl rfl ?_
      refine o_callV (W := 1) (pc' := 29) (rm := ({ frames := 0, cells := 0, slots := 0, locals := 0 } : Room)) (argsL := []) (rest := [(.ref a)]) X17 hx hZ hown (hw _ (List.mem_of_getElem? (i := 71) rfl)) (hw _ (List.mem_of_getElem? (i := 72) rfl)) (hw _ (List.mem_of_getElem? (i := 74) rfl)) (hw _ (List.mem_of_getElem? (i := 73) rfl)) (hw _ (List.mem_of_getElem? (i := 32) rfl)) (hw _ (List.mem_of_getElem? (i := 75) rfl)) (by decide) e17 EP (rm13 l Z a0 hw b i6 h0 G_lon) (by rw [hml]; rfl) pd_13 rfl rfl (hb hby d11_26) rfl (by decide) rfl (by decide) (by decide) (by decide) ?_
      rintro _ T26 L26 ⟨rfl, rfl, e26⟩ X26
      show Ends p e below s (Q11 Z a b i1 i2 i3 i4 i5 i6 h0) ({ frames := 1, cells := 0, slots := 0, locals := 20 } : Room).cells ({ frames := 1, cells := 0, slots := 0, locals := 20 } : Room).slots (T26.setTop (mkF m 29 #[.val (.ref a), .val (.ref b)] [(.double (q4 i6)), (.ref a)]))
      refine o_callP (W := 0) (pc' := 32) (rm := ({ frames := 0, cells := 0, slots := 0, locals := 0 } : Room)) (argsL := [(.double (q4 i6))]) (rest := []) X26 hx hZ hown (hw _ (List.mem_of_getElem? (i := 76) rfl)) (hw _ (List.mem_of_getElem? (i := 77) rfl)) (hw _ (List.mem_of_getElem? (i := 78) rfl)) (hw _ (List.mem_of_getElem? (i := 16) rfl)) (hw _ (List.mem_of_getElem? (i := 17) rfl)) (hw _ (List.mem_of_getElem? (i := 79) rfl)) (by decide) e26 E (rm14 l Z a0 hw a i1 i3 i6 h0 F_west F_east hi1 hi3 hi6) (by rw [hml]; rfl) pd_14 rfl rfl (hb hby d11_29) rfl (by decide) rfl (by decide) (by decide) (by decide) ?_
      rintro _ T29 L29 ⟨rfl, rfl, e29⟩ X29
      show Ends p e below s (Q11 Z a b i1 i2 i3 i4 i5 i6 h0) ({ frames := 1, cells := 0, slots := 0, locals := 20 } : Room).cells ({ frames := 1, cells := 0, slots := 0, locals := 20 } : Room).slots (T29.setTop (mkF m 32 #[.val (.ref a), .val (.ref b)] [(.int (fsp i1 i3 i6))]))
      refine o_if_eq (p1 := 35) (p2 := 39) X29 hx (hb hby d11_32) rfl (by decide) (by decide) (fun hc32 => ?_) (fun hc32 => ?_)
      · refine o_iconst (v := (0 : Int32)) (pc' := 40) X29 hx (hb hby d11_39) (by decide) rfl ?_
        exact o_retZ X29 hx hlk hret (hb hby d11_40) (by decide) ⟨by simp only [fct, if_neg hc9, if_neg hc21, if_pos hc32], rfl, e29⟩ (by decide) (by decide)
      · refine o_iconst (v := (1 : Int32)) (pc' := 36) X29 hx (hb hby d11_35) (by decide) rfl ?_
        refine o_goto (pc' := 40) X29 hx (hb hby d11_36) (by decide) (by decide) ?_
        exact o_retZ X29 hx hlk hret (hb hby d11_40) (by decide) ⟨by simp only [fct, if_neg hc9, if_neg hc21, if_neg hc32], rfl, e29⟩ (by decide) (by decide)

theorem own_1440 (x : Int32) (h : Rg x) : (x + (1440 : Int32)).toInt = x.toInt + 1440 := by
  have h1 := c_iadd x 1440; have h2 := rng32 (x + 1440); have e1 : (1440 : Int32).toInt = 1440 := by decide
  have := h.1; have := h.2
  omega
theorem own_fin (i1 i2 i3 i4 i5 i6 ac il hi di sh ep : Int32) (r1 : Rg i1) (r3 : Rg i3) (r6 : Rg i6) (hac : fct i1 i2 i3 i4 i5 i6 = ac) (hil : il = (if i5 < i2 then (0 : Int32) else (if i4 < i5 then (0 : Int32) else (1 : Int32)))) (hhi : hi = (if i3 < i1 then i3 + (1440 : Int32) else i3)) (hdi : di = (if i6 < i1 then (0 : Int32) else (if hi < i6 then (0 : Int32) else (1 : Int32)))) (hsh : sh = (if i3 < i1 then (if (i6 + (1440 : Int32)) < i1 then (0 : Int32) else (if hi < (i6 + (1440 : Int32)) then (0 : Int32) else (1 : Int32))) else (0 : Int32))) (hep : ep = (if il = (0 : Int32) then (0 : Int32) else (if di = (0 : Int32) then (if sh = (0 : Int32) then (0 : Int32) else (1 : Int32)) else (1 : Int32)))) : ac = ep := by
  have L : ∀ x y : Int32, x < y ↔ x.toInt < y.toInt := fun x y => Int32.lt_iff_toInt_lt
  have a1 := r1.1; have a2 := r1.2; have a3 := r3.1; have a4 := r3.2; have a5 := r6.1; have a6 := r6.2
  have e6 := own_1440 i6 r6
  have e3 := own_1440 i3 r3
  rw [← hac]
  simp only [fct, fsp, sg_lt, sg_gt]
  subst hep hsh hdi hhi hil
  by_cases c1 : i5 < i2
  · simp [c1]
  · by_cases c2 : i4 < i5
    · simp [c1, c2]
    · by_cases c3 : i3 < i1
      · have d1 : ¬ i3 + (1440 : Int32) < i6 := fun q => by rw [L] at q; omega
        have d2 : ¬ i6 + (1440 : Int32) < i1 := fun q => by rw [L] at q; omega
        have d3 : (i3 + (1440 : Int32) < i6 + (1440 : Int32)) ↔ (i3 < i6) := by rw [L, L]; omega
        by_cases c4 : i6 < i1 <;> by_cases c5 : i3 < i6 <;> simp [c1, c2, c3, c4, c5, d1, d2, d3]
      · by_cases c4 : i6 < i1 <;> by_cases c5 : i3 < i6 <;> simp [c1, c2, c3, c4, c5]
abbrev Q0 (Z : State) (p1 p2 p3 p4 p5 p6 : Int32) (h0 : Heap) (v : Option Value) (h : Heap) (L : List Loc) : Prop := v = some (.int (1 : Int32)) ∧ Fr h0.size L
set_option maxRecDepth 65536 in
set_option maxHeartbeats 40000000 in
theorem rm0 (l : Launch) (Z : State) (a0 : Array Value) (hw : ∀ d ∈ tables_1, d.before a0 Z = true) (p1 p2 p3 p4 p5 p6 : Int32) (h0 : Heap)  :
    Con l Z x code maxLocals ret room_1 #[(.int p1), (.int p2), (.int p3), (.int p4), (.int p5), (.int p6)] h0 (Q0 Z p1 p2 p3 p4 p5 p6 h0) := by
  refine Con.of pn_0 (fun p e s m below meth c T0 X0 hx hby hml hret hlk hown hnm hZ e0 => ?_)
  replace hown : s.vm.findClass "com/example/sugglint/sugglint/geo/BoxContainsPinLaw" = some m.cls := hown
  have ef : entryFrame m #[(.int p1), (.int p2), (.int p3), (.int p4), (.int p5), (.int p6)] maxLocals = mkF m 0 #[.val (.int p1), .val (.int p2), .val (.int p3), .val (.int p4), .val (.int p5), .val (.int p6), .unset, .unset, .unset, .unset, .unset, .unset, .unset, .unset, .unset, .unset, .unset, .unset, .unset, .unset, .unset, .unset] [] := by first | (simp [entryFrame, mkF, argsToLocals, Value.category, maxLocals]; done) | rfl
  rw [ef]
  refine o_iloadN (pc' := 1) X0 hx (hb hby at_0) rfl rfl ?_
  refine o_callS (W := 0) (pc' := 4) (rm := ({ frames := 0, cells := 0, slots := 0, locals := 0 } : Room)) (argsL := [(.int p1)]) (rest := []) X0 hx hZ hown (hw _ (List.mem_of_getElem? (i := 0) rfl)) (hw _ (List.mem_of_getElem? (i := 1) rfl)) (hw _ (List.mem_of_getElem? (i := 2) rfl)) (hw _ (List.mem_of_getElem? (i := 3) rfl)) (by decide) e0 (rm1 l Z a0 hw p1 h0) (by rw [hml]; rfl) pd_1 rfl rfl (hb hby at_1) rfl (by decide) rfl (by decide) (by decide) (by decide) ?_
  rintro _ T1 L1 ⟨rfl, rfl, e1⟩ X1
  show Ends p e below s (Q0 Z p1 p2 p3 p4 p5 p6 h0) room_1.cells room_1.slots (T1.setTop (mkF m 4 #[.val (.int p1), .val (.int p2), .val (.int p3), .val (.int p4), .val (.int p5), .val (.int p6), .unset, .unset, .unset, .unset, .unset, .unset, .unset, .unset, .unset, .unset, .unset, .unset, .unset, .unset, .unset, .unset] [(.int (flon p1))]))
  have hi1 := own_lon p1
  generalize ei1 : flon p1 = i1
  rw [ei1] at hi1
  refine o_istore (Ls' := #[.val (.int p1), .val (.int p2), .val (.int p3), .val (.int p4), .val (.int p5), .val (.int p6), .val (.int i1), .unset, .unset, .unset, .unset, .unset, .unset, .unset, .unset, .unset, .unset, .unset, .unset, .unset, .unset, .unset]) (pc' := 6) X1 hx (hb hby at_4) rfl rfl ?_
  refine o_iloadN (pc' := 7) X1 hx (hb hby at_6) rfl rfl ?_
  refine o_callS (W := 0) (pc' := 10) (rm := ({ frames := 0, cells := 0, slots := 0, locals := 0 } : Room)) (argsL := [(.int p2)]) (rest := []) X1 hx hZ hown (hw _ (List.mem_of_getElem? (i := 0) rfl)) (hw _ (List.mem_of_getElem? (i := 1) rfl)) (hw _ (List.mem_of_getElem? (i := 2) rfl)) (hw _ (List.mem_of_getElem? (i := 3) rfl)) (by decide) e1 (rm1 l Z a0 hw p2 h0) (by rw [hml]; rfl) pd_1 rfl rfl (hb hby at_7) rfl (by decide) rfl (by decide) (by decide) (by decide) ?_
  rintro _ T7 L7 ⟨rfl, rfl, e7⟩ X7
  show Ends p e below s (Q0 Z p1 p2 p3 p4 p5 p6 h0) room_1.cells room_1.slots (T7.setTop (mkF m 10 #[.val (.int p1), .val (.int p2), .val (.int p3), .val (.int p4), .val (.int p5), .val (.int p6), .val (.int i1), .unset, .unset, .unset, .unset, .unset, .unset, .unset, .unset, .unset, .unset, .unset, .unset, .unset, .unset, .unset] [(.int (flon p2))]))
  have hi3 := own_lon p2
  generalize ei3 : flon p2 = i3
  rw [ei3] at hi3
  refine o_istore (Ls' := #[.val (.int p1), .val (.int p2), .val (.int p3), .val (.int p4), .val (.int p5), .val (.int p6), .val (.int i1), .val (.int i3), .unset, .unset, .unset, .unset, .unset, .unset, .unset, .unset, .unset, .unset, .unset, .unset, .unset, .unset]) (pc' := 12) X7 hx (hb hby at_10) rfl rfl ?_
  refine o_iloadN (pc' := 13) X7 hx (hb hby at_12) rfl rfl ?_
  refine o_callS (W := 0) (pc' := 16) (rm := ({ frames := 0, cells := 0, slots := 0, locals := 0 } : Room)) (argsL := [(.int p3)]) (rest := []) X7 hx hZ hown (hw _ (List.mem_of_getElem? (i := 5) rfl)) (hw _ (List.mem_of_getElem? (i := 6) rfl)) (hw _ (List.mem_of_getElem? (i := 2) rfl)) (hw _ (List.mem_of_getElem? (i := 7) rfl)) (by decide) e7 (rm2 l Z a0 hw p3 h0) (by rw [hml]; rfl) pd_2 rfl rfl (hb hby at_13) rfl (by decide) rfl (by decide) (by decide) (by decide) ?_
  rintro _ T13 L13 ⟨rfl, rfl, e13⟩ X13
  show Ends p e below s (Q0 Z p1 p2 p3 p4 p5 p6 h0) room_1.cells room_1.slots (T13.setTop (mkF m 16 #[.val (.int p1), .val (.int p2), .val (.int p3), .val (.int p4), .val (.int p5), .val (.int p6), .val (.int i1), .val (.int i3), .unset, .unset, .unset, .unset, .unset, .unset, .unset, .unset, .unset, .unset, .unset, .unset, .unset, .unset] [(.int (flat p3))]))
  have hja := own_lat p3
  generalize eja : flat p3 = ja
  rw [eja] at hja
  refine o_istore (Ls' := #[.val (.int p1), .val (.int p2), .val (.int p3), .val (.int p4), .val (.int p5), .val (.int p6), .val (.int i1), .val (.int i3), .val (.int ja), .unset, .unset, .unset, .unset, .unset, .unset, .unset, .unset, .unset, .unset, .unset, .unset, .unset]) (pc' := 18) X13 hx (hb hby at_16) rfl rfl ?_
  refine o_iloadN (pc' := 19) X13 hx (hb hby at_18) rfl rfl ?_
  refine o_callS (W := 0) (pc' := 22) (rm := ({ frames := 0, cells := 0, slots := 0, locals := 0 } : Room)) (argsL := [(.int p4)]) (rest := []) X13 hx hZ hown (hw _ (List.mem_of_getElem? (i := 5) rfl)) (hw _ (List.mem_of_getElem? (i := 6) rfl)) (hw _ (List.mem_of_getElem? (i := 2) rfl)) (hw _ (List.mem_of_getElem? (i := 7) rfl)) (by decide) e13 (rm2 l Z a0 hw p4 h0) (by rw [hml]; rfl) pd_2 rfl rfl (hb hby at_19) rfl (by decide) rfl (by decide) (by decide) (by decide) ?_
  rintro _ T19 L19 ⟨rfl, rfl, e19⟩ X19
  show Ends p e below s (Q0 Z p1 p2 p3 p4 p5 p6 h0) room_1.cells room_1.slots (T19.setTop (mkF m 22 #[.val (.int p1), .val (.int p2), .val (.int p3), .val (.int p4), .val (.int p5), .val (.int p6), .val (.int i1), .val (.int i3), .val (.int ja), .unset, .unset, .unset, .unset, .unset, .unset, .unset, .unset, .unset, .unset, .unset, .unset, .unset] [(.int (flat p4))]))
  have hjb := own_lat p4
  generalize ejb : flat p4 = jb
  rw [ejb] at hjb
  have hmm := own_min ja jb hja hjb
  refine o_istore (Ls' := #[.val (.int p1), .val (.int p2), .val (.int p3), .val (.int p4), .val (.int p5), .val (.int p6), .val (.int i1), .val (.int i3), .val (.int ja), .val (.int jb), .unset, .unset, .unset, .unset, .unset, .unset, .unset, .unset, .unset, .unset, .unset, .unset]) (pc' := 24) X19 hx (hb hby at_22) rfl rfl ?_
  refine o_iload (pc' := 26) X19 hx (hb hby at_24) rfl rfl ?_
  refine o_iload (pc' := 28) X19 hx (hb hby at_26) rfl rfl ?_
  refine o_callS (W := 0) (pc' := 31) (rm := ({ frames := 0, cells := 0, slots := 0, locals := 0 } : Room)) (argsL := [(.int ja), (.int jb)]) (rest := []) X19 hx hZ hown (hw _ (List.mem_of_getElem? (i := 8) rfl)) (hw _ (List.mem_of_getElem? (i := 9) rfl)) (hw _ (List.mem_of_getElem? (i := 10) rfl)) (hw _ (List.mem_of_getElem? (i := 11) rfl)) (by decide) e19 (rm3 l Z a0 hw ja jb h0) (by rw [hml]; rfl) pd_3 rfl rfl (hb hby at_28) rfl (by decide) rfl (by decide) (by decide) (by decide) ?_
  rintro _ T28 L28 ⟨rfl, rfl, e28⟩ X28
  show Ends p e below s (Q0 Z p1 p2 p3 p4 p5 p6 h0) room_1.cells room_1.slots (T28.setTop (mkF m 31 #[.val (.int p1), .val (.int p2), .val (.int p3), .val (.int p4), .val (.int p5), .val (.int p6), .val (.int i1), .val (.int i3), .val (.int ja), .val (.int jb), .unset, .unset, .unset, .unset, .unset, .unset, .unset, .unset, .unset, .unset, .unset, .unset] [(.int (fmin ja jb))]))
  generalize ei2 : fmin ja jb = i2
  rw [ei2] at hmm
  refine o_istore (Ls' := #[.val (.int p1), .val (.int p2), .val (.int p3), .val (.int p4), .val (.int p5), .val (.int p6), .val (.int i1), .val (.int i3), .val (.int ja), .val (.int jb), .val (.int i2), .unset, .unset, .unset, .unset, .unset, .unset, .unset, .unset, .unset, .unset, .unset]) (pc' := 33) X28 hx (hb hby at_31) rfl rfl ?_
  refine o_iload (pc' := 35) X28 hx (hb hby at_33) rfl rfl ?_
  refine o_iload (pc' := 37) X28 hx (hb hby at_35) rfl rfl ?_
  refine o_callS (W := 0) (pc' := 40) (rm := ({ frames := 0, cells := 0, slots := 0, locals := 0 } : Room)) (argsL := [(.int ja), (.int jb)]) (rest := []) X28 hx hZ hown (hw _ (List.mem_of_getElem? (i := 12) rfl)) (hw _ (List.mem_of_getElem? (i := 13) rfl)) (hw _ (List.mem_of_getElem? (i := 10) rfl)) (hw _ (List.mem_of_getElem? (i := 14) rfl)) (by decide) e28 (rm4 l Z a0 hw ja jb h0) (by rw [hml]; rfl) pd_4 rfl rfl (hb hby at_37) rfl (by decide) rfl (by decide) (by decide) (by decide) ?_
  rintro _ T37 L37 ⟨rfl, rfl, e37⟩ X37
  show Ends p e below s (Q0 Z p1 p2 p3 p4 p5 p6 h0) room_1.cells room_1.slots (T37.setTop (mkF m 40 #[.val (.int p1), .val (.int p2), .val (.int p3), .val (.int p4), .val (.int p5), .val (.int p6), .val (.int i1), .val (.int i3), .val (.int ja), .val (.int jb), .val (.int i2), .unset, .unset, .unset, .unset, .unset, .unset, .unset, .unset, .unset, .unset, .unset] [(.int (fmax ja jb))]))
  generalize ei4 : fmax ja jb = i4
  rw [ei4] at hmm
  obtain ⟨hi2, hi4, hle⟩ := hmm
  refine o_istore (Ls' := #[.val (.int p1), .val (.int p2), .val (.int p3), .val (.int p4), .val (.int p5), .val (.int p6), .val (.int i1), .val (.int i3), .val (.int ja), .val (.int jb), .val (.int i2), .val (.int i4), .unset, .unset, .unset, .unset, .unset, .unset, .unset, .unset, .unset, .unset]) (pc' := 42) X37 hx (hb hby at_40) rfl rfl ?_
  refine o_iload (pc' := 44) X37 hx (hb hby at_42) rfl rfl ?_
  refine o_callS (W := 0) (pc' := 47) (rm := ({ frames := 0, cells := 0, slots := 0, locals := 0 } : Room)) (argsL := [(.int p5)]) (rest := []) X37 hx hZ hown (hw _ (List.mem_of_getElem? (i := 5) rfl)) (hw _ (List.mem_of_getElem? (i := 6) rfl)) (hw _ (List.mem_of_getElem? (i := 2) rfl)) (hw _ (List.mem_of_getElem? (i := 7) rfl)) (by decide) e37 (rm2 l Z a0 hw p5 h0) (by rw [hml]; rfl) pd_2 rfl rfl (hb hby at_44) rfl (by decide) rfl (by decide) (by decide) (by decide) ?_
  rintro _ T44 L44 ⟨rfl, rfl, e44⟩ X44
  show Ends p e below s (Q0 Z p1 p2 p3 p4 p5 p6 h0) room_1.cells room_1.slots (T44.setTop (mkF m 47 #[.val (.int p1), .val (.int p2), .val (.int p3), .val (.int p4), .val (.int p5), .val (.int p6), .val (.int i1), .val (.int i3), .val (.int ja), .val (.int jb), .val (.int i2), .val (.int i4), .unset, .unset, .unset, .unset, .unset, .unset, .unset, .unset, .unset, .unset] [(.int (flat p5))]))
  have hi5 := own_lat p5
  generalize ei5 : flat p5 = i5
  rw [ei5] at hi5
  refine o_istore (Ls' := #[.val (.int p1), .val (.int p2), .val (.int p3), .val (.int p4), .val (.int p5), .val (.int p6), .val (.int i1), .val (.int i3), .val (.int ja), .val (.int jb), .val (.int i2), .val (.int i4), .val (.int i5), .unset, .unset, .unset, .unset, .unset, .unset, .unset, .unset, .unset]) (pc' := 49) X44 hx (hb hby at_47) rfl rfl ?_
  refine o_iload (pc' := 51) X44 hx (hb hby at_49) rfl rfl ?_
  refine o_callS (W := 0) (pc' := 54) (rm := ({ frames := 0, cells := 0, slots := 0, locals := 0 } : Room)) (argsL := [(.int p6)]) (rest := []) X44 hx hZ hown (hw _ (List.mem_of_getElem? (i := 0) rfl)) (hw _ (List.mem_of_getElem? (i := 1) rfl)) (hw _ (List.mem_of_getElem? (i := 2) rfl)) (hw _ (List.mem_of_getElem? (i := 3) rfl)) (by decide) e44 (rm1 l Z a0 hw p6 h0) (by rw [hml]; rfl) pd_1 rfl rfl (hb hby at_51) rfl (by decide) rfl (by decide) (by decide) (by decide) ?_
  rintro _ T51 L51 ⟨rfl, rfl, e51⟩ X51
  show Ends p e below s (Q0 Z p1 p2 p3 p4 p5 p6 h0) room_1.cells room_1.slots (T51.setTop (mkF m 54 #[.val (.int p1), .val (.int p2), .val (.int p3), .val (.int p4), .val (.int p5), .val (.int p6), .val (.int i1), .val (.int i3), .val (.int ja), .val (.int jb), .val (.int i2), .val (.int i4), .val (.int i5), .unset, .unset, .unset, .unset, .unset, .unset, .unset, .unset, .unset] [(.int (flon p6))]))
  have hi6 := own_lon p6
  generalize ei6 : flon p6 = i6
  rw [ei6] at hi6
  have N := Fr.nil h0.size
  refine o_istore (Ls' := #[.val (.int p1), .val (.int p2), .val (.int p3), .val (.int p4), .val (.int p5), .val (.int p6), .val (.int i1), .val (.int i3), .val (.int ja), .val (.int jb), .val (.int i2), .val (.int i4), .val (.int i5), .val (.int i6), .unset, .unset, .unset, .unset, .unset, .unset, .unset, .unset]) (pc' := 56) X51 hx (hb hby at_54) rfl rfl ?_
  refine o_new (pc' := 59) X51 hx hZ hown (hw _ (List.mem_of_getElem? (i := 15) rfl)) (hw _ (List.mem_of_getElem? (i := 16) rfl)) (hw _ (List.mem_of_getElem? (i := 17) rfl)) e51 (hb hby at_56) rfl (by decide) (by decide) ?_
  intro T56 h56 a g_a e56 E56 X_a D_a X56
  have Fa_west : Fld Z h56 a "com/example/sugglint/sugglint/geo/Box" "west" "D" (.double 0) := D_a (Or.inr (hw _ (List.mem_of_getElem? (i := 42) rfl))) (ty := .double) (by decide)
  have Fa_south : Fld Z h56 a "com/example/sugglint/sugglint/geo/Box" "south" "D" (.double 0) := D_a (Or.inr (hw _ (List.mem_of_getElem? (i := 44) rfl))) (ty := .double) (by decide)
  have Fa_east : Fld Z h56 a "com/example/sugglint/sugglint/geo/Box" "east" "D" (.double 0) := D_a (Or.inr (hw _ (List.mem_of_getElem? (i := 46) rfl))) (ty := .double) (by decide)
  have Fa_north : Fld Z h56 a "com/example/sugglint/sugglint/geo/Box" "north" "D" (.double 0) := D_a (Or.inr (hw _ (List.mem_of_getElem? (i := 48) rfl))) (ty := .double) (by decide)
  have q_a : h0.size ≤ a := Nat.le_of_eq g_a.symm
  have Zn_a : h0.size ≤ h56.size := E56.1
  refine o_dup (pc' := 60) X56 hx (hb hby at_59) rfl rfl ?_
  refine o_iload (pc' := 62) X56 hx (hb hby at_60) rfl rfl ?_
  refine o_i2d (pc' := 63) (v := FP.i2d i1) X56 hx (hb hby at_62) rfl rfl ?_
  refine o_ldc2D (pc' := 66) (v := (4616189618054758400 : UInt64)) X56 hx (hb hby at_63) hZ hown (hw _ (List.mem_of_getElem? (i := 18) rfl)) rfl ?_
  refine o_ddiv (pc' := 67) (v := q4 i1) X56 hx (hb hby at_66) rfl (own_nn hi1) rfl ?_
  refine o_iload (pc' := 69) X56 hx (hb hby at_67) rfl rfl ?_
  refine o_i2d (pc' := 70) (v := FP.i2d i2) X56 hx (hb hby at_69) rfl rfl ?_
  refine o_ldc2D (pc' := 73) (v := (4616189618054758400 : UInt64)) X56 hx (hb hby at_70) hZ hown (hw _ (List.mem_of_getElem? (i := 18) rfl)) rfl ?_
  refine o_ddiv (pc' := 74) (v := q4 i2) X56 hx (hb hby at_73) rfl (own_nn hi2.rg) rfl ?_
  refine o_iload (pc' := 76) X56 hx (hb hby at_74) rfl rfl ?_
  refine o_i2d (pc' := 77) (v := FP.i2d i3) X56 hx (hb hby at_76) rfl rfl ?_
  refine o_ldc2D (pc' := 80) (v := (4616189618054758400 : UInt64)) X56 hx (hb hby at_77) hZ hown (hw _ (List.mem_of_getElem? (i := 18) rfl)) rfl ?_
  refine o_ddiv (pc' := 81) (v := q4 i3) X56 hx (hb hby at_80) rfl (own_nn hi3) rfl ?_
  refine o_iload (pc' := 83) X56 hx (hb hby at_81) rfl rfl ?_
  refine o_i2d (pc' := 84) (v := FP.i2d i4) X56 hx (hb hby at_83) rfl rfl ?_
  refine o_ldc2D (pc' := 87) (v := (4616189618054758400 : UInt64)) X56 hx (hb hby at_84) hZ hown (hw _ (List.mem_of_getElem? (i := 18) rfl)) rfl ?_
  refine o_ddiv (pc' := 88) (v := q4 i4) X56 hx (hb hby at_87) rfl (own_nn hi4.rg) rfl ?_
  refine o_callC (W := 1) (pc' := 91) (rm := ({ frames := 2, cells := 0, slots := 0, locals := 24 } : Room)) (a := a) (argsL := [(.double (q4 i1)), (.double (q4 i2)), (.double (q4 i3)), (.double (q4 i4))]) (rest := [(.ref a)]) X56 hx hZ rfl hown (hw _ (List.mem_of_getElem? (i := 19) rfl)) (hw _ (List.mem_of_getElem? (i := 20) rfl)) (hw _ (List.mem_of_getElem? (i := 17) rfl)) (hw _ (List.mem_of_getElem? (i := 21) rfl)) (by decide) e56 (rm5 l Z a0 hw a h0.size i1 i2 i3 i4 (q4 i1) (q4 i2) (q4 i3) (q4 i4) h56 q_a X_a Fa_west Fa_south Fa_east Fa_north rfl rfl rfl rfl hi1 hi2 hi3 hi4 hle) (by rw [hml]; rfl) pd_5 rfl rfl (hb hby at_88) rfl (by decide) rfl (by decide) (by decide) (by decide) ?_
  rintro _ T88 L88 ⟨rfl, N_a, K_a, Ga_west, Ga_south, Ga_east, Ga_north⟩ X88
  show Ends p e below s (Q0 Z p1 p2 p3 p4 p5 p6 h0) room_1.cells room_1.slots (T88.setTop (mkF m 91 #[.val (.int p1), .val (.int p2), .val (.int p3), .val (.int p4), .val (.int p5), .val (.int p6), .val (.int i1), .val (.int i3), .val (.int ja), .val (.int jb), .val (.int i2), .val (.int i4), .val (.int i5), .val (.int i6), .unset, .unset, .unset, .unset, .unset, .unset, .unset, .unset] [(.ref a)]))
  replace N := N.app N_a
  have Z_a : h0.size ≤ T88.heap.size := Nat.le_trans Zn_a K_a.1
  replace X_a := X_a.keep K_a
  refine o_astore (Ls' := #[.val (.int p1), .val (.int p2), .val (.int p3), .val (.int p4), .val (.int p5), .val (.int p6), .val (.int i1), .val (.int i3), .val (.int ja), .val (.int jb), .val (.int i2), .val (.int i4), .val (.int i5), .val (.int i6), .val (.ref a), .unset, .unset, .unset, .unset, .unset, .unset, .unset]) (pc' := 93) X88 hx (hb hby at_91) rfl rfl rfl ?_
  refine o_new (pc' := 96) X88 hx hZ hown (hw _ (List.mem_of_getElem? (i := 49) rfl)) (hw _ (List.mem_of_getElem? (i := 50) rfl)) (hw _ (List.mem_of_getElem? (i := 32) rfl)) rfl (hb hby at_93) rfl (by decide) (by decide) ?_
  intro T93 h93 b g_b e93 E93 X_b D_b X93
  have n_a_b : a ≠ b := by rw [g_b]; exact Nat.ne_of_lt X_a.lt
  replace X_a := X_a.ext E93
  replace Ga_west := Ga_west.ext E93
  replace Ga_south := Ga_south.ext E93
  replace Ga_east := Ga_east.ext E93
  replace Ga_north := Ga_north.ext E93
  have Fb_lat : Fld Z h93 b "com/example/sugglint/sugglint/geo/Point" "lat" "D" (.double 0) := D_b (Or.inr (hw _ (List.mem_of_getElem? (i := 58) rfl))) (ty := .double) (by decide)
  have Fb_lon : Fld Z h93 b "com/example/sugglint/sugglint/geo/Point" "lon" "D" (.double 0) := D_b (Or.inr (hw _ (List.mem_of_getElem? (i := 60) rfl))) (ty := .double) (by decide)
  have q_b : h0.size ≤ b := by rw [g_b]; exact Z_a
  have Zn_b : h0.size ≤ h93.size := Nat.le_trans Z_a E93.1
  refine o_dup (pc' := 97) X93 hx (hb hby at_96) rfl rfl ?_
  refine o_iload (pc' := 99) X93 hx (hb hby at_97) rfl rfl ?_
  refine o_i2d (pc' := 100) (v := FP.i2d i5) X93 hx (hb hby at_99) rfl rfl ?_
  refine o_ldc2D (pc' := 103) (v := (4616189618054758400 : UInt64)) X93 hx (hb hby at_100) hZ hown (hw _ (List.mem_of_getElem? (i := 18) rfl)) rfl ?_
  refine o_ddiv (pc' := 104) (v := q4 i5) X93 hx (hb hby at_103) rfl (own_nn hi5.rg) rfl ?_
  refine o_iload (pc' := 106) X93 hx (hb hby at_104) rfl rfl ?_
  refine o_i2d (pc' := 107) (v := FP.i2d i6) X93 hx (hb hby at_106) rfl rfl ?_
  refine o_ldc2D (pc' := 110) (v := (4616189618054758400 : UInt64)) X93 hx (hb hby at_107) hZ hown (hw _ (List.mem_of_getElem? (i := 18) rfl)) rfl ?_
  refine o_ddiv (pc' := 111) (v := q4 i6) X93 hx (hb hby at_110) rfl (own_nn hi6) rfl ?_
  refine o_callC (W := 1) (pc' := 114) (rm := ({ frames := 2, cells := 0, slots := 0, locals := 24 } : Room)) (a := b) (argsL := [(.double (q4 i5)), (.double (q4 i6))]) (rest := [(.ref b)]) X93 hx hZ rfl hown (hw _ (List.mem_of_getElem? (i := 51) rfl)) (hw _ (List.mem_of_getElem? (i := 52) rfl)) (hw _ (List.mem_of_getElem? (i := 32) rfl)) (hw _ (List.mem_of_getElem? (i := 53) rfl)) (by decide) e93 (rm10 l Z a0 hw b h0.size i5 i6 (q4 i5) (q4 i6) h93 q_b X_b Fb_lat Fb_lon rfl rfl hi5 hi6) (by rw [hml]; rfl) pd_10 rfl rfl (hb hby at_111) rfl (by decide) rfl (by decide) (by decide) (by decide) ?_
  rintro _ T111 L111 ⟨rfl, N_b, K_b, Gb_lat, Gb_lon⟩ X111
  show Ends p e below s (Q0 Z p1 p2 p3 p4 p5 p6 h0) room_1.cells room_1.slots (T111.setTop (mkF m 114 #[.val (.int p1), .val (.int p2), .val (.int p3), .val (.int p4), .val (.int p5), .val (.int p6), .val (.int i1), .val (.int i3), .val (.int ja), .val (.int jb), .val (.int i2), .val (.int i4), .val (.int i5), .val (.int i6), .val (.ref a), .unset, .unset, .unset, .unset, .unset, .unset, .unset] [(.ref b)]))
  replace N := N.app N_b
  have Z_b : h0.size ≤ T111.heap.size := Nat.le_trans Zn_b K_b.1
  replace X_a := X_a.keep K_b
  replace Ga_west := Ga_west.keep K_b (ninS n_a_b nin0)
  replace Ga_south := Ga_south.keep K_b (ninS n_a_b nin0)
  replace Ga_east := Ga_east.keep K_b (ninS n_a_b nin0)
  replace Ga_north := Ga_north.keep K_b (ninS n_a_b nin0)
  replace X_b := X_b.keep K_b
  refine o_astore (Ls' := #[.val (.int p1), .val (.int p2), .val (.int p3), .val (.int p4), .val (.int p5), .val (.int p6), .val (.int i1), .val (.int i3), .val (.int ja), .val (.int jb), .val (.int i2), .val (.int i4), .val (.int i5), .val (.int i6), .val (.ref a), .val (.ref b), .unset, .unset, .unset, .unset, .unset, .unset]) (pc' := 116) X111 hx (hb hby at_114) rfl rfl rfl ?_
  refine o_aload (pc' := 118) X111 hx (hb hby at_116) rfl rfl rfl ?_
  refine o_aload (pc' := 120) X111 hx (hb hby at_118) rfl rfl rfl ?_
  obtain ⟨hp, ehp⟩ : ∃ hp, T111.heap = hp := ⟨_, rfl⟩
  rw [ehp] at X_a Ga_west Ga_south Ga_east Ga_north X_b Gb_lat Gb_lon
  refine o_callV (W := 0) (pc' := 123) (rm := ({ frames := 1, cells := 0, slots := 0, locals := 20 } : Room)) (argsL := [(.ref b)]) (rest := []) X111 hx hZ hown (hw _ (List.mem_of_getElem? (i := 61) rfl)) (hw _ (List.mem_of_getElem? (i := 62) rfl)) (hw _ (List.mem_of_getElem? (i := 64) rfl)) (hw _ (List.mem_of_getElem? (i := 63) rfl)) (hw _ (List.mem_of_getElem? (i := 17) rfl)) (hw _ (List.mem_of_getElem? (i := 65) rfl)) (by decide) ehp X_a (rm11 l Z a0 hw a b i1 i2 i3 i4 i5 i6 hp X_a X_b Ga_west Ga_south Ga_east Ga_north Gb_lat Gb_lon hi1 hi2 hi3 hi4 hi5 hi6) (by rw [hml]; rfl) pd_11 rfl rfl (hb hby at_120) rfl (by decide) rfl (by decide) (by decide) (by decide) ?_
  rintro _ T120 L120 ⟨rfl, rfl, e120⟩ X120
  show Ends p e below s (Q0 Z p1 p2 p3 p4 p5 p6 h0) room_1.cells room_1.slots (T120.setTop (mkF m 123 #[.val (.int p1), .val (.int p2), .val (.int p3), .val (.int p4), .val (.int p5), .val (.int p6), .val (.int i1), .val (.int i3), .val (.int ja), .val (.int jb), .val (.int i2), .val (.int i4), .val (.int i5), .val (.int i6), .val (.ref a), .val (.ref b), .unset, .unset, .unset, .unset, .unset, .unset] [(.int (fct i1 i2 i3 i4 i5 i6))]))
  generalize hac : fct i1 i2 i3 i4 i5 i6 = ac
  refine o_istore (Ls' := #[.val (.int p1), .val (.int p2), .val (.int p3), .val (.int p4), .val (.int p5), .val (.int p6), .val (.int i1), .val (.int i3), .val (.int ja), .val (.int jb), .val (.int i2), .val (.int i4), .val (.int i5), .val (.int i6), .val (.ref a), .val (.ref b), .val (.int ac), .unset, .unset, .unset, .unset, .unset]) (pc' := 125) X120 hx (hb hby at_123) rfl rfl ?_
  refine o_iload (pc' := 127) X120 hx (hb hby at_125) rfl rfl ?_
  refine o_iload (pc' := 129) X120 hx (hb hby at_127) rfl rfl ?_
  obtain ⟨il, hil⟩ : ∃ z : Int32, z = (if i5 < i2 then (0 : Int32) else (if i4 < i5 then (0 : Int32) else (1 : Int32))) := ⟨_, rfl⟩
  suffices J144 : Ends p e below s (Q0 Z p1 p2 p3 p4 p5 p6 h0) room_1.cells room_1.slots (T120.setTop (mkF m 144 #[.val (.int p1), .val (.int p2), .val (.int p3), .val (.int p4), .val (.int p5), .val (.int p6), .val (.int i1), .val (.int i3), .val (.int ja), .val (.int jb), .val (.int i2), .val (.int i4), .val (.int i5), .val (.int i6), .val (.ref a), .val (.ref b), .val (.int ac), .unset, .unset, .unset, .unset, .unset] [(.int il)])) by
    refine o_icmp_lt (p1 := 132) (p2 := 143) X120 hx (hb hby at_129) rfl (by decide) (by decide) (fun hc129 => ?_) (fun hc129 => ?_)
    · refine o_iconst (v := (0 : Int32)) (pc' := 144) X120 hx (hb hby at_143) (by decide) rfl ?_
      simp only [hil, if_pos hc129] at J144; exact J144
    · refine o_iload (pc' := 134) X120 hx (hb hby at_132) rfl rfl ?_
      refine o_iload (pc' := 136) X120 hx (hb hby at_134) rfl rfl ?_
      refine o_icmp_gt (p1 := 139) (p2 := 143) X120 hx (hb hby at_136) rfl (by decide) (by decide) (fun hc136 => ?_) (fun hc136 => ?_)
      · refine o_iconst (v := (0 : Int32)) (pc' := 144) X120 hx (hb hby at_143) (by decide) rfl ?_
        simp only [hil, if_neg hc129, if_pos hc136] at J144; exact J144
      · refine o_iconst (v := (1 : Int32)) (pc' := 140) X120 hx (hb hby at_139) (by decide) rfl ?_
        refine o_goto (pc' := 144) X120 hx (hb hby at_140) (by decide) (by decide) ?_
        simp only [hil, if_neg hc129, if_neg hc136] at J144; exact J144
  refine o_istore (Ls' := #[.val (.int p1), .val (.int p2), .val (.int p3), .val (.int p4), .val (.int p5), .val (.int p6), .val (.int i1), .val (.int i3), .val (.int ja), .val (.int jb), .val (.int i2), .val (.int i4), .val (.int i5), .val (.int i6), .val (.ref a), .val (.ref b), .val (.int ac), .val (.int il), .unset, .unset, .unset, .unset]) (pc' := 146) X120 hx (hb hby at_144) rfl rfl ?_
  refine o_iload (pc' := 148) X120 hx (hb hby at_146) rfl rfl ?_
  refine o_iload (pc' := 150) X120 hx (hb hby at_148) rfl rfl ?_
  obtain ⟨hi, hhi⟩ : ∃ z : Int32, z = (if i3 < i1 then i3 + (1440 : Int32) else i3) := ⟨_, rfl⟩
  suffices J164 : Ends p e below s (Q0 Z p1 p2 p3 p4 p5 p6 h0) room_1.cells room_1.slots (T120.setTop (mkF m 164 #[.val (.int p1), .val (.int p2), .val (.int p3), .val (.int p4), .val (.int p5), .val (.int p6), .val (.int i1), .val (.int i3), .val (.int ja), .val (.int jb), .val (.int i2), .val (.int i4), .val (.int i5), .val (.int i6), .val (.ref a), .val (.ref b), .val (.int ac), .val (.int il), .unset, .unset, .unset, .unset] [(.int hi)])) by
    refine o_icmp_gt (p1 := 153) (p2 := 158) X120 hx (hb hby at_150) rfl (by decide) (by decide) (fun hc150 => ?_) (fun hc150 => ?_)
    · refine o_iload (pc' := 160) X120 hx (hb hby at_158) rfl rfl ?_
      refine o_sipush (v := (1440 : Int32)) (pc' := 163) X120 hx (hb hby at_160) (by decide) rfl ?_
      refine o_iadd (pc' := 164) X120 hx (hb hby at_163) rfl ?_
      simp only [hhi, if_pos hc150] at J164; exact J164
    · refine o_iload (pc' := 155) X120 hx (hb hby at_153) rfl rfl ?_
      refine o_goto (pc' := 164) X120 hx (hb hby at_155) (by decide) (by decide) ?_
      simp only [hhi, if_neg hc150] at J164; exact J164
  refine o_istore (Ls' := #[.val (.int p1), .val (.int p2), .val (.int p3), .val (.int p4), .val (.int p5), .val (.int p6), .val (.int i1), .val (.int i3), .val (.int ja), .val (.int jb), .val (.int i2), .val (.int i4), .val (.int i5), .val (.int i6), .val (.ref a), .val (.ref b), .val (.int ac), .val (.int il), .val (.int hi), .unset, .unset, .unset]) (pc' := 166) X120 hx (hb hby at_164) rfl rfl ?_
  refine o_iload (pc' := 168) X120 hx (hb hby at_166) rfl rfl ?_
  refine o_iload (pc' := 170) X120 hx (hb hby at_168) rfl rfl ?_
  obtain ⟨di, hdi⟩ : ∃ z : Int32, z = (if i6 < i1 then (0 : Int32) else (if hi < i6 then (0 : Int32) else (1 : Int32))) := ⟨_, rfl⟩
  suffices J185 : Ends p e below s (Q0 Z p1 p2 p3 p4 p5 p6 h0) room_1.cells room_1.slots (T120.setTop (mkF m 185 #[.val (.int p1), .val (.int p2), .val (.int p3), .val (.int p4), .val (.int p5), .val (.int p6), .val (.int i1), .val (.int i3), .val (.int ja), .val (.int jb), .val (.int i2), .val (.int i4), .val (.int i5), .val (.int i6), .val (.ref a), .val (.ref b), .val (.int ac), .val (.int il), .val (.int hi), .unset, .unset, .unset] [(.int di)])) by
    refine o_icmp_lt (p1 := 173) (p2 := 184) X120 hx (hb hby at_170) rfl (by decide) (by decide) (fun hc170 => ?_) (fun hc170 => ?_)
    · refine o_iconst (v := (0 : Int32)) (pc' := 185) X120 hx (hb hby at_184) (by decide) rfl ?_
      simp only [hdi, if_pos hc170] at J185; exact J185
    · refine o_iload (pc' := 175) X120 hx (hb hby at_173) rfl rfl ?_
      refine o_iload (pc' := 177) X120 hx (hb hby at_175) rfl rfl ?_
      refine o_icmp_gt (p1 := 180) (p2 := 184) X120 hx (hb hby at_177) rfl (by decide) (by decide) (fun hc177 => ?_) (fun hc177 => ?_)
      · refine o_iconst (v := (0 : Int32)) (pc' := 185) X120 hx (hb hby at_184) (by decide) rfl ?_
        simp only [hdi, if_neg hc170, if_pos hc177] at J185; exact J185
      · refine o_iconst (v := (1 : Int32)) (pc' := 181) X120 hx (hb hby at_180) (by decide) rfl ?_
        refine o_goto (pc' := 185) X120 hx (hb hby at_181) (by decide) (by decide) ?_
        simp only [hdi, if_neg hc170, if_neg hc177] at J185; exact J185
  refine o_istore (Ls' := #[.val (.int p1), .val (.int p2), .val (.int p3), .val (.int p4), .val (.int p5), .val (.int p6), .val (.int i1), .val (.int i3), .val (.int ja), .val (.int jb), .val (.int i2), .val (.int i4), .val (.int i5), .val (.int i6), .val (.ref a), .val (.ref b), .val (.int ac), .val (.int il), .val (.int hi), .val (.int di), .unset, .unset]) (pc' := 187) X120 hx (hb hby at_185) rfl rfl ?_
  refine o_iload (pc' := 189) X120 hx (hb hby at_187) rfl rfl ?_
  refine o_iload (pc' := 191) X120 hx (hb hby at_189) rfl rfl ?_
  obtain ⟨sh, hsh⟩ : ∃ z : Int32, z = (if i3 < i1 then (if (i6 + (1440 : Int32)) < i1 then (0 : Int32) else (if hi < (i6 + (1440 : Int32)) then (0 : Int32) else (1 : Int32))) else (0 : Int32)) := ⟨_, rfl⟩
  suffices J221 : Ends p e below s (Q0 Z p1 p2 p3 p4 p5 p6 h0) room_1.cells room_1.slots (T120.setTop (mkF m 221 #[.val (.int p1), .val (.int p2), .val (.int p3), .val (.int p4), .val (.int p5), .val (.int p6), .val (.int i1), .val (.int i3), .val (.int ja), .val (.int jb), .val (.int i2), .val (.int i4), .val (.int i5), .val (.int i6), .val (.ref a), .val (.ref b), .val (.int ac), .val (.int il), .val (.int hi), .val (.int di), .unset, .unset] [(.int sh)])) by
    refine o_icmp_le (p1 := 194) (p2 := 220) X120 hx (hb hby at_191) rfl (by decide) (by decide) (fun hc191 => ?_) (fun hc191 => ?_)
    · refine o_iconst (v := (0 : Int32)) (pc' := 221) X120 hx (hb hby at_220) (by decide) rfl ?_
      simp only [hsh, if_neg hc191] at J221; exact J221
    · refine o_iload (pc' := 196) X120 hx (hb hby at_194) rfl rfl ?_
      refine o_sipush (v := (1440 : Int32)) (pc' := 199) X120 hx (hb hby at_196) (by decide) rfl ?_
      refine o_iadd (pc' := 200) X120 hx (hb hby at_199) rfl ?_
      refine o_iload (pc' := 202) X120 hx (hb hby at_200) rfl rfl ?_
      refine o_icmp_lt (p1 := 205) (p2 := 220) X120 hx (hb hby at_202) rfl (by decide) (by decide) (fun hc202 => ?_) (fun hc202 => ?_)
      · refine o_iconst (v := (0 : Int32)) (pc' := 221) X120 hx (hb hby at_220) (by decide) rfl ?_
        simp only [hsh, if_pos hc191, if_pos hc202] at J221; exact J221
      · refine o_iload (pc' := 207) X120 hx (hb hby at_205) rfl rfl ?_
        refine o_sipush (v := (1440 : Int32)) (pc' := 210) X120 hx (hb hby at_207) (by decide) rfl ?_
        refine o_iadd (pc' := 211) X120 hx (hb hby at_210) rfl ?_
        refine o_iload (pc' := 213) X120 hx (hb hby at_211) rfl rfl ?_
        refine o_icmp_gt (p1 := 216) (p2 := 220) X120 hx (hb hby at_213) rfl (by decide) (by decide) (fun hc213 => ?_) (fun hc213 => ?_)
        · refine o_iconst (v := (0 : Int32)) (pc' := 221) X120 hx (hb hby at_220) (by decide) rfl ?_
          simp only [hsh, if_pos hc191, if_neg hc202, if_pos hc213] at J221; exact J221
        · refine o_iconst (v := (1 : Int32)) (pc' := 217) X120 hx (hb hby at_216) (by decide) rfl ?_
          refine o_goto (pc' := 221) X120 hx (hb hby at_217) (by decide) (by decide) ?_
          simp only [hsh, if_pos hc191, if_neg hc202, if_neg hc213] at J221; exact J221
  refine o_istore (Ls' := #[.val (.int p1), .val (.int p2), .val (.int p3), .val (.int p4), .val (.int p5), .val (.int p6), .val (.int i1), .val (.int i3), .val (.int ja), .val (.int jb), .val (.int i2), .val (.int i4), .val (.int i5), .val (.int i6), .val (.ref a), .val (.ref b), .val (.int ac), .val (.int il), .val (.int hi), .val (.int di), .val (.int sh), .unset]) (pc' := 223) X120 hx (hb hby at_221) rfl rfl ?_
  refine o_iload (pc' := 225) X120 hx (hb hby at_223) rfl rfl ?_
  obtain ⟨ep, hep⟩ : ∃ z : Int32, z = (if il = (0 : Int32) then (0 : Int32) else (if di = (0 : Int32) then (if sh = (0 : Int32) then (0 : Int32) else (1 : Int32)) else (1 : Int32))) := ⟨_, rfl⟩
  suffices J243 : Ends p e below s (Q0 Z p1 p2 p3 p4 p5 p6 h0) room_1.cells room_1.slots (T120.setTop (mkF m 243 #[.val (.int p1), .val (.int p2), .val (.int p3), .val (.int p4), .val (.int p5), .val (.int p6), .val (.int i1), .val (.int i3), .val (.int ja), .val (.int jb), .val (.int i2), .val (.int i4), .val (.int i5), .val (.int i6), .val (.ref a), .val (.ref b), .val (.int ac), .val (.int il), .val (.int hi), .val (.int di), .val (.int sh), .unset] [(.int ep)])) by
    refine o_if_eq (p1 := 228) (p2 := 242) X120 hx (hb hby at_225) rfl (by decide) (by decide) (fun hc225 => ?_) (fun hc225 => ?_)
    · refine o_iconst (v := (0 : Int32)) (pc' := 243) X120 hx (hb hby at_242) (by decide) rfl ?_
      simp only [hep, if_pos hc225] at J243; exact J243
    · refine o_iload (pc' := 230) X120 hx (hb hby at_228) rfl rfl ?_
      refine o_if_ne (p1 := 233) (p2 := 238) X120 hx (hb hby at_230) rfl (by decide) (by decide) (fun hc230 => ?_) (fun hc230 => ?_)
      · refine o_iconst (v := (1 : Int32)) (pc' := 239) X120 hx (hb hby at_238) (by decide) rfl ?_
        refine o_goto (pc' := 243) X120 hx (hb hby at_239) (by decide) (by decide) ?_
        simp only [hep, if_neg hc225, if_neg hc230] at J243; exact J243
      · refine o_iload (pc' := 235) X120 hx (hb hby at_233) rfl rfl ?_
        refine o_if_eq (p1 := 238) (p2 := 242) X120 hx (hb hby at_235) rfl (by decide) (by decide) (fun hc235 => ?_) (fun hc235 => ?_)
        · refine o_iconst (v := (0 : Int32)) (pc' := 243) X120 hx (hb hby at_242) (by decide) rfl ?_
          simp only [hep, if_neg hc225, if_pos hc230, if_pos hc235] at J243; exact J243
        · refine o_iconst (v := (1 : Int32)) (pc' := 239) X120 hx (hb hby at_238) (by decide) rfl ?_
          refine o_goto (pc' := 243) X120 hx (hb hby at_239) (by decide) (by decide) ?_
          simp only [hep, if_neg hc225, if_pos hc230, if_neg hc235] at J243; exact J243
  refine o_istore (Ls' := #[.val (.int p1), .val (.int p2), .val (.int p3), .val (.int p4), .val (.int p5), .val (.int p6), .val (.int i1), .val (.int i3), .val (.int ja), .val (.int jb), .val (.int i2), .val (.int i4), .val (.int i5), .val (.int i6), .val (.ref a), .val (.ref b), .val (.int ac), .val (.int il), .val (.int hi), .val (.int di), .val (.int sh), .val (.int ep)]) (pc' := 245) X120 hx (hb hby at_243) rfl rfl ?_
  refine o_iload (pc' := 247) X120 hx (hb hby at_245) rfl rfl ?_
  refine o_iload (pc' := 249) X120 hx (hb hby at_247) rfl rfl ?_
  refine o_icmp_ne (p1 := 252) (p2 := 256) X120 hx (hb hby at_249) rfl (by decide) (by decide) (fun hc249 => absurd (own_fin i1 i2 i3 i4 i5 i6 ac il hi di sh ep hi1 hi3 hi6 hac hil hhi hdi hsh hep) hc249) (fun hc249 => ?_)
  refine o_iconst (v := (1 : Int32)) (pc' := 253) X120 hx (hb hby at_252) (by decide) rfl ?_
  refine o_goto (pc' := 257) X120 hx (hb hby at_253) (by decide) (by decide) ?_
  exact o_retZ X120 hx hlk hret (hb hby at_257) (by decide) ⟨rfl, by first | exact N | simpa using N⟩ (by decide) (by decide)
set_option maxRecDepth 65536 in
set_option maxHeartbeats 40000000 in
theorem comes_1 {Post : Tables → Env → Array Value → State → Outcome → State → Prop} (hpost : ∀ tb e args s v u, (limb_1_1.after args s (.returned v) u = true ∧ limb_1_2.after args s (.returned v) u = true ∧ True) → FrameEnd s (.returned v) u (Jvm.fieldLocs frame_1_writes args s ++ Jvm.arrayLocs frame_1_arrays args s ++ Jvm.staticLocs frame_1_statics s) 16 128 → Post tb e args s (.returned v) u) :
    ArmFor flags0 classFile x code maxLocals ret World_1 tables_1 room_1 Calls_1 rest_1 Pre_1 Post := by
  intro l hfl _ _ p e ha hc hk s m args below hf hA hF happ hP
  obtain ⟨hcalls, hrest, hpre⟩ := hP
  obtain ⟨-, -, -, hnamed, -, -, -, hat⟩ := (Spec.applies_iff hf).mp happ
  obtain ⟨hg, hn⟩ := and_e (Cond.before_iff.mp (show (Jvm.Cond.and given_1 narrow_1).before args s = true from hpre))
  obtain ⟨g0, gr0⟩ := and_e hg
  obtain ⟨g1, gr1⟩ := and_e gr0
  obtain ⟨g2, gr2⟩ := and_e gr1
  obtain ⟨g3, gr3⟩ := and_e gr2
  obtain ⟨g4, gr4⟩ := and_e gr3
  obtain ⟨g5, gr5⟩ := and_e gr4
  obtain ⟨w0, w1, w2, w3, w4, w5, rfl⟩ : ∃ w0 w1 w2 w3 w4 w5 : Value, args = #[w0, w1, w2, w3, w4, w5] := by
    have hs : args.size = 6 := by simpa [Cond.value, given_1] using g0
    obtain ⟨L⟩ := args
    match L, hs with
    | [w0, w1, w2, w3, w4, w5], _ => exact ⟨w0, w1, w2, w3, w4, w5, rfl⟩
  have hw := fun d (hd : d ∈ tables_1) => atoms_spec (ws := Jvm.Cond.code x code maxLocals ret :: tables_1) hat d (List.mem_cons_of_mem _ hd)
  have hfit : Fit s := fun {y c} hc i hi => by
    obtain ⟨ha, rfl⟩ := Array.getElem?_eq_some_iff.mp hc
    have q := List.all_eq_true.mp ((Array.all_eq_true_iff_forall_mem.mp hF) _ (Array.getElem_mem ha)) i (List.mem_range.mpr hi)
    simpa [Array.getElem?_eq_getElem hi] using q
  obtain ⟨i0, ei0⟩ := is_v g1
  obtain rfl : w0 = (.int i0) := Option.some.inj ei0
  obtain ⟨i1, ei1⟩ := is_v g2
  obtain rfl : w1 = (.int i1) := Option.some.inj ei1
  obtain ⟨i2, ei2⟩ := is_v g3
  obtain rfl : w2 = (.int i2) := Option.some.inj ei2
  obtain ⟨i3, ei3⟩ := is_v g4
  obtain rfl : w3 = (.int i3) := Option.some.inj ei3
  obtain ⟨i4, ei4⟩ := is_v g5
  obtain rfl : w4 = (.int i4) := Option.some.inj ei4
  obtain ⟨i5, ei5⟩ := is_v gr5
  obtain rfl : w5 = (.int i5) := Option.some.inj ei5
  obtain ⟨n, o, h1, h2, h3, _, L, rfl, ⟨rfl, N⟩, hq⟩ := rm0 l s _ hw i0 i1 i2 i3 i4 i5 s.heap tables_1 p e ha hc hk s m _ below hf ((Spec.applies_iff_loose hf).mp happ).1 ⟨rfl, State.Warmed39.refl s, rfl⟩ trivial
  refine ⟨n, _, h1, h2, h3, hpost _ _ _ _ _ _ ⟨Cond.after_iff.mpr rfl, Cond.after_iff.mpr (eq_i res_at (Term.int_eval (1)) rfl), trivial⟩ ⟨hq.1, hq.2.1, (hq.2.2.sift fun y hy => Or.inr (N y hy)).mono (by decide) (by decide)⟩⟩
theorem main_1_1 : Claimed_1_1 := comes_1 fun _ _ _ _ _ _ h hF => ⟨h.1, hF⟩
theorem main_1_2 : Claimed_1_2 := comes_1 fun _ _ _ _ _ _ h hF => ⟨h.2.1, hF⟩
end Jvm.Pilot.@@N@@
namespace Jvm.Pilot.@@N@@
open Jvm Jvm.ClassFile Sem Op Lib Jvm.Free Jvm.Stand Jvm.Pilot.@@N@@.Jvm.D
/-! MADE BY PROGRAM (witnessworld.py) out of the Statement's table words and the real class files: 12 classes; the members and pool entries that the words name. The judged class is class 1, her method 3. -/
namespace start1
open Jvm.ClassFile
def u (s : String) : CpInfo := .utf8 (stringToUtf16 s)
/-- a pool by its gaps: so many unusable entries, then the entry; so many at the end -/
def gap : Nat → List CpInfo → List CpInfo
  | 0, r => r
  | n + 1, r => .unusable :: gap n r
def poolList (es : List (Nat × CpInfo)) (last : Nat) : List CpInfo := es.foldr (fun e r => gap e.1 (e.2 :: r)) (gap last [])
def pool (es : List (Nat × CpInfo)) (last : Nat) : Array CpInfo := ⟨poolList es last⟩
def fileOf (pool : Array CpInfo) (this : Nat) (attrs : Array Attribute := #[]) (ms : Array MethodInfo := #[]) (fl : Nat := 33) (sup : Nat := 0) (ifs : Array Nat := #[]) (fds : Array FieldInfo := #[]) : ClassFile where
  minorVersion := 0
  majorVersion := 65
  constantPool := pool
  accessFlags := fl
  thisClass := this
  superClass := sup
  interfaces := ifs
  fields := fds
  methods := ms
  attributes := attrs
def plain (name : String) (sup : Option ClassId) : Class where
  name := name
  kind := .ordinary
  loader := none
  accessFlags := 33
  super := sup
  interfaces := #[]
  cf := none
  fields := #[]
  methods := #[]
  instanceTypes := #[]
  staticTypes := #[]
  resolved := #[]
  callSites := []
  init := .initialized
  statics := none
  mirror := none

def pool0 : Array CpInfo := pool [(5, u "<init>"), (0, u "()V"), (1, .class_ 10), (1, u "java/lang/Object")] 113

def k0c0 : Code := { maxStack := 0, maxLocals := 1, code := object_method_1_code, exceptionTable := #[], attributes := #[] }
def k0m0 : Method := { name := "<init>", desc := "()V", sig := { parameters := [], returnType := none }, accessFlags := 1, code := some k0c0 }
/-- java/lang/Object -/
def k0 : Class := { plain "java/lang/Object" none with
  accessFlags := 33
  interfaces := #[]
  cf := some (fileOf pool0 8 #[] #[{ accessFlags := 1, nameIndex := 5, descriptorIndex := 6, attributes := #[] }] 33 0 #[] #[])
  fields := #[]
  methods := #[k0m0]
  instanceTypes := #[]
  staticTypes := #[]
  resolved := Array.replicate 124 none
  statics := none }

def pool1 : Array CpInfo := pool [(2, .class_ 4), (1, u "java/lang/Object"), (0, u "<init>"), (0, u "()V"), (0, .integer 2147483647), (0, .methodref 9 10), (0, .class_ 11), (0, .nameAndType 12 13), (0, u "com/example/sugglint/sugglint/geo/BoxContainsPinLaw"), (0, u "lon4"), (0, u "(I)I"), (0, .methodref 9 15), (0, .nameAndType 16 13), (0, u "lat4"), (0, .methodref 18 19), (0, .class_ 20), (0, .nameAndType 21 22), (0, u "java/lang/Math"), (0, u "min"), (0, u "(II)I"), (0, .methodref 18 24), (0, .nameAndType 25 22), (0, u "max"), (0, .class_ 27), (0, u "com/example/sugglint/sugglint/geo/Box"), (0, .double 4616189618054758400), (1, .methodref 26 31), (0, .nameAndType 5 32), (0, u "(DDDD)V"), (0, .class_ 34), (0, u "com/example/sugglint/sugglint/geo/Point"), (0, .methodref 33 36), (0, .nameAndType 5 37), (0, u "(DD)V"), (0, .methodref 26 39), (0, .nameAndType 40 41), (0, u "contains"), (0, u "(Lcom/example/sugglint/sugglint/geo/Point;)Z"), (2, u "law"), (0, u "(IIIIII)Z")] 3

def k1m0 : Method := { name := "<init>", desc := "()V", sig := { parameters := [], returnType := none }, accessFlags := 1, code := none }
def k1c1 : Code := { maxStack := 2, maxLocals := 1, code := method_2_code, exceptionTable := #[], attributes := #[] }
def k1m1 : Method := { name := "lon4", desc := "(I)I", sig := { parameters := [.int], returnType := some .int }, accessFlags := 10, code := some k1c1 }
def k1c2 : Code := { maxStack := 2, maxLocals := 1, code := method_3_code, exceptionTable := #[], attributes := #[] }
def k1m2 : Method := { name := "lat4", desc := "(I)I", sig := { parameters := [.int], returnType := some .int }, accessFlags := 10, code := some k1c2 }
def k1c3 : Code := { maxStack := 12, maxLocals := 22, code := code, exceptionTable := #[], attributes := #[] }
def k1m3 : Method := { name := "law", desc := "(IIIIII)Z", sig := { parameters := [.int, .int, .int, .int, .int, .int], returnType := some .boolean }, accessFlags := 9, code := some k1c3 }
/-- com/example/sugglint/sugglint/geo/BoxContainsPinLaw -/
def k1 : Class := { plain "com/example/sugglint/sugglint/geo/BoxContainsPinLaw" (some 0) with
  accessFlags := 49
  interfaces := #[]
  cf := some (fileOf pool1 9 #[] #[{ accessFlags := 1, nameIndex := 5, descriptorIndex := 6, attributes := #[] }, { accessFlags := 10, nameIndex := 12, descriptorIndex := 13, attributes := #[] }, { accessFlags := 10, nameIndex := 16, descriptorIndex := 13, attributes := #[] }, { accessFlags := 9, nameIndex := 44, descriptorIndex := 45, attributes := #[] }] 49 2 #[] #[])
  fields := #[]
  methods := #[k1m0, k1m1, k1m2, k1m3]
  instanceTypes := #[]
  staticTypes := #[]
  resolved := Array.replicate 49 none
  statics := none }

def pool2 : Array CpInfo := pool [(1, .class_ 2), (0, u "java/lang/Math"), (1, .class_ 6), (1, u "java/lang/Object"), (0, u "<init>"), (0, u "()V"), (89, .class_ 100), (1, u "java/lang/Math$RandomNumberGeneratorHolder"), (71, u "negativeZeroFloatBits"), (0, u "J"), (2, u "negativeZeroDoubleBits"), (21, u "max"), (2, u "min"), (43, u "$assertionsDisabled"), (0, u "Z"), (88, u "(II)I"), (2, u "twoToTheDoubleScaleDown"), (0, u "D"), (4, u "twoToTheDoubleScaleUp"), (9, u "E"), (3, u "PI"), (2, u "TAU"), (2, u "DEGREES_TO_RADIANS"), (0, u "RADIANS_TO_DEGREES")] 94

def k2m0 : Method := { name := "<init>", desc := "()V", sig := { parameters := [], returnType := none }, accessFlags := 2, code := none }
def k2c1 : Code := { maxStack := 2, maxLocals := 2, code := jdk_29_method_65_code, exceptionTable := #[], attributes := #[] }
def k2m1 : Method := { name := "max", desc := "(II)I", sig := { parameters := [.int, .int], returnType := some .int }, accessFlags := 9, code := some k2c1 }
def k2c2 : Code := { maxStack := 2, maxLocals := 2, code := jdk_29_method_69_code, exceptionTable := #[], attributes := #[] }
def k2m2 : Method := { name := "min", desc := "(II)I", sig := { parameters := [.int, .int], returnType := some .int }, accessFlags := 9, code := some k2c2 }
/-- java/lang/Math -/
def k2 : Class := { plain "java/lang/Math" (some 0) with
  accessFlags := 49
  interfaces := #[]
  cf := some (fileOf pool2 1 #[.nestMembers #[98]] #[{ accessFlags := 2, nameIndex := 7, descriptorIndex := 8, attributes := #[] }, { accessFlags := 9, nameIndex := 198, descriptorIndex := 335, attributes := #[] }, { accessFlags := 9, nameIndex := 201, descriptorIndex := 335, attributes := #[] }] 49 4 #[] #[{ accessFlags := 25, nameIndex := 354, descriptorIndex := 339, attributes := #[] }, { accessFlags := 25, nameIndex := 358, descriptorIndex := 339, attributes := #[] }, { accessFlags := 25, nameIndex := 361, descriptorIndex := 339, attributes := #[] }, { accessFlags := 26, nameIndex := 364, descriptorIndex := 339, attributes := #[] }, { accessFlags := 26, nameIndex := 365, descriptorIndex := 339, attributes := #[] }, { accessFlags := 26, nameIndex := 172, descriptorIndex := 173, attributes := #[] }, { accessFlags := 26, nameIndex := 176, descriptorIndex := 173, attributes := #[] }, { accessFlags := 8, nameIndex := 344, descriptorIndex := 339, attributes := #[] }, { accessFlags := 8, nameIndex := 338, descriptorIndex := 339, attributes := #[] }, { accessFlags := 4120, nameIndex := 245, descriptorIndex := 246, attributes := #[] }])
  fields := #[{ name := "E", type := .double, accessFlags := 25, slot := 0, constantValue := 0 }, { name := "PI", type := .double, accessFlags := 25, slot := 1, constantValue := 0 }, { name := "TAU", type := .double, accessFlags := 25, slot := 2, constantValue := 0 }, { name := "DEGREES_TO_RADIANS", type := .double, accessFlags := 26, slot := 3, constantValue := 0 }, { name := "RADIANS_TO_DEGREES", type := .double, accessFlags := 26, slot := 4, constantValue := 0 }, { name := "negativeZeroFloatBits", type := .long, accessFlags := 26, slot := 5, constantValue := 0 }, { name := "negativeZeroDoubleBits", type := .long, accessFlags := 26, slot := 6, constantValue := 0 }, { name := "twoToTheDoubleScaleUp", type := .double, accessFlags := 8, slot := 7, constantValue := 0 }, { name := "twoToTheDoubleScaleDown", type := .double, accessFlags := 8, slot := 8, constantValue := 0 }, { name := "$assertionsDisabled", type := .boolean, accessFlags := 4120, slot := 9, constantValue := 0 }]
  methods := #[k2m0, k2m1, k2m2]
  instanceTypes := #[]
  staticTypes := #[.double, .double, .double, .double, .double, .long, .long, .double, .double, .boolean]
  resolved := Array.replicate 460 none
  statics := none }

def pool3 : Array CpInfo := pool [(1, .methodref 2 3), (0, .class_ 4), (0, .nameAndType 5 6), (0, u "java/lang/Object"), (0, u "<init>"), (0, u "()V"), (0, .class_ 8), (0, u "java/lang/Record")] 13

def k3c0 : Code := { maxStack := 1, maxLocals := 1, code := jdk_30_method_1_code, exceptionTable := #[], attributes := #[] }
def k3m0 : Method := { name := "<init>", desc := "()V", sig := { parameters := [], returnType := none }, accessFlags := 4, code := some k3c0 }
/-- java/lang/Record -/
def k3 : Class := { plain "java/lang/Record" (some 0) with
  accessFlags := 1057
  interfaces := #[]
  cf := some (fileOf pool3 7 #[] #[{ accessFlags := 4, nameIndex := 5, descriptorIndex := 6, attributes := #[] }] 1057 2 #[] #[])
  fields := #[]
  methods := #[k3m0]
  instanceTypes := #[]
  staticTypes := #[]
  resolved := Array.replicate 22 none
  statics := none }

def pool4 : Array CpInfo := pool [(1, .methodref 2 3), (0, .class_ 4), (0, .nameAndType 5 6), (0, u "java/lang/Record"), (0, u "<init>"), (0, u "()V"), (0, .methodref 8 9), (0, .class_ 10), (0, .nameAndType 11 12), (0, u "com/example/sugglint/sugglint/geo/Point"), (0, u "checkLongitude"), (0, u "(D)V"), (0, .methodref 8 14), (0, .nameAndType 15 12), (0, u "checkLatitude"), (9, .fieldref 26 27), (0, .class_ 28), (0, .nameAndType 29 30), (0, u "com/example/sugglint/sugglint/geo/Box"), (0, u "west"), (0, u "D"), (0, .fieldref 26 32), (0, .nameAndType 33 30), (0, u "south"), (0, .fieldref 26 35), (0, .nameAndType 36 30), (0, u "east"), (0, .fieldref 26 38), (0, .nameAndType 39 30), (0, u "north"), (12, .methodref 8 53), (0, .nameAndType 54 55), (0, u "lat"), (0, u "()D"), (30, .methodref 8 87), (0, .nameAndType 88 55), (0, u "lon"), (7, u "(DDDD)V"), (0, .methodref 26 98), (0, .nameAndType 99 100), (0, u "spansLongitude"), (0, u "(D)Z"), (28, u "ROUNDING_ALLOWANCE"), (9, u "contains"), (0, u "(Lcom/example/sugglint/sugglint/geo/Point;)Z")] 36

def k4c0 : Code := { maxStack := 6, maxLocals := 9, code := prog_1_method_1_code, exceptionTable := #[], attributes := #[] }
def k4m0 : Method := { name := "<init>", desc := "(DDDD)V", sig := { parameters := [.double, .double, .double, .double], returnType := none }, accessFlags := 1, code := some k4c0 }
def k4c1 : Code := { maxStack := 4, maxLocals := 2, code := prog_1_method_3_code, exceptionTable := #[], attributes := #[] }
def k4m1 : Method := { name := "contains", desc := "(Lcom/example/sugglint/sugglint/geo/Point;)Z", sig := { parameters := [(.object "com/example/sugglint/sugglint/geo/Point")], returnType := some .boolean }, accessFlags := 1, code := some k4c1 }
def k4c2 : Code := { maxStack := 4, maxLocals := 4, code := prog_1_method_7_code, exceptionTable := #[], attributes := #[] }
def k4m2 : Method := { name := "spansLongitude", desc := "(D)Z", sig := { parameters := [.double], returnType := some .boolean }, accessFlags := 2, code := some k4c2 }
/-- com/example/sugglint/sugglint/geo/Box -/
def k4 : Class := { plain "com/example/sugglint/sugglint/geo/Box" (some 3) with
  accessFlags := 49
  interfaces := #[]
  cf := some (fileOf pool4 26 #[] #[{ accessFlags := 1, nameIndex := 5, descriptorIndex := 96, attributes := #[] }, { accessFlags := 1, nameIndex := 139, descriptorIndex := 140, attributes := #[] }, { accessFlags := 2, nameIndex := 99, descriptorIndex := 100, attributes := #[] }] 49 2 #[] #[{ accessFlags := 18, nameIndex := 29, descriptorIndex := 30, attributes := #[] }, { accessFlags := 18, nameIndex := 33, descriptorIndex := 30, attributes := #[] }, { accessFlags := 18, nameIndex := 36, descriptorIndex := 30, attributes := #[] }, { accessFlags := 18, nameIndex := 39, descriptorIndex := 30, attributes := #[] }, { accessFlags := 26, nameIndex := 129, descriptorIndex := 30, attributes := #[] }])
  fields := #[{ name := "west", type := .double, accessFlags := 18, slot := 0, constantValue := 0 }, { name := "south", type := .double, accessFlags := 18, slot := 1, constantValue := 0 }, { name := "east", type := .double, accessFlags := 18, slot := 2, constantValue := 0 }, { name := "north", type := .double, accessFlags := 18, slot := 3, constantValue := 0 }, { name := "ROUNDING_ALLOWANCE", type := .double, accessFlags := 26, slot := 0, constantValue := 0 }]
  methods := #[k4m0, k4m1, k4m2]
  instanceTypes := #[.double, .double, .double, .double]
  staticTypes := #[.double]
  resolved := Array.replicate 177 none
  statics := none }

def pool5 : Array CpInfo := pool [(1, .methodref 2 3), (0, .class_ 4), (0, .nameAndType 5 6), (0, u "java/lang/Record"), (0, u "<init>"), (0, u "()V"), (0, .methodref 8 9), (0, .class_ 10), (0, .nameAndType 11 12), (0, u "com/example/sugglint/sugglint/geo/Point"), (0, u "checkLatitude"), (0, u "(D)V"), (0, .methodref 8 14), (0, .nameAndType 15 12), (0, u "checkLongitude"), (0, .fieldref 8 17), (0, .nameAndType 18 19), (0, u "lat"), (0, u "D"), (0, .fieldref 8 21), (0, .nameAndType 22 19), (0, u "lon"), (0, .double 13859405640767635456), (1, .double 4636033603912859648), (10, .double 13863909240395005952), (1, .double 4640537203540230144), (42, u "EARTH_RADIUS_KM"), (1, u "(DD)V"), (9, u "()D")] 31

def k5c0 : Code := { maxStack := 3, maxLocals := 5, code := prog_3_method_1_code, exceptionTable := #[], attributes := #[] }
def k5m0 : Method := { name := "<init>", desc := "(DD)V", sig := { parameters := [.double, .double], returnType := none }, accessFlags := 1, code := some k5c0 }
def k5c1 : Code := { maxStack := 4, maxLocals := 2, code := prog_3_method_2_code, exceptionTable := #[], attributes := #[] }
def k5m1 : Method := { name := "checkLatitude", desc := "(D)V", sig := { parameters := [.double], returnType := none }, accessFlags := 8, code := some k5c1 }
def k5c2 : Code := { maxStack := 4, maxLocals := 2, code := prog_3_method_3_code, exceptionTable := #[], attributes := #[] }
def k5m2 : Method := { name := "checkLongitude", desc := "(D)V", sig := { parameters := [.double], returnType := none }, accessFlags := 8, code := some k5c2 }
def k5c3 : Code := { maxStack := 2, maxLocals := 1, code := prog_3_method_8_code, exceptionTable := #[], attributes := #[] }
def k5m3 : Method := { name := "lat", desc := "()D", sig := { parameters := [], returnType := some .double }, accessFlags := 1, code := some k5c3 }
def k5c4 : Code := { maxStack := 2, maxLocals := 1, code := prog_3_method_9_code, exceptionTable := #[], attributes := #[] }
def k5m4 : Method := { name := "lon", desc := "()D", sig := { parameters := [], returnType := some .double }, accessFlags := 1, code := some k5c4 }
/-- com/example/sugglint/sugglint/geo/Point -/
def k5 : Class := { plain "com/example/sugglint/sugglint/geo/Point" (some 3) with
  accessFlags := 49
  interfaces := #[]
  cf := some (fileOf pool5 8 #[] #[{ accessFlags := 1, nameIndex := 5, descriptorIndex := 83, attributes := #[] }, { accessFlags := 8, nameIndex := 11, descriptorIndex := 12, attributes := #[] }, { accessFlags := 8, nameIndex := 15, descriptorIndex := 12, attributes := #[] }, { accessFlags := 1, nameIndex := 18, descriptorIndex := 93, attributes := #[] }, { accessFlags := 1, nameIndex := 22, descriptorIndex := 93, attributes := #[] }] 49 2 #[] #[{ accessFlags := 18, nameIndex := 18, descriptorIndex := 19, attributes := #[] }, { accessFlags := 18, nameIndex := 22, descriptorIndex := 19, attributes := #[] }, { accessFlags := 25, nameIndex := 81, descriptorIndex := 19, attributes := #[] }])
  fields := #[{ name := "lat", type := .double, accessFlags := 18, slot := 0, constantValue := 0 }, { name := "lon", type := .double, accessFlags := 18, slot := 1, constantValue := 0 }, { name := "EARTH_RADIUS_KM", type := .double, accessFlags := 25, slot := 0, constantValue := 0 }]
  methods := #[k5m0, k5m1, k5m2, k5m3, k5m4]
  instanceTypes := #[.double, .double]
  staticTypes := #[.double]
  resolved := Array.replicate 125 none
  statics := none }

def pool6 : Array CpInfo := pool [(1, u "java/lang/Cloneable"), (0, .class_ 1), (0, u "java/lang/Object"), (0, .class_ 3)] 3

/-- java/lang/Cloneable -/
def k6 : Class := { plain "java/lang/Cloneable" (some 0) with
  accessFlags := 1537
  interfaces := #[]
  cf := some (fileOf pool6 2 #[] #[] 1537 4 #[] #[])
  fields := #[]
  methods := #[]
  instanceTypes := #[]
  staticTypes := #[]
  resolved := Array.replicate 8 none
  statics := none }

def pool7 : Array CpInfo := pool [(1, u "java/io/Serializable"), (0, .class_ 1), (0, u "java/lang/Object"), (0, .class_ 3)] 3

/-- java/io/Serializable -/
def k7 : Class := { plain "java/io/Serializable" (some 0) with
  accessFlags := 1537
  interfaces := #[]
  cf := some (fileOf pool7 2 #[] #[] 1537 4 #[] #[])
  fields := #[]
  methods := #[]
  instanceTypes := #[]
  staticTypes := #[]
  resolved := Array.replicate 8 none
  statics := none }

/-- the primitive byte -/
def k8 : Class := { plain "byte" none with kind := .primitive 'B', accessFlags := 0x411 }
/-- [B -/
def k9 : Class := { plain "[B" (some 0) with kind := .array 8 .byte, interfaces := #[6, 7], accessFlags := 1041 }

/-- the primitive int -/
def k10 : Class := { plain "int" none with kind := .primitive 'I', accessFlags := 0x411 }
/-- [I -/
def k11 : Class := { plain "[I" (some 0) with kind := .array 10 .int, interfaces := #[6, 7], accessFlags := 1041 }

def heap : Heap := #[]
def classes : Array Class := #[k0, k1, k2, k3, k4, k5, k6, k7, k8, k9, k10, k11]
def interned : List (Array UInt16 × Addr) := []
def slotsUsed : Nat := 0
def theMethod : MethodId := ⟨1, 3⟩
def args0 : Array Value := #[.int 5, .int 3, .int 165, .int 7, .int 9, .int 11]
def aboutOver (below : List Frame) : State where
  vm := { classes := classes, interned := interned.toArray }
  heap := heap
  slotsUsed := slotsUsed
  threads := #[{ frames := .invoking theMethod args0 :: below }]
def below0 : List Frame := [.native { method := ⟨0, 0⟩, args := #[] }]
def about1 : State := aboutOver below0
def p0 : Program := .bare "" "" ""
def e0 : Env := launch0.env 0 0 0
theorem w_frames : about1.frames = Frame.invoking theMethod args0 :: below0 := rfl
set_option maxRecDepth 65536 in
theorem w_args : argsFit about1.vm theMethod args0 = true := by decide +kernel
set_option maxRecDepth 65536 in
theorem w_heap : heapFits about1 = true := by decide +kernel
set_option maxRecDepth 65536 in
theorem w_runnable : about1.curStatus? = some .runnable := by decide +kernel
set_option maxRecDepth 65536 in
theorem w_alone : about1.alone = true := by decide +kernel
set_option maxRecDepth 65536 in
theorem w_named : about1.methodNamed? x = some theMethod := by decide +kernel
set_option maxRecDepth 65536 in
theorem w_hears : about1.hears theMethod below0 = true := by decide +kernel
set_option maxRecDepth 65536 in
theorem w_ripe : about1.ripe theMethod args0 below0 = true := by decide +kernel
theorem w_running : about1.status = .running := rfl
set_option maxRecDepth 65536 in
theorem w_room : about1.hasRoom e0.platform room_1 = true :=
  launch0.hasRoom_least _ room_1 (by decide +kernel) (by decide +kernel) (by decide +kernel) (by decide +kernel) (by decide +kernel) (by decide +kernel)
theorem allAtoms_all (ts : List Jvm.Cond) (a : Array Jvm.Value) (st : Jvm.State) : (allAtoms ts).before a st = ts.all (fun c => c.before a st) := by
  induction ts with
  | nil => rfl
  | cons c t ih =>
    show (Jvm.Cond.and c (allAtoms t)).before a st = _
    rw [Jvm.Cond.before_and, ih, List.all_cons]
def words1 : List Jvm.Cond := Jvm.Cond.code x code maxLocals ret :: tables_1
/-- a 'code' word, met by the world's own term for the bytes: nothing is compared byte by byte -/
theorem code_word {y : MethodName} {bytes : ByteArray} {mx : Nat} {rt : Option FieldType} {a : Array Value} {s : State} {m : MethodId} {meth : Method} {c : Code} (h1 : s.methodNamed? y = some m) (h2 : s.vm.method? m = some meth) (h3 : meth.code = some c) (h4 : c.code = bytes)
    (h5 : (c.maxLocals == mx && c.exceptionTable.isEmpty && decide (c.maxStack ≤ mostOperands) && decide (meth.sig.returnType = rt) && !meth.locks && decide (parseMethodDescriptor y.desc = some meth.sig)) = true) : (Jvm.Cond.code y bytes mx rt).before a s = true := by
  simp only [Bool.and_eq_true, beq_iff_eq, Bool.not_eq_true', decide_eq_true_eq] at h5
  obtain ⟨⟨⟨⟨⟨g1, g2⟩, g3⟩, g4⟩, g5⟩, g6⟩ := h5
  simp [Cond.before, Cond.holds, Cond.value, h1, h2, h3, h4, g1, g2, g3, g4, g5, g6]
def isCode : Jvm.Cond → Bool
  | .code _ _ _ _ => true
  | _ => false
theorem all_split {L : List Jvm.Cond} {P : Jvm.Cond → Bool} (h1 : L.all (fun c => isCode c || P c) = true) (h2 : ∀ c ∈ L.filter isCode, P c = true) : L.all P = true := by
  refine List.all_eq_true.mpr fun c hc => ?_
  have h := List.all_eq_true.mp h1 c hc
  rcases Bool.eq_false_or_eq_true (isCode c) with hi | hi
  · exact h2 c (List.mem_filter.mpr ⟨hc, hi⟩)
  · simpa [hi] using h
set_option maxRecDepth 65536 in
theorem w_c0 : (Jvm.Cond.code x code maxLocals ret).before args0 about1 = true := code_word (m := ⟨1, 3⟩) (meth := k1m3) (c := k1c3) (by decide +kernel) rfl rfl rfl (by decide +kernel)
set_option maxRecDepth 65536 in
theorem w_c1 : (Jvm.Cond.code ({ cls := "com/example/sugglint/sugglint/geo/BoxContainsPinLaw", name := "lon4", desc := "(I)I" } : Jvm.MethodName) method_2_code (1 : Nat) (Option.some Jvm.ClassFile.FieldType.int)).before args0 about1 = true := code_word (m := ⟨1, 1⟩) (meth := k1m1) (c := k1c1) (by decide +kernel) rfl rfl rfl (by decide +kernel)
set_option maxRecDepth 65536 in
theorem w_c2 : (Jvm.Cond.code ({ cls := "com/example/sugglint/sugglint/geo/BoxContainsPinLaw", name := "lat4", desc := "(I)I" } : Jvm.MethodName) method_3_code (1 : Nat) (Option.some Jvm.ClassFile.FieldType.int)).before args0 about1 = true := code_word (m := ⟨1, 2⟩) (meth := k1m2) (c := k1c2) (by decide +kernel) rfl rfl rfl (by decide +kernel)
set_option maxRecDepth 65536 in
theorem w_c3 : (Jvm.Cond.code ({ cls := "java/lang/Math", name := "min", desc := "(II)I" } : Jvm.MethodName) jdk_29_method_69_code (2 : Nat) (Option.some Jvm.ClassFile.FieldType.int)).before args0 about1 = true := code_word (m := ⟨2, 2⟩) (meth := k2m2) (c := k2c2) (by decide +kernel) rfl rfl rfl (by decide +kernel)
set_option maxRecDepth 65536 in
theorem w_c4 : (Jvm.Cond.code ({ cls := "java/lang/Math", name := "max", desc := "(II)I" } : Jvm.MethodName) jdk_29_method_65_code (2 : Nat) (Option.some Jvm.ClassFile.FieldType.int)).before args0 about1 = true := code_word (m := ⟨2, 1⟩) (meth := k2m1) (c := k2c1) (by decide +kernel) rfl rfl rfl (by decide +kernel)
set_option maxRecDepth 65536 in
theorem w_c5 : (Jvm.Cond.code ({ cls := "com/example/sugglint/sugglint/geo/Box", name := "<init>", desc := "(DDDD)V" } : Jvm.MethodName) prog_1_method_1_code (9 : Nat) (Option.none : Option Jvm.ClassFile.FieldType)).before args0 about1 = true := code_word (m := ⟨4, 0⟩) (meth := k4m0) (c := k4c0) (by decide +kernel) rfl rfl rfl (by decide +kernel)
set_option maxRecDepth 65536 in
theorem w_c6 : (Jvm.Cond.code ({ cls := "java/lang/Record", name := "<init>", desc := "()V" } : Jvm.MethodName) jdk_30_method_1_code (1 : Nat) (Option.none : Option Jvm.ClassFile.FieldType)).before args0 about1 = true := code_word (m := ⟨3, 0⟩) (meth := k3m0) (c := k3c0) (by decide +kernel) rfl rfl rfl (by decide +kernel)
set_option maxRecDepth 65536 in
theorem w_c7 : (Jvm.Cond.code ({ cls := "java/lang/Object", name := "<init>", desc := "()V" } : Jvm.MethodName) object_method_1_code (1 : Nat) (Option.none : Option Jvm.ClassFile.FieldType)).before args0 about1 = true := code_word (m := ⟨0, 0⟩) (meth := k0m0) (c := k0c0) (by decide +kernel) rfl rfl rfl (by decide +kernel)
set_option maxRecDepth 65536 in
theorem w_c8 : (Jvm.Cond.code ({ cls := "com/example/sugglint/sugglint/geo/Point", name := "checkLongitude", desc := "(D)V" } : Jvm.MethodName) prog_3_method_3_code (2 : Nat) (Option.none : Option Jvm.ClassFile.FieldType)).before args0 about1 = true := code_word (m := ⟨5, 2⟩) (meth := k5m2) (c := k5c2) (by decide +kernel) rfl rfl rfl (by decide +kernel)
set_option maxRecDepth 65536 in
theorem w_c9 : (Jvm.Cond.code ({ cls := "com/example/sugglint/sugglint/geo/Point", name := "checkLatitude", desc := "(D)V" } : Jvm.MethodName) prog_3_method_2_code (2 : Nat) (Option.none : Option Jvm.ClassFile.FieldType)).before args0 about1 = true := code_word (m := ⟨5, 1⟩) (meth := k5m1) (c := k5c1) (by decide +kernel) rfl rfl rfl (by decide +kernel)
set_option maxRecDepth 65536 in
theorem w_c10 : (Jvm.Cond.code ({ cls := "com/example/sugglint/sugglint/geo/Point", name := "<init>", desc := "(DD)V" } : Jvm.MethodName) prog_3_method_1_code (5 : Nat) (Option.none : Option Jvm.ClassFile.FieldType)).before args0 about1 = true := code_word (m := ⟨5, 0⟩) (meth := k5m0) (c := k5c0) (by decide +kernel) rfl rfl rfl (by decide +kernel)
set_option maxRecDepth 65536 in
theorem w_c11 : (Jvm.Cond.code ({ cls := "com/example/sugglint/sugglint/geo/Box", name := "contains", desc := "(Lcom/example/sugglint/sugglint/geo/Point;)Z" } : Jvm.MethodName) prog_1_method_3_code (2 : Nat) (Option.some Jvm.ClassFile.FieldType.boolean)).before args0 about1 = true := code_word (m := ⟨4, 1⟩) (meth := k4m1) (c := k4c1) (by decide +kernel) rfl rfl rfl (by decide +kernel)
set_option maxRecDepth 65536 in
theorem w_c12 : (Jvm.Cond.code ({ cls := "com/example/sugglint/sugglint/geo/Point", name := "lat", desc := "()D" } : Jvm.MethodName) prog_3_method_8_code (1 : Nat) (Option.some Jvm.ClassFile.FieldType.double)).before args0 about1 = true := code_word (m := ⟨5, 3⟩) (meth := k5m3) (c := k5c3) (by decide +kernel) rfl rfl rfl (by decide +kernel)
set_option maxRecDepth 65536 in
theorem w_c13 : (Jvm.Cond.code ({ cls := "com/example/sugglint/sugglint/geo/Point", name := "lon", desc := "()D" } : Jvm.MethodName) prog_3_method_9_code (1 : Nat) (Option.some Jvm.ClassFile.FieldType.double)).before args0 about1 = true := code_word (m := ⟨5, 4⟩) (meth := k5m4) (c := k5c4) (by decide +kernel) rfl rfl rfl (by decide +kernel)
set_option maxRecDepth 65536 in
theorem w_c14 : (Jvm.Cond.code ({ cls := "com/example/sugglint/sugglint/geo/Box", name := "spansLongitude", desc := "(D)Z" } : Jvm.MethodName) prog_1_method_7_code (4 : Nat) (Option.some Jvm.ClassFile.FieldType.boolean)).before args0 about1 = true := code_word (m := ⟨4, 2⟩) (meth := k4m2) (c := k4c2) (by decide +kernel) rfl rfl rfl (by decide +kernel)
def codes1 : List Jvm.Cond := [Jvm.Cond.code x code maxLocals ret, Jvm.Cond.code ({ cls := "com/example/sugglint/sugglint/geo/BoxContainsPinLaw", name := "lon4", desc := "(I)I" } : Jvm.MethodName) method_2_code (1 : Nat) (Option.some Jvm.ClassFile.FieldType.int), Jvm.Cond.code ({ cls := "com/example/sugglint/sugglint/geo/BoxContainsPinLaw", name := "lat4", desc := "(I)I" } : Jvm.MethodName) method_3_code (1 : Nat) (Option.some Jvm.ClassFile.FieldType.int), Jvm.Cond.code ({ cls := "java/lang/Math", name := "min", desc := "(II)I" } : Jvm.MethodName) jdk_29_method_69_code (2 : Nat) (Option.some Jvm.ClassFile.FieldType.int), Jvm.Cond.code ({ cls := "java/lang/Math", name := "max", desc := "(II)I" } : Jvm.MethodName) jdk_29_method_65_code (2 : Nat) (Option.some Jvm.ClassFile.FieldType.int), Jvm.Cond.code ({ cls := "com/example/sugglint/sugglint/geo/Box", name := "<init>", desc := "(DDDD)V" } : Jvm.MethodName) prog_1_method_1_code (9 : Nat) (Option.none : Option Jvm.ClassFile.FieldType), Jvm.Cond.code ({ cls := "java/lang/Record", name := "<init>", desc := "()V" } : Jvm.MethodName) jdk_30_method_1_code (1 : Nat) (Option.none : Option Jvm.ClassFile.FieldType), Jvm.Cond.code ({ cls := "java/lang/Object", name := "<init>", desc := "()V" } : Jvm.MethodName) object_method_1_code (1 : Nat) (Option.none : Option Jvm.ClassFile.FieldType), Jvm.Cond.code ({ cls := "com/example/sugglint/sugglint/geo/Point", name := "checkLongitude", desc := "(D)V" } : Jvm.MethodName) prog_3_method_3_code (2 : Nat) (Option.none : Option Jvm.ClassFile.FieldType), Jvm.Cond.code ({ cls := "com/example/sugglint/sugglint/geo/Point", name := "checkLatitude", desc := "(D)V" } : Jvm.MethodName) prog_3_method_2_code (2 : Nat) (Option.none : Option Jvm.ClassFile.FieldType), Jvm.Cond.code ({ cls := "com/example/sugglint/sugglint/geo/Point", name := "<init>", desc := "(DD)V" } : Jvm.MethodName) prog_3_method_1_code (5 : Nat) (Option.none : Option Jvm.ClassFile.FieldType), Jvm.Cond.code ({ cls := "com/example/sugglint/sugglint/geo/Box", name := "contains", desc := "(Lcom/example/sugglint/sugglint/geo/Point;)Z" } : Jvm.MethodName) prog_1_method_3_code (2 : Nat) (Option.some Jvm.ClassFile.FieldType.boolean), Jvm.Cond.code ({ cls := "com/example/sugglint/sugglint/geo/Point", name := "lat", desc := "()D" } : Jvm.MethodName) prog_3_method_8_code (1 : Nat) (Option.some Jvm.ClassFile.FieldType.double), Jvm.Cond.code ({ cls := "com/example/sugglint/sugglint/geo/Point", name := "lon", desc := "()D" } : Jvm.MethodName) prog_3_method_9_code (1 : Nat) (Option.some Jvm.ClassFile.FieldType.double), Jvm.Cond.code ({ cls := "com/example/sugglint/sugglint/geo/Box", name := "spansLongitude", desc := "(D)Z" } : Jvm.MethodName) prog_1_method_7_code (4 : Nat) (Option.some Jvm.ClassFile.FieldType.boolean)]
set_option maxRecDepth 65536 in
theorem codes_eq : words1.filter isCode = codes1 := rfl
theorem w_codes : ∀ c ∈ words1.filter isCode, c.before args0 about1 = true := by
  rw [codes_eq]
  intro c hc
  simp only [codes1, List.mem_cons, List.not_mem_nil, or_false] at hc
  rcases hc with rfl | rfl | rfl | rfl | rfl | rfl | rfl | rfl | rfl | rfl | rfl | rfl | rfl | rfl | rfl
  · exact w_c0
  · exact w_c1
  · exact w_c2
  · exact w_c3
  · exact w_c4
  · exact w_c5
  · exact w_c6
  · exact w_c7
  · exact w_c8
  · exact w_c9
  · exact w_c10
  · exact w_c11
  · exact w_c12
  · exact w_c13
  · exact w_c14
set_option maxRecDepth 65536 in
theorem w_t1 : (words1.take 24).all (fun c => isCode c || c.before args0 about1) = true := by decide +kernel
set_option maxRecDepth 65536 in
theorem w_t2 : ((words1.drop 24).take 24).all (fun c => isCode c || c.before args0 about1) = true := by decide +kernel
set_option maxRecDepth 65536 in
theorem w_t3 : (((words1.drop 24).drop 24).take 24).all (fun c => isCode c || c.before args0 about1) = true := by decide +kernel
set_option maxRecDepth 65536 in
theorem w_t4 : (((words1.drop 24).drop 24).drop 24).all (fun c => isCode c || c.before args0 about1) = true := by decide +kernel
theorem w_tables : (allAtoms (Jvm.Cond.code x code maxLocals ret :: tables_1)).before args0 about1 = true := by
  rw [allAtoms_all]
  show words1.all (fun c => c.before args0 about1) = true
  refine all_split ?_ w_codes
  rw [← List.take_append_drop 24 words1, List.all_append, w_t1, ← List.take_append_drop 24 (words1.drop 24), List.all_append, w_t2, ← List.take_append_drop 24 ((words1.drop 24).drop 24), List.all_append, w_t3, w_t4]
  rfl
set_option maxRecDepth 65536 in
theorem w_case : (Jvm.Cond.and given_1 narrow_1).before args0 about1 = true := by decide +kernel
theorem w_applies : (headSpec (Jvm.Cond.code x code maxLocals ret :: tables_1) room_1).applies x e0.platform about1 = true :=
  (Spec.applies_iff w_frames).mpr ⟨w_running, w_runnable, w_alone, w_named, w_hears, w_ripe, w_room, w_tables⟩
theorem atStart : AtStart classFile x code maxLocals ret World_1 tables_1 room_1 Calls_1 rest_1 Pre_1 launch0 p0 e0 about1 theMethod args0 below0 :=
  ⟨lists_1, trivial, launch0.admits_env _ _ _, launch0.least_env, fairChoices_fair.cas, fairChoices_fair.clock, w_frames, w_args, w_heap, w_applies, trivial, trivial, w_case⟩
end start1
theorem witness_1 : WitnessClaimed_1 := ⟨start1.p0, start1.e0, start1.about1, start1.theMethod, start1.args0, start1.below0, start1.atStart⟩
end Jvm.Pilot.@@N@@
