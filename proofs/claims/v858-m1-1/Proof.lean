import JvmDerived
import JvmDerived.Pilot.@@N@@Statement
import JvmDerived.Pilot.@@N@@Code
set_option linter.unusedVariables false
set_option linter.unusedSimpArgs false

namespace Jvm.Pilot.@@N@@
open Jvm Jvm.ClassFile Sem Op Lib Jvm.Free Jvm.Stand Jvm.LawKit Jvm.RoadKit Bundle Jvm.Pilot.@@N@@.Jvm.D
/-- from the state S the invocation runs to its end and Q holds there -/
def Ends (p : Program) (e : Env) (below : List Frame) (s : State) (Q : Option Value → Heap → List Loc → Prop) (K N : Nat) (S : State) : Prop :=
  ∃ s₂ o, Steps p.tables e below S s₂ ∧ s₂.status = .running ∧ Ended s₂ below o ∧ ∃ v L, o = .returned v ∧ Q v s₂.heap L ∧ FrameEnd s o s₂ L K N
/-- a method's contract at given arguments and heap -/
def Con (l : Launch) (Z : State) (y : MethodName) (bytes : ByteArray) (maxL : Nat) (rt : Option FieldType) (rm : Room) (as' : Array Value) (h0 : Heap) (Q : Option Value → Heap → List Loc → Prop) : Prop :=
  ∀ ws, MetFree l y (head1 (Jvm.Cond.code y bytes maxL rt :: ws) rm) (fun a U => a = as' ∧ Z.Warmed39 U.vm ∧ U.heap = h0) (fun _ _ _ _ _ => True) (fun _ U o U' => ∃ v L, o = .returned v ∧ Q v U'.heap L ∧ FrameEnd U o U' L rm.cells rm.slots)
section Own
variable {p : Program} {l : Launch} {e : Env} {R : Room} {s : State} {m : MethodId} {args : Array Value} {below : List Frame} {meth : Method} {c : Code} {T : State} {locs : List Loc} {cells slots : Nat} {Q : Option Value → Heap → List Loc → Prop} {K N : Nat} {pc pc' : Nat} {Ls Ls' : Array Slot} {st : List Value} {Z : State} {a0 : Array Value} {h : Heap}
theorem Ends.go {S S' : State} (g : ∀ t, Steps p.tables e below S' t → Steps p.tables e below S t) (E : Ends p e below s Q K N S') : Ends p e below s Q K N S := by
  obtain ⟨s2, o, h1, r⟩ := E; exact ⟨s2, o, g _ h1, r⟩
theorem Con.ofP {y : MethodName} {bytes : ByteArray} {maxL : Nat} {rt : Option FieldType} {rm : Room} {as' : Array Value} {h0 : Heap} (hn : plainFor y = true)
    (body : ∀ (p : Program) (e : Env) (s : State) (m : MethodId) (below : List Frame) (meth : Method) (c : Code) (T : State), Stand p l e rm s m as' below meth c T [] 0 0 → p.tables.exec = Jvm.exec → c.code = bytes → c.maxLocals = maxL → meth.sig.returnType = rt → meth.locks = false → s.vm.findClass y.cls = some m.cls → meth.name = y.name → Z.Warmed39 s.vm → T.heap = h0 →
      Ends p e below s Q rm.cells rm.slots (T.setTop (entryFrame m as' maxL))) : Con l Z y bytes maxL rt rm as' h0 Q := by
  intro ws
  refine MetFree.of_bodySF hn hisR ?_
  intro p e s m args below meth c s₁ Bd hml0 hP hK
  obtain ⟨ha, hZ, hh⟩ := hP
  subst ha
  have X0 : Stand p l e rm s m _ below meth c s₁ [] 0 0 := Stand.of_body Bd
  have e0 : s₁.heap = h0 := by rw [← hh, Bd.state]; rfl
  exact body p e s m below meth c s₁ X0 Bd.exec Bd.bytes hml0 Bd.returns (BodyLoose.notSynchronized Bd) (findClass_of_methodNamed Bd.named) (name_of_methodNamed Bd.named Bd.method).1 hZ e0
theorem Con.of {y : MethodName} {bytes : ByteArray} {maxL : Nat} {rt : Option FieldType} {rm : Room} {as' : Array Value} {h0 : Heap} (hn : plainName y.cls = true)
    (body : ∀ (p : Program) (e : Env) (s : State) (m : MethodId) (below : List Frame) (meth : Method) (c : Code) (T : State), Stand p l e rm s m as' below meth c T [] 0 0 → p.tables.exec = Jvm.exec → c.code = bytes → c.maxLocals = maxL → meth.sig.returnType = rt → meth.locks = false → s.vm.findClass y.cls = some m.cls → meth.name = y.name → Z.Warmed39 s.vm → T.heap = h0 →
      Ends p e below s Q rm.cells rm.slots (T.setTop (entryFrame m as' maxL))) : Con l Z y bytes maxL rt rm as' h0 Q := Con.ofP (plainFor_of_name hn) body
theorem o_aloadN (X : Stand p l e R s m args below meth c T locs cells slots) (hx : p.tables.exec = Jvm.exec) {k : Fin 4} {v : Value} (hd : decode c.code pc = .ok (.aload_n k, 1)) (hl : Ls[k.val]? = some (.val v)) (hv : v.isRef = true) (hp : pc + 1 = pc') (E : Ends p e below s Q K N (T.setTop (mkF m pc' Ls (v :: st)))) : Ends p e below s Q K N (T.setTop (mkF m pc Ls st)) := by
  subst hp; exact Ends.go (fun t q => XS.aloadN X.here hx rfl hd hl hv q) E
theorem o_aload (X : Stand p l e R s m args below meth c T locs cells slots) (hx : p.tables.exec = Jvm.exec) {k : Nat} {v : Value} (hd : decode c.code pc = .ok (.aload k, 2)) (hl : Ls[k]? = some (.val v)) (hv : v.isRef = true) (hp : pc + 2 = pc') (E : Ends p e below s Q K N (T.setTop (mkF m pc' Ls (v :: st)))) : Ends p e below s Q K N (T.setTop (mkF m pc Ls st)) := by
  subst hp; exact Ends.go (fun t q => XS.aload X.here hx rfl hd hl hv q) E
theorem o_iloadN (X : Stand p l e R s m args below meth c T locs cells slots) (hx : p.tables.exec = Jvm.exec) {k : Fin 4} {v : Int32} (hd : decode c.code pc = .ok (.iload_n k, 1)) (hl : Ls[k.val]? = some (.val (.int v))) (hp : pc + 1 = pc') (E : Ends p e below s Q K N (T.setTop (mkF m pc' Ls (.int v :: st)))) : Ends p e below s Q K N (T.setTop (mkF m pc Ls st)) := by
  subst hp; exact Ends.go (fun t q => XS.iloadN X.here hx rfl hd hl q) E
theorem o_iload (X : Stand p l e R s m args below meth c T locs cells slots) (hx : p.tables.exec = Jvm.exec) {k : Nat} {v : Int32} (hd : decode c.code pc = .ok (.iload k, 2)) (hl : Ls[k]? = some (.val (.int v))) (hp : pc + 2 = pc') (E : Ends p e below s Q K N (T.setTop (mkF m pc' Ls (.int v :: st)))) : Ends p e below s Q K N (T.setTop (mkF m pc Ls st)) := by
  subst hp; exact Ends.go (fun t q => XS.iload X.here hx rfl hd hl q) E
theorem o_istoreN (X : Stand p l e R s m args below meth c T locs cells slots) (hx : p.tables.exec = Jvm.exec) {k : Fin 4} {v : Int32} (hd : decode c.code pc = .ok (.istore_n k, 1)) (hl : storeLocals Ls k.val (.int v) = some Ls') (hp : pc + 1 = pc') (E : Ends p e below s Q K N (T.setTop (mkF m pc' Ls' st))) : Ends p e below s Q K N (T.setTop (mkF m pc Ls (.int v :: st))) := by
  subst hp; exact Ends.go (fun t q => XS.istoreN X.here hx rfl hd rfl hl q) E
theorem o_istore (X : Stand p l e R s m args below meth c T locs cells slots) (hx : p.tables.exec = Jvm.exec) {k : Nat} {v : Int32} (hd : decode c.code pc = .ok (.istore k, 2)) (hl : storeLocals Ls k (.int v) = some Ls') (hp : pc + 2 = pc') (E : Ends p e below s Q K N (T.setTop (mkF m pc' Ls' st))) : Ends p e below s Q K N (T.setTop (mkF m pc Ls (.int v :: st))) := by
  subst hp; exact Ends.go (fun t q => XS.istore X.here hx rfl hd rfl hl q) E
theorem o_lloadN (X : Stand p l e R s m args below meth c T locs cells slots) (hx : p.tables.exec = Jvm.exec) {k : Fin 4} {v : Int64} (hd : decode c.code pc = .ok (.lload_n k, 1)) (hl : Ls[k.val]? = some (.val (.long v))) (hp : pc + 1 = pc') (E : Ends p e below s Q K N (T.setTop (mkF m pc' Ls (.long v :: st)))) : Ends p e below s Q K N (T.setTop (mkF m pc Ls st)) := by
  subst hp; exact Ends.go (fun t q => XS.lloadN X.here hx rfl hd hl q) E
theorem o_lload (X : Stand p l e R s m args below meth c T locs cells slots) (hx : p.tables.exec = Jvm.exec) {k : Nat} {v : Int64} (hd : decode c.code pc = .ok (.lload k, 2)) (hl : Ls[k]? = some (.val (.long v))) (hp : pc + 2 = pc') (E : Ends p e below s Q K N (T.setTop (mkF m pc' Ls (.long v :: st)))) : Ends p e below s Q K N (T.setTop (mkF m pc Ls st)) := by
  subst hp; exact Ends.go (fun t q => XS.lload X.here hx rfl hd hl q) E
theorem o_lstore (X : Stand p l e R s m args below meth c T locs cells slots) (hx : p.tables.exec = Jvm.exec) {k : Nat} {v : Int64} (hd : decode c.code pc = .ok (.lstore k, 2)) (hl : storeLocals Ls k (.long v) = some Ls') (hp : pc + 2 = pc') (E : Ends p e below s Q K N (T.setTop (mkF m pc' Ls' st))) : Ends p e below s Q K N (T.setTop (mkF m pc Ls (.long v :: st))) := by
  subst hp; exact Ends.go (fun t q => XS.lstore X.here hx rfl hd rfl hl q) E
theorem o_astore (X : Stand p l e R s m args below meth c T locs cells slots) (hx : p.tables.exec = Jvm.exec) {k : Nat} {v : Value} (hd : decode c.code pc = .ok (.astore k, 2)) (hv : v.isRef = true) (hl : storeLocals Ls k v = some Ls') (hp : pc + 2 = pc') (E : Ends p e below s Q K N (T.setTop (mkF m pc' Ls' st))) : Ends p e below s Q K N (T.setTop (mkF m pc Ls (v :: st))) := by
  subst hp; exact Ends.go (fun t q => XS.astore X.here hx rfl hd rfl hv hl q) E
theorem o_iconst (X : Stand p l e R s m args below meth c T locs cells slots) (hx : p.tables.exec = Jvm.exec) {i : Int} {v : Int32} (hd : decode c.code pc = .ok (.iconst i, 1)) (hv : Int32.ofInt i = v) (hp : pc + 1 = pc') (E : Ends p e below s Q K N (T.setTop (mkF m pc' Ls (.int v :: st)))) : Ends p e below s Q K N (T.setTop (mkF m pc Ls st)) := by
  subst hp; exact Ends.go (fun t q => XS.iconst X.here hx rfl hd  (by rw [hv]; exact q)) E
theorem o_bipush (X : Stand p l e R s m args below meth c T locs cells slots) (hx : p.tables.exec = Jvm.exec) {i : Int} {v : Int32} (hd : decode c.code pc = .ok (.bipush i, 2)) (hv : (Int8.ofInt i).toInt32 = v) (hp : pc + 2 = pc') (E : Ends p e below s Q K N (T.setTop (mkF m pc' Ls (.int v :: st)))) : Ends p e below s Q K N (T.setTop (mkF m pc Ls st)) := by
  subst hp; exact Ends.go (fun t q => XS.bipush X.here hx rfl hd  (by rw [hv]; exact q)) E
theorem o_sipush (X : Stand p l e R s m args below meth c T locs cells slots) (hx : p.tables.exec = Jvm.exec) {i : Int} {v : Int32} (hd : decode c.code pc = .ok (.sipush i, 3)) (hv : (Int16.ofInt i).toInt32 = v) (hp : pc + 3 = pc') (E : Ends p e below s Q K N (T.setTop (mkF m pc' Ls (.int v :: st)))) : Ends p e below s Q K N (T.setTop (mkF m pc Ls st)) := by
  subst hp; exact Ends.go (fun t q => XS.sipush X.here hx rfl hd  (by rw [hv]; exact q)) E
theorem o_iadd (X : Stand p l e R s m args below meth c T locs cells slots) (hx : p.tables.exec = Jvm.exec) {x y : Int32} (hd : decode c.code pc = .ok (.iadd, 1))  (hp : pc + 1 = pc') (E : Ends p e below s Q K N (T.setTop (mkF m pc' Ls (.int (x + y) :: st)))) : Ends p e below s Q K N (T.setTop (mkF m pc Ls (.int y :: .int x :: st))) := by
  subst hp; exact Ends.go (fun t q => XS.iadd X.here hx rfl hd rfl q) E
theorem o_isub (X : Stand p l e R s m args below meth c T locs cells slots) (hx : p.tables.exec = Jvm.exec) {x y : Int32} (hd : decode c.code pc = .ok (.isub, 1))  (hp : pc + 1 = pc') (E : Ends p e below s Q K N (T.setTop (mkF m pc' Ls (.int (x - y) :: st)))) : Ends p e below s Q K N (T.setTop (mkF m pc Ls (.int y :: .int x :: st))) := by
  subst hp; exact Ends.go (fun t q => XS.isub X.here hx rfl hd rfl q) E
theorem o_iand (X : Stand p l e R s m args below meth c T locs cells slots) (hx : p.tables.exec = Jvm.exec) {x y : Int32} (hd : decode c.code pc = .ok (.iand, 1))  (hp : pc + 1 = pc') (E : Ends p e below s Q K N (T.setTop (mkF m pc' Ls (.int (x &&& y) :: st)))) : Ends p e below s Q K N (T.setTop (mkF m pc Ls (.int y :: .int x :: st))) := by
  subst hp; exact Ends.go (fun t q => XS.iand X.here hx rfl hd rfl q) E
theorem o_ior (X : Stand p l e R s m args below meth c T locs cells slots) (hx : p.tables.exec = Jvm.exec) {x y : Int32} (hd : decode c.code pc = .ok (.ior, 1))  (hp : pc + 1 = pc') (E : Ends p e below s Q K N (T.setTop (mkF m pc' Ls (.int (x ||| y) :: st)))) : Ends p e below s Q K N (T.setTop (mkF m pc Ls (.int y :: .int x :: st))) := by
  subst hp; exact Ends.go (fun t q => XS.ior X.here hx rfl hd rfl q) E
theorem o_ishr (X : Stand p l e R s m args below meth c T locs cells slots) (hx : p.tables.exec = Jvm.exec) {x y : Int32} (hd : decode c.code pc = .ok (.ishr, 1))  (hp : pc + 1 = pc') (E : Ends p e below s Q K N (T.setTop (mkF m pc' Ls (.int (x >>> (y &&& 31)) :: st)))) : Ends p e below s Q K N (T.setTop (mkF m pc Ls (.int y :: .int x :: st))) := by
  subst hp; exact Ends.go (fun t q => XS.ishr X.here hx rfl hd rfl q) E
theorem o_iushr (X : Stand p l e R s m args below meth c T locs cells slots) (hx : p.tables.exec = Jvm.exec) {x y : Int32} (hd : decode c.code pc = .ok (.iushr, 1))  (hp : pc + 1 = pc') (E : Ends p e below s Q K N (T.setTop (mkF m pc' Ls (.int ((x.toUInt32 >>> (y &&& 31).toUInt32).toInt32) :: st)))) : Ends p e below s Q K N (T.setTop (mkF m pc Ls (.int y :: .int x :: st))) := by
  subst hp; exact Ends.go (fun t q => XS.iushr X.here hx rfl hd rfl q) E
theorem o_idiv (X : Stand p l e R s m args below meth c T locs cells slots) (hx : p.tables.exec = Jvm.exec) {x y : Int32} (hd : decode c.code pc = .ok (.idiv, 1)) (hy : y ≠ 0) (hp : pc + 1 = pc') (E : Ends p e below s Q K N (T.setTop (mkF m pc' Ls (.int (x / y) :: st)))) : Ends p e below s Q K N (T.setTop (mkF m pc Ls (.int y :: .int x :: st))) := by
  subst hp; exact Ends.go (fun t q => XS.idiv X.here hx rfl hd rfl hy q) E
theorem o_land (X : Stand p l e R s m args below meth c T locs cells slots) (hx : p.tables.exec = Jvm.exec) {x y : Int64} (hd : decode c.code pc = .ok (.land, 1))  (hp : pc + 1 = pc') (E : Ends p e below s Q K N (T.setTop (mkF m pc' Ls (.long (x &&& y) :: st)))) : Ends p e below s Q K N (T.setTop (mkF m pc Ls (.long y :: .long x :: st))) := by
  subst hp; exact Ends.go (fun t q => XS.land X.here hx rfl hd rfl q) E
theorem o_iinc (X : Stand p l e R s m args below meth c T locs cells slots) (hx : p.tables.exec = Jvm.exec) {k : Nat} {cst : Int} {v v' : Int32} (hd : decode c.code pc = .ok (.iinc k cst, 3)) (hl : Ls[k]? = some (.val (.int v))) (hv : v + Int32.ofInt cst = v') (hl' : storeLocals Ls k (.int v') = some Ls') (hp : pc + 3 = pc') (E : Ends p e below s Q K N (T.setTop (mkF m pc' Ls' st))) : Ends p e below s Q K N (T.setTop (mkF m pc Ls st)) := by
  subst hp; exact Ends.go (fun t q => XS.iinc X.here hx rfl hd hl (by rw [hv]; exact hl') q) E
theorem o_dup (X : Stand p l e R s m args below meth c T locs cells slots) (hx : p.tables.exec = Jvm.exec) {v : Value} (hd : decode c.code pc = .ok (.dup, 1)) (hc : v.category = 1) (hp : pc + 1 = pc') (E : Ends p e below s Q K N (T.setTop (mkF m pc' Ls (v :: v :: st)))) : Ends p e below s Q K N (T.setTop (mkF m pc Ls (v :: st))) := by
  subst hp; exact Ends.go (fun t q => XS.dup X.here hx rfl hd rfl hc q) E
theorem o_ldc2 (X : Stand p l e R s m args below meth c T locs cells slots) (hx : p.tables.exec = Jvm.exec) {own : String} {index : Nat} {v : Int64} (hd : decode c.code pc = .ok (.ldc2_w index, 3)) (hZ : Z.Warmed39 s.vm) (hown : s.vm.findClass own = some m.cls) (w : (Jvm.Cond.constantLong own index v).before a0 Z = true) (hp : pc + 3 = pc') (E : Ends p e below s Q K N (T.setTop (mkF m pc' Ls (.long v :: st)))) : Ends p e below s Q K N (T.setTop (mkF m pc Ls st)) := by
  subst hp; exact Ends.go (fun t q => X.ldc2Long hx hown (mvT hZ w) (g := mkF m pc Ls st) rfl hd t q) E
theorem o_goto (X : Stand p l e R s m args below meth c T locs cells slots) (hx : p.tables.exec = Jvm.exec) {o : Int} (hd : decode c.code pc = .ok (.goto o, 3)) (ho : 0 ≤ (pc : Int) + o) (hp : ((pc : Int) + o).toNat = pc') (E : Ends p e below s Q K N (T.setTop (mkF m pc' Ls st))) : Ends p e below s Q K N (T.setTop (mkF m pc Ls st)) :=
  Ends.go (fun t q => XS.goto X.here hx rfl (pc0 := pc) rfl hd ho hp q) E
theorem o_icmp_eq (X : Stand p l e R s m args below meth c T locs cells slots) (hx : p.tables.exec = Jvm.exec) {x y : Int32} {o : Int} {p1 p2 : Nat} (hd : decode c.code pc = .ok (.if_icmp .eq o, 3)) (hp : pc + 3 = p1) (ho : 0 ≤ (pc : Int) + o) (hp2 : ((pc : Int) + o).toNat = p2) (E1 : x = y → Ends p e below s Q K N (T.setTop (mkF m p2 Ls st))) (E2 : ¬ x = y → Ends p e below s Q K N (T.setTop (mkF m p1 Ls st))) : Ends p e below s Q K N (T.setTop (mkF m pc Ls (.int y :: .int x :: st))) := by
  subst hp
  by_cases hc : x = y
  · exact Ends.go (fun t q => XS.icmpYes X.here hx rfl (pc0 := pc) rfl hd rfl ((teq hc).1) ho hp2 q) (E1 hc)
  · exact Ends.go (fun t q => XS.icmpNo X.here hx rfl hd rfl ((feq hc).1) q) (E2 hc)
theorem o_icmp_ne (X : Stand p l e R s m args below meth c T locs cells slots) (hx : p.tables.exec = Jvm.exec) {x y : Int32} {o : Int} {p1 p2 : Nat} (hd : decode c.code pc = .ok (.if_icmp .ne o, 3)) (hp : pc + 3 = p1) (ho : 0 ≤ (pc : Int) + o) (hp2 : ((pc : Int) + o).toNat = p2) (E1 : ¬ x = y → Ends p e below s Q K N (T.setTop (mkF m p2 Ls st))) (E2 : x = y → Ends p e below s Q K N (T.setTop (mkF m p1 Ls st))) : Ends p e below s Q K N (T.setTop (mkF m pc Ls (.int y :: .int x :: st))) := by
  subst hp
  by_cases hc : x = y
  · exact Ends.go (fun t q => XS.icmpNo X.here hx rfl hd rfl ((teq hc).2) q) (E2 hc)
  · exact Ends.go (fun t q => XS.icmpYes X.here hx rfl (pc0 := pc) rfl hd rfl ((feq hc).2) ho hp2 q) (E1 hc)
theorem o_icmp_ge (X : Stand p l e R s m args below meth c T locs cells slots) (hx : p.tables.exec = Jvm.exec) {x y : Int32} {o : Int} {p1 p2 : Nat} (hd : decode c.code pc = .ok (.if_icmp .ge o, 3)) (hp : pc + 3 = p1) (ho : 0 ≤ (pc : Int) + o) (hp2 : ((pc : Int) + o).toNat = p2) (E1 : ¬ x < y → Ends p e below s Q K N (T.setTop (mkF m p2 Ls st))) (E2 : x < y → Ends p e below s Q K N (T.setTop (mkF m p1 Ls st))) : Ends p e below s Q K N (T.setTop (mkF m pc Ls (.int y :: .int x :: st))) := by
  subst hp
  by_cases hc : x < y
  · exact Ends.go (fun t q => XS.icmpNo X.here hx rfl hd rfl ((tlt hc).2.1) q) (E2 hc)
  · exact Ends.go (fun t q => XS.icmpYes X.here hx rfl (pc0 := pc) rfl hd rfl ((flt hc).2.1) ho hp2 q) (E1 hc)
theorem o_if_eq (X : Stand p l e R s m args below meth c T locs cells slots) (hx : p.tables.exec = Jvm.exec) {x : Int32} {o : Int} {p1 p2 : Nat} (hd : decode c.code pc = .ok (.ifCond .eq o, 3)) (hp : pc + 3 = p1) (ho : 0 ≤ (pc : Int) + o) (hp2 : ((pc : Int) + o).toNat = p2) (E1 : x = 0 → Ends p e below s Q K N (T.setTop (mkF m p2 Ls st))) (E2 : ¬ x = 0 → Ends p e below s Q K N (T.setTop (mkF m p1 Ls st))) : Ends p e below s Q K N (T.setTop (mkF m pc Ls (.int x :: st))) := by
  subst hp
  by_cases hc : x = 0
  · exact Ends.go (fun t q => XS.ifYes X.here hx rfl (pc0 := pc) rfl hd rfl ((if0 _ _).trans ((teq hc).1)) ho hp2 q) (E1 hc)
  · exact Ends.go (fun t q => XS.ifNo X.here hx rfl hd rfl ((if0 _ _).trans ((feq hc).1)) q) (E2 hc)
theorem o_if_ne (X : Stand p l e R s m args below meth c T locs cells slots) (hx : p.tables.exec = Jvm.exec) {x : Int32} {o : Int} {p1 p2 : Nat} (hd : decode c.code pc = .ok (.ifCond .ne o, 3)) (hp : pc + 3 = p1) (ho : 0 ≤ (pc : Int) + o) (hp2 : ((pc : Int) + o).toNat = p2) (E1 : ¬ x = 0 → Ends p e below s Q K N (T.setTop (mkF m p2 Ls st))) (E2 : x = 0 → Ends p e below s Q K N (T.setTop (mkF m p1 Ls st))) : Ends p e below s Q K N (T.setTop (mkF m pc Ls (.int x :: st))) := by
  subst hp
  by_cases hc : x = 0
  · exact Ends.go (fun t q => XS.ifNo X.here hx rfl hd rfl ((if0 _ _).trans ((teq hc).2)) q) (E2 hc)
  · exact Ends.go (fun t q => XS.ifYes X.here hx rfl (pc0 := pc) rfl hd rfl ((if0 _ _).trans ((feq hc).2)) ho hp2 q) (E1 hc)
theorem o_lcmp_eq (X : Stand p l e R s m args below meth c T locs cells slots) (hx : p.tables.exec = Jvm.exec) {x y : Int64} {o : Int} {p1 p2 : Nat} (hd : decode c.code pc = .ok (.lcmp, 1)) (hd2 : decode c.code (pc + 1) = .ok (.ifCond .eq o, 3)) (hp : pc + 1 + 3 = p1) (ho : 0 ≤ ((pc + 1 : Nat) : Int) + o) (hp2 : (((pc + 1 : Nat) : Int) + o).toNat = p2) (E1 : x = y → Ends p e below s Q K N (T.setTop (mkF m p2 Ls st))) (E2 : ¬ x = y → Ends p e below s Q K N (T.setTop (mkF m p1 Ls st))) : Ends p e below s Q K N (T.setTop (mkF m pc Ls (.long y :: .long x :: st))) := by
  refine Ends.go (fun t q => XS.lcmp X.here hx rfl hd rfl q) ?_
  show Ends p e below s Q K N (T.setTop (mkF m (pc + 1) Ls (.int (lcmpW x y) :: st)))
  exact o_if_eq X hx hd2 hp ho hp2 (fun q => E1 ((lw_eq x y).mp q)) (fun q => E2 (fun r => q ((lw_eq x y).mpr r)))
theorem o_lcmp_ne (X : Stand p l e R s m args below meth c T locs cells slots) (hx : p.tables.exec = Jvm.exec) {x y : Int64} {o : Int} {p1 p2 : Nat} (hd : decode c.code pc = .ok (.lcmp, 1)) (hd2 : decode c.code (pc + 1) = .ok (.ifCond .ne o, 3)) (hp : pc + 1 + 3 = p1) (ho : 0 ≤ ((pc + 1 : Nat) : Int) + o) (hp2 : (((pc + 1 : Nat) : Int) + o).toNat = p2) (E1 : ¬ x = y → Ends p e below s Q K N (T.setTop (mkF m p2 Ls st))) (E2 : x = y → Ends p e below s Q K N (T.setTop (mkF m p1 Ls st))) : Ends p e below s Q K N (T.setTop (mkF m pc Ls (.long y :: .long x :: st))) := by
  refine Ends.go (fun t q => XS.lcmp X.here hx rfl hd rfl q) ?_
  show Ends p e below s Q K N (T.setTop (mkF m (pc + 1) Ls (.int (lcmpW x y) :: st)))
  exact o_if_ne X hx hd2 hp ho hp2 (fun q => E1 (fun r => q ((lw_eq x y).mpr r))) (fun q => E2 ((lw_eq x y).mp q))
theorem o_ret (X : Stand p l e R s m args below meth c T locs cells slots) (hx : p.tables.exec = Jvm.exec) {w : Value} {t : FieldType} {i : Instr} (hlk : meth.locks = false) (hret : meth.sig.returnType = some t) (hd : decode c.code pc = .ok (i, 1)) (hn : narrow t w = w)
    (hi : (i = .ireturn ∧ (t = .int ∨ t = .boolean ∨ t = .byte ∨ t = .char ∨ t = .short) ∧ ∃ z, w = .int z) ∨ (i = .lreturn ∧ t = .long ∧ ∃ z, w = .long z) ∨ (i = .dreturn ∧ t = .double ∧ ∃ z, w = .double z) ∨ (i = .freturn ∧ t = .float ∧ ∃ z, w = .float z) ∨ (i = .areturn ∧ t.isReference = true ∧ w.isRef = true))
    (hq : Q (some w) T.heap locs) (hk : cells ≤ K) (hs : slots ≤ N) : Ends p e below s Q K N (T.setTop (mkF m pc Ls (w :: st))) := by
  obtain ⟨fs, hr, hrun, hended, hW, hsame⟩ := X.leave (v := some w) (fun h => by rw [hret] at h; cases h) hlk
  exact ⟨_, _, retOut X hx hret hn hi hd hr, hrun, hended, _, _, rfl, hq, ⟨_, rfl⟩, hW, hsame.mono hk hs⟩
theorem o_retI (X : Stand p l e R s m args below meth c T locs cells slots) (hx : p.tables.exec = Jvm.exec) {z : Int32} (hlk : meth.locks = false) (hret : meth.sig.returnType = some .int) (hd : decode c.code pc = .ok (.ireturn, 1)) (hq : Q (some (.int z)) T.heap locs) (hk : cells ≤ K) (hs : slots ≤ N) : Ends p e below s Q K N (T.setTop (mkF m pc Ls (.int z :: st))) :=
  o_ret X hx hlk hret hd rfl (Or.inl ⟨rfl, Or.inl rfl, _, rfl⟩) hq hk hs
theorem o_retZ (X : Stand p l e R s m args below meth c T locs cells slots) (hx : p.tables.exec = Jvm.exec) {z : Int32} (hlk : meth.locks = false) (hret : meth.sig.returnType = some .boolean) (hd : decode c.code pc = .ok (.ireturn, 1)) (hz : z &&& 1 = z) (hq : Q (some (.int z)) T.heap locs) (hk : cells ≤ K) (hs : slots ≤ N) : Ends p e below s Q K N (T.setTop (mkF m pc Ls (.int z :: st))) :=
  o_ret X hx hlk hret hd (by show Value.int (z &&& 1) = _; rw [hz]) (Or.inl ⟨rfl, Or.inr (Or.inl rfl), _, rfl⟩) hq hk hs
theorem o_ret0 (X : Stand p l e R s m args below meth c T locs cells slots) (hx : p.tables.exec = Jvm.exec) (hlk : meth.locks = false) (hret : meth.sig.returnType = none) (hd : decode c.code pc = .ok (.return_, 1)) (hq : Q none T.heap locs) (hk : cells ≤ K) (hs : slots ≤ N) : Ends p e below s Q K N (T.setTop (mkF m pc Ls [])) := by
  obtain ⟨fs, hr, hrun, hended, hW, hsame⟩ := X.leave (v := none) (fun _ => rfl) hlk
  exact ⟨_, _, X.returnOut hx hret hd hr, hrun, hended, _, _, rfl, hq, ⟨_, rfl⟩, hW, hsame.mono hk hs⟩
theorem o_callS (X : Stand p l e R s m args below meth c T locs cells slots) (hx : p.tables.exec = Jvm.exec) (hZ : Z.Warmed39 s.vm) {own : String} {index : Nat} {y : MethodName} {bytes : ByteArray} {maxL : Nat} {rt : Option FieldType} {rm : Room} {argsL rest : List Value} {Q' : Option Value → Heap → List Loc → Prop} {ps : List FieldType} {pr : Option FieldType} (hown : s.vm.findClass own = some m.cls) (w1 : (Jvm.Cond.methodLink own index y).before a0 Z = true) (w2 : (Jvm.Cond.static y).before a0 Z = true) (w3 : (Jvm.Cond.initialized y.cls).before a0 Z = true) (w4 : (Jvm.Cond.code y bytes maxL rt).before a0 Z = true)
    (hy : y.cls ≠ "java/lang/invoke/MethodHandle" ∧ y.cls ≠ "java/lang/invoke/VarHandle") (eT : T.heap = h) (hM : Con l Z y bytes maxL rt rm argsL.toArray h Q') (hsz : Ls.size = c.maxLocals) (hpd : parseMethodDescriptor y.desc = some ⟨ps, pr⟩) (hlen : argsL.length = ps.length) (hst : st = argsL.reverse ++ rest) (hd : decode c.code pc = .ok (.invokestatic index, 3)) (hp : pc + 3 = pc')
    {W : Nat} (hf : rm.frames + 1 ≤ R.frames) (hW : (rest.map fun v => v.category).sum = W) (hl : W + (maxL + 11) + rm.locals ≤ R.locals) (hc : cells + rm.cells ≤ R.cells) (hs : slots + rm.slots ≤ R.slots)
    (E : ∀ (v : Option Value) (T' : State) (L : List Loc), Q' v T'.heap L → Stand p l e R s m args below meth c T' (locs ++ L) (cells + rm.cells) (slots + rm.slots) → Ends p e below s Q K N (T'.setTop (mkF m pc' Ls (v.toList ++ rest)))) : Ends p e below s Q K N (T.setTop (mkF m pc Ls st)) := by
  subst hp hst
  obtain ⟨v, _, ⟨T2, L2, k2, n2⟩, -, X2, ⟨Lc2, hQ2, l2, y2, z2⟩, st2⟩ := Jvm.LawKit.callS X hx (y := y) hown (mvT hZ w1) (mvT hZ w2) (mvT hZ w3) (mvT hZ w4) hy (backOf (W := W) (hM []) hZ w4 w3 hf hl) (g := mkF m pc Ls (argsL.reverse ++ rest)) rfl hsz (argsL := argsL) (rest := rest) (lenOf hpd hlen) rfl (by show 2 * 0 + _ ≤ _; omega) hd (fun _ _ => ⟨rfl, eT, hc, hs⟩)
  dsimp only [Pt.U, Pt.locs, Pt.cells, Pt.slots] at X2 l2 y2 z2 st2 hQ2
  subst l2 y2 z2
  exact Ends.go st2 (E v T2 Lc2 hQ2 X2)
theorem o_callC (X : Stand p l e R s m args below meth c T locs cells slots) (hx : p.tables.exec = Jvm.exec) (hZ : Z.Warmed39 s.vm) {own : String} {index : Nat} {y : MethodName} {bytes : ByteArray} {maxL : Nat} {rm : Room} {a : Addr} {argsL rest : List Value} {Q' : Option Value → Heap → List Loc → Prop} {ps : List FieldType} {pr : Option FieldType} (hy1 : y.name = "<init>") (hown : s.vm.findClass own = some m.cls) (w1 : (Jvm.Cond.methodLink own index y).before a0 Z = true) (w2 : (Jvm.Cond.instanceMethod y).before a0 Z = true) (w3 : (Jvm.Cond.initialized y.cls).before a0 Z = true) (w4 : (Jvm.Cond.code y bytes maxL none).before a0 Z = true)
    (hy : y.cls ≠ "java/lang/invoke/MethodHandle" ∧ y.cls ≠ "java/lang/invoke/VarHandle") (eT : T.heap = h) (hM : Con l Z y bytes maxL none rm (.ref a :: argsL).toArray h Q') (hsz : Ls.size = c.maxLocals) (hpd : parseMethodDescriptor y.desc = some ⟨ps, pr⟩) (hlen : argsL.length = ps.length) (hst : st = argsL.reverse ++ .ref a :: rest) (hd : decode c.code pc = .ok (.invokespecial index, 3)) (hp : pc + 3 = pc')
    {W : Nat} (hf : rm.frames + 1 ≤ R.frames) (hW : (rest.map fun v => v.category).sum = W) (hl : W + (maxL + 11) + rm.locals ≤ R.locals) (hc : cells + rm.cells ≤ R.cells) (hs : slots + rm.slots ≤ R.slots)
    (E : ∀ (v : Option Value) (T' : State) (L : List Loc), Q' v T'.heap L → Stand p l e R s m args below meth c T' (locs ++ L) (cells + rm.cells) (slots + rm.slots) → Ends p e below s Q K N (T'.setTop (mkF m pc' Ls (v.toList ++ rest)))) : Ends p e below s Q K N (T.setTop (mkF m pc Ls st)) := by
  subst hp hst
  obtain ⟨v, _, ⟨T2, L2, k2, n2⟩, -, X2, ⟨Lc2, hQ2, l2, y2, z2⟩, st2⟩ := X.specialBack hx (y := y) hy1 hown (mvT hZ w1) (mvT hZ w2) (mvT hZ w4) hy (backOf (W := W) (hM []) hZ w4 w3 hf hl) (g := mkF m pc Ls (argsL.reverse ++ .ref a :: rest)) rfl hsz (Steps.refl _) (a := a) (argsL := argsL) (rest := rest) (lenOf hpd hlen) rfl (by show 2 * 0 + _ ≤ _; omega) hd (fun _ _ => ⟨rfl, eT, hc, hs⟩)
  dsimp only [Pt.U, Pt.locs, Pt.cells, Pt.slots] at X2 l2 y2 z2 st2 hQ2
  subst l2 y2 z2
  exact Ends.go (fun t q => st2.trans q) (E v T2 Lc2 hQ2 X2)
theorem o_callV (X : Stand p l e R s m args below meth c T locs cells slots) (hx : p.tables.exec = Jvm.exec) (hZ : Z.Warmed39 s.vm) {own C : String} {index : Nat} {y : MethodName} {bytes : ByteArray} {maxL : Nat} {rt : Option FieldType} {rm : Room} {b : Addr} {argsL rest : List Value} {Q' : Option Value → Heap → List Loc → Prop} {ps : List FieldType} {pr : Option FieldType} (hown : s.vm.findClass own = some m.cls) (w1 : (Jvm.Cond.methodLink own index y).before a0 Z = true) (w2 : (Jvm.Cond.declares y).before a0 Z = true) (w5 : (Jvm.Cond.selects C y y).before a0 Z = true) (w6 : (Jvm.Cond.instanceMethod y).before a0 Z = true) (w3 : (Jvm.Cond.initialized y.cls).before a0 Z = true) (w4 : (Jvm.Cond.code y bytes maxL rt).before a0 Z = true)
    (hy : y.cls ≠ "java/lang/invoke/MethodHandle" ∧ y.cls ≠ "java/lang/invoke/VarHandle") (eT : T.heap = h) (X1 : Exa Z h b C) (hM : Con l Z y bytes maxL rt rm (.ref b :: argsL).toArray h Q') (hsz : Ls.size = c.maxLocals) (hpd : parseMethodDescriptor y.desc = some ⟨ps, pr⟩) (hlen : argsL.length = ps.length) (hst : st = argsL.reverse ++ .ref b :: rest) (hd : decode c.code pc = .ok (.invokevirtual index, 3)) (hp : pc + 3 = pc')
    {W : Nat} (hf : rm.frames + 1 ≤ R.frames) (hW : (rest.map fun v => v.category).sum = W) (hl : W + (maxL + 11) + rm.locals ≤ R.locals) (hc : cells + rm.cells ≤ R.cells) (hs : slots + rm.slots ≤ R.slots)
    (E : ∀ (v : Option Value) (T' : State) (L : List Loc), Q' v T'.heap L → Stand p l e R s m args below meth c T' (locs ++ L) (cells + rm.cells) (slots + rm.slots) → Ends p e below s Q K N (T'.setTop (mkF m pc' Ls (v.toList ++ rest)))) : Ends p e below s Q K N (T.setTop (mkF m pc Ls st)) := by
  subst hp hst
  obtain ⟨cq, kq, qa, qb, qc⟩ := isOf (T := T) hZ eT X1
  obtain ⟨v, _, ⟨T2, L2, k2, n2⟩, -, X2, ⟨Lc2, hQ2, l2, y2, z2⟩, st2⟩ := X.virtualBack hx (y := y) (z := y) hown (mvT hZ w1) (mvT hZ w2) (notFace_of_selects (args := #[]) (mvT hZ w5)) (mvT hZ w5) (mvT hZ w6) hy (backOf (W := W) (hM []) hZ w4 w3 hf hl) qa qc (g := mkF m pc Ls (argsL.reverse ++ .ref b :: rest)) rfl hsz (Steps.refl _) (argsL := argsL) (rest := rest) (lenOf hpd hlen) rfl (by show 2 * 0 + _ ≤ _; omega) hd (fun _ _ => ⟨rfl, eT, hc, hs⟩)
  dsimp only [Pt.U, Pt.locs, Pt.cells, Pt.slots] at X2 l2 y2 z2 st2 hQ2
  subst l2 y2 z2
  exact Ends.go (fun t q => st2.trans q) (E v T2 Lc2 hQ2 X2)
theorem o_getF (X : Stand p l e R s m args below meth c T locs cells slots) (hx : p.tables.exec = Jvm.exec) (hZ : Z.Warmed39 s.vm) {own R0 O n d : String} {index : Nat} {a : Addr} {v : Value} (hown : s.vm.findClass own = some m.cls) (w : (Jvm.Cond.fieldLink own index R0 n d).before a0 Z = true) (via : Via Z R0 O n d) (eT : T.heap = h) (F : Fld Z h a O n d v) (hd : decode c.code pc = .ok (.getfield index, 3)) (hp : pc + 3 = pc')
    (E : ∀ T', T'.heap = h → Stand p l e R s m args below meth c T' locs cells slots → Ends p e below s Q K N (T'.setTop (mkF m pc' Ls (v :: st)))) : Ends p e below s Q K N (T.setTop (mkF m pc Ls (.ref a :: st))) := by
  subst hp
  obtain ⟨T1, X1, e1, s1⟩ := getF X hx hZ hown (host := "") (Or.inl w) via eT F (g := mkF m pc Ls (.ref a :: st)) rfl rfl hd
  exact Ends.go s1 (E T1 e1 X1)
theorem o_putF (X : Stand p l e R s m args below meth c T locs cells slots) (hx : p.tables.exec = Jvm.exec) (hZ : Z.Warmed39 s.vm) {own R0 O n d C : String} {index kk : Nat} {ty : FieldType} {a : Addr} {v old : Value} (hown : s.vm.findClass own = some m.cls) (w : (Jvm.Cond.fieldLink own index R0 n d).before a0 Z = true) (via : Via Z R0 O n d) (eT : T.heap = h) (F : Fld Z h a O n d old) (X1 : Exa Z h a C) (L : (Jvm.Cond.lays C O n d).before a0 Z = true ∨ ((Jvm.Cond.laysFinal C O n d).before a0 Z = true ∧ own = O ∧ meth.name = "<init>")) (wi : (Jvm.Cond.instantiable C kk).before a0 Z = true)
    (hty : parseFieldDescriptor d = some ty) (hn : narrow ty v = v) (hf : fits ty v = true) (hd : decode c.code pc = .ok (.putfield index, 3)) (hp : pc + 3 = pc')
    (E : ∀ T' h', T'.heap = h' → Wr h h' a (Jvm.RoadKit.slotOf Z O n d) v → Stand p l e R s m args below meth c T' (locs ++ [⟨a, Jvm.RoadKit.slotOf Z O n d⟩]) cells slots → Ends p e below s Q K N (T'.setTop (mkF m pc' Ls st))) : Ends p e below s Q K N (T.setTop (mkF m pc Ls (v :: .ref a :: st))) := by
  subst hp
  obtain ⟨T1, h1, X1, e1, W1, s1⟩ := putF X hx hZ hown (host := "") (Or.inl w) via eT F X1 L wi hty hn hf (g := mkF m pc Ls (v :: .ref a :: st)) rfl rfl hd
  exact Ends.go s1 (E T1 h1 e1 W1 X1)
theorem o_new (X : Stand p l e R s m args below meth c T locs cells slots) (hx : p.tables.exec = Jvm.exec) (hZ : Z.Warmed39 s.vm) {own C : String} {index n : Nat} (hown : s.vm.findClass own = some m.cls) (w : (Jvm.Cond.classLink own index C).before a0 Z = true) (wi : (Jvm.Cond.instantiable C n).before a0 Z = true) (wz : (Jvm.Cond.initialized C).before a0 Z = true) (eT : T.heap = h) (hd : decode c.code pc = .ok (.new index, 3)) (hp : pc + 3 = pc') (hc : cells + 1 ≤ R.cells) (hl : slots + n ≤ R.slots)
    (E : ∀ T' h' a, a = h.size → T'.heap = h' → Ext h h' → Exa Z h' a C → (∀ {O nm d : String} {ty : FieldType}, Laid Z a0 C O nm d → parseFieldDescriptor d = some ty → Fld Z h' a O nm d (defaultValue ty)) → Stand p l e R s m args below meth c T' locs (cells + 1) (slots + n) → Ends p e below s Q K N (T'.setTop (mkF m pc' Ls (.ref a :: st)))) : Ends p e below s Q K N (T.setTop (mkF m pc Ls st)) := by
  subst hp
  obtain ⟨T1, h1, X1, e1, E1, A1, D1, -, s1⟩ := newO X hx hZ hown w wi wz eT (g := mkF m pc Ls st) rfl hd hc hl
  exact Ends.go s1 (E T1 h1 _ rfl e1 E1 A1 D1 X1)
theorem o_initO (X : Stand p l e R s m args below meth c T locs cells slots) (hx : p.tables.exec = Jvm.exec) (hZ : Z.Warmed39 s.vm) {own : String} {idx : Nat} {a : Addr} (hown : s.vm.findClass own = some m.cls) (w1 : (Jvm.Cond.methodLink own idx Lib.objectInit).before a0 Z = true) (w2 : (Jvm.Cond.instanceMethod Lib.objectInit).before a0 Z = true) (w3 : (Jvm.Cond.code Lib.objectInit object_method_1_code 1 none).before a0 Z = true) (eT : T.heap = h) (hsz : Ls.size = c.maxLocals) (hd : decode c.code pc = .ok (.invokespecial idx, 3)) (hp : pc + 3 = pc') {W : Nat} (hf : 1 ≤ R.frames) (hW : (st.map fun v => v.category).sum = W) (hl : W + 12 ≤ R.locals)
    (E : ∀ T', T'.heap = h → Stand p l e R s m args below meth c T' locs cells slots → Ends p e below s Q K N (T'.setTop (mkF m pc' Ls st))) : Ends p e below s Q K N (T.setTop (mkF m pc Ls (.ref a :: st))) := by
  subst hp
  obtain ⟨T1, X1, e1, s1⟩ := initO X hx hZ hown w1 w2 w3 eT (g := mkF m pc Ls (.ref a :: st)) rfl hsz rfl hd hf (W := W) (by show 2 * 0 + _ ≤ _; omega) hl
  exact Ends.go s1 (E T1 e1 X1)
theorem o_newarr (X : Stand p l e R s m args below meth c T locs cells slots) (hx : p.tables.exec = Jvm.exec) (hZ : Z.Warmed39 s.vm) {aty : ArrayType} {n : Int32} {cap : Nat} (w : (Jvm.Cond.arrayClass (newarray.typeOf aty)).before a0 Z = true) (eT : T.heap = h) (hd : decode c.code pc = .ok (.newarray aty, 2)) (hp : pc + 2 = pc') (hn : ¬ n < 0) (hcap : n.toNatClampNeg ≤ cap) (hb : cap * 8 ≤ 536870912) (hc : cells + 1 ≤ R.cells) (hl : slots + cap ≤ R.slots)
    (E : ∀ T' h' cA a, a = h.size → T'.heap = h' → Ext h h' → Arr Z h' a (newA cA (newarray.typeOf aty) n) (newarray.typeOf aty) → Stand p l e R s m args below meth c T' locs (cells + 1) (slots + cap) → Ends p e below s Q K N (T'.setTop (mkF m pc' Ls (.ref a :: st)))) : Ends p e below s Q K N (T.setTop (mkF m pc Ls (.int n :: st))) := by
  subst hp
  obtain ⟨T1, h1, cA, X1, e1, E1, A1, s1⟩ := newP X hx hZ w eT (g := mkF m pc Ls (.int n :: st)) rfl hd rfl hn hcap hb hc hl
  exact Ends.go s1 (E T1 h1 cA _ rfl e1 E1 A1 X1)
theorem o_len (X : Stand p l e R s m args below meth c T locs cells slots) (hx : p.tables.exec = Jvm.exec) (hZ : Z.Warmed39 s.vm) {a : Addr} {cl : Cell} {ty : FieldType} {n : Int32} (eT : T.heap = h) (A : Arr Z h a cl ty) (hn : cl.slots.size.toInt32 = n) (hd : decode c.code pc = .ok (.arraylength, 1)) (hp : pc + 1 = pc') (E : Ends p e below s Q K N (T.setTop (mkF m pc' Ls (.int n :: st)))) : Ends p e below s Q K N (T.setTop (mkF m pc Ls (.ref a :: st))) := by
  subst hp hn
  exact Ends.go (fun t q => X.arraylength hx (by rw [eT]; exact A.1) (State.isArrayOf_alike hZ.alike A.2.1) (g := mkF m pc Ls (.ref a :: st)) rfl rfl hd _ q) E
theorem o_iaload (X : Stand p l e R s m args below meth c T locs cells slots) (hx : p.tables.exec = Jvm.exec) (hZ : Z.Warmed39 s.vm) {a : Addr} {cl : Cell} {j : Int32} {v : Value} (eT : T.heap = h) (A : Arr Z h a cl .int) (hj : ¬ (j < 0 ∨ cl.slots.size ≤ j.toNatClampNeg)) (hv : cl.slots[j.toNatClampNeg]? = some v) (hd : decode c.code pc = .ok (.iaload, 1)) (hp : pc + 1 = pc') (E : Ends p e below s Q K N (T.setTop (mkF m pc' Ls (v :: st)))) : Ends p e below s Q K N (T.setTop (mkF m pc Ls (.int j :: .ref a :: st))) := by
  subst hp
  exact Ends.go (fun t q => X.iaload hx (by rw [eT]; exact A.1) (State.isArrayOf_alike hZ.alike A.2.1) A.2.2 hj hv (g := mkF m pc Ls (.int j :: .ref a :: st)) rfl rfl hd _ q) E
theorem o_laload (X : Stand p l e R s m args below meth c T locs cells slots) (hx : p.tables.exec = Jvm.exec) (hZ : Z.Warmed39 s.vm) {a : Addr} {cl : Cell} {j : Int32} {v : Value} (eT : T.heap = h) (A : Arr Z h a cl .long) (hj : ¬ (j < 0 ∨ cl.slots.size ≤ j.toNatClampNeg)) (hv : cl.slots[j.toNatClampNeg]? = some v) (hd : decode c.code pc = .ok (.laload, 1)) (hp : pc + 1 = pc') (E : Ends p e below s Q K N (T.setTop (mkF m pc' Ls (v :: st)))) : Ends p e below s Q K N (T.setTop (mkF m pc Ls (.int j :: .ref a :: st))) := by
  subst hp
  exact Ends.go (fun t q => X.laload hx (by rw [eT]; exact A.1) (State.isArrayOf_alike hZ.alike A.2.1) A.2.2 hj hv (g := mkF m pc Ls (.int j :: .ref a :: st)) rfl rfl hd _ q) E
theorem o_iastore (X : Stand p l e R s m args below meth c T locs cells slots) (hx : p.tables.exec = Jvm.exec) (hZ : Z.Warmed39 s.vm) {a : Addr} {cl : Cell} {j : Int32} {v : Int32} (eT : T.heap = h) (A : Arr Z h a cl .int) (hj : ¬ (j < 0 ∨ cl.slots.size ≤ j.toNatClampNeg)) (hd : decode c.code pc = .ok (.iastore, 1)) (hp : pc + 1 = pc') (E : ∀ T' h', T'.heap = h' → Wr h h' a j.toNatClampNeg (.int v) → Stand p l e R s m args below meth c T' (locs ++ [⟨a, j.toNatClampNeg⟩]) cells slots → Ends p e below s Q K N (T'.setTop (mkF m pc' Ls st))) : Ends p e below s Q K N (T.setTop (mkF m pc Ls (.int v :: .int j :: .ref a :: st))) := by
  subst hp
  obtain ⟨T1, h1, X1, e1, W1, s1⟩ := stI X hx hZ eT A hj (g := mkF m pc Ls (.int v :: .int j :: .ref a :: st)) rfl rfl hd
  exact Ends.go s1 (E T1 h1 e1 W1 X1)
theorem o_lastore (X : Stand p l e R s m args below meth c T locs cells slots) (hx : p.tables.exec = Jvm.exec) (hZ : Z.Warmed39 s.vm) {a : Addr} {cl : Cell} {j : Int32} {v : Int64} (eT : T.heap = h) (A : Arr Z h a cl .long) (hj : ¬ (j < 0 ∨ cl.slots.size ≤ j.toNatClampNeg)) (hd : decode c.code pc = .ok (.lastore, 1)) (hp : pc + 1 = pc') (E : ∀ T' h', T'.heap = h' → Wr h h' a j.toNatClampNeg (.long v) → Stand p l e R s m args below meth c T' (locs ++ [⟨a, j.toNatClampNeg⟩]) cells slots → Ends p e below s Q K N (T'.setTop (mkF m pc' Ls st))) : Ends p e below s Q K N (T.setTop (mkF m pc Ls (.long v :: .int j :: .ref a :: st))) := by
  subst hp
  obtain ⟨T1, h1, X1, e1, W1, s1⟩ := stJ X hx hZ eT A hj (g := mkF m pc Ls (.long v :: .int j :: .ref a :: st)) rfl rfl hd
  exact Ends.go s1 (E T1 h1 e1 W1 X1)
def Cont (cl : Cell) (n : Nat) (g : Nat → Value) : Prop := cl.slots.size = n ∧ ∀ k, k < n → cl.slots[k]? = some (g k)
theorem Cont.new (cA : ClassId) (ty : FieldType) (z : Int32) (n : Nat) (hn : z.toNatClampNeg = n) : Cont (newA cA ty z) n (fun _ => defaultValue ty) := by
  subst hn; exact ⟨sz_new _ _ _, fun k hk => by simp [newA, hk]⟩
theorem Cont.put {cl : Cell} {n : Nat} {g : Nat → Value} (C : Cont cl n g) (j : Nat) (v : Value) : Cont (cl.setSlot j v) n (fun k => if k = j then v else g k) := by
  refine ⟨(sz_set _ _ _).trans C.1, fun k hk => ?_⟩
  by_cases q : k = j
  · subst q; simp [Cell.setSlot, C.1, hk]
  · show (cl.slots.setIfInBounds j v)[k]? = _
    rw [Array.getElem?_setIfInBounds_ne (fun r => q r.symm)]
    simp only [if_neg q]; exact C.2 k hk
theorem Cont.congr {cl : Cell} {n : Nat} {g g' : Nat → Value} (C : Cont cl n g) (q : ∀ k, k < n → g k = g' k) : Cont cl n g' := ⟨C.1, fun k hk => (C.2 k hk).trans (congrArg some (q k hk))⟩
theorem Cont.inb {cl : Cell} {n : Nat} {g : Nat → Value} (C : Cont cl n g) {j : Int32} (h0 : 0 ≤ j.toInt) (h1 : j.toInt < n) : ¬ (j < 0 ∨ cl.slots.size ≤ j.toNatClampNeg) := by
  rw [C.1]; simp only [Int32.lt_iff_toInt_lt, Int32.toNatClampNeg, Int32.reduceToInt]; omega
theorem Cont.at {cl : Cell} {n : Nat} {g : Nat → Value} (C : Cont cl n g) {j : Int32} (h0 : 0 ≤ j.toInt) (h1 : j.toInt < n) : cl.slots[j.toNatClampNeg]? = some (g j.toNatClampNeg) := C.2 _ (by simp only [Int32.toNatClampNeg]; omega)
theorem own_arrK {h' : Heap} {ws : List Addr} {a : Addr} {cl : Cell} {ty : FieldType} (F : Arr Z h a cl ty) (Kp : Keep h h' ws) (q : a ∉ ws) : Arr Z h' a cl ty := ⟨Kp.2.1 _ _ F.1 q, F.2⟩
end Own
end Jvm.Pilot.@@N@@
namespace Jvm.Pilot.@@N@@
open Jvm Jvm.ClassFile Sem Op Lib Jvm.Free Jvm.Stand Jvm.LawKit Jvm.RoadKit Bundle Jvm.Pilot.@@N@@.Jvm.D
theorem pn_0 : plainName "com/example/ubver/ubver/verifier/StateMergePinLaw" = true := by first | (simp [plainName, overriddenIn]; done) | decide +kernel
theorem pd_0 : parseMethodDescriptor "(JJJJII)Z" = some ⟨[.long, .long, .long, .long, .int, .int], some .boolean⟩ := by decide +kernel
theorem d1_0 : decode prog_107_method_1_code 0 = .ok (.aload_n 0, 1) := by decide +kernel
theorem d1_1 : decode prog_107_method_1_code 1 = .ok (.invokespecial 3, 3) := by decide +kernel
theorem d1_4 : decode prog_107_method_1_code 4 = .ok (.aload_n 0, 1) := by decide +kernel
theorem d1_5 : decode prog_107_method_1_code 5 = .ok (.iconst (-1), 1) := by decide +kernel
theorem d1_6 : decode prog_107_method_1_code 6 = .ok (.putfield 9, 3) := by decide +kernel
theorem d1_9 : decode prog_107_method_1_code 9 = .ok (.aload_n 0, 1) := by decide +kernel
theorem d1_10 : decode prog_107_method_1_code 10 = .ok (.ldc2_w 15, 3) := by decide +kernel
theorem d1_13 : decode prog_107_method_1_code 13 = .ok (.putfield 17, 3) := by decide +kernel
theorem d1_16 : decode prog_107_method_1_code 16 = .ok (.aload_n 0, 1) := by decide +kernel
theorem d1_17 : decode prog_107_method_1_code 17 = .ok (.iload_n 1, 1) := by decide +kernel
theorem d1_18 : decode prog_107_method_1_code 18 = .ok (.bipush 63, 2) := by decide +kernel
theorem d1_20 : decode prog_107_method_1_code 20 = .ok (.iadd, 1) := by decide +kernel
theorem d1_21 : decode prog_107_method_1_code 21 = .ok (.bipush 64, 2) := by decide +kernel
theorem d1_23 : decode prog_107_method_1_code 23 = .ok (.idiv, 1) := by decide +kernel
theorem d1_24 : decode prog_107_method_1_code 24 = .ok (.newarray .long, 2) := by decide +kernel
theorem d1_26 : decode prog_107_method_1_code 26 = .ok (.putfield 21, 3) := by decide +kernel
theorem d1_29 : decode prog_107_method_1_code 29 = .ok (.aload_n 0, 1) := by decide +kernel
theorem d1_30 : decode prog_107_method_1_code 30 = .ok (.iload_n 2, 1) := by decide +kernel
theorem d1_31 : decode prog_107_method_1_code 31 = .ok (.newarray .int, 2) := by decide +kernel
theorem d1_33 : decode prog_107_method_1_code 33 = .ok (.putfield 25, 3) := by decide +kernel
theorem d1_36 : decode prog_107_method_1_code 36 = .ok (.aload_n 0, 1) := by decide +kernel
theorem d1_37 : decode prog_107_method_1_code 37 = .ok (.getfield 25, 3) := by decide +kernel
theorem d1_40 : decode prog_107_method_1_code 40 = .ok (.iconst (-1), 1) := by decide +kernel
theorem d1_41 : decode prog_107_method_1_code 41 = .ok (.invokestatic 29, 3) := by decide +kernel
theorem d1_44 : decode prog_107_method_1_code 44 = .ok (.return_, 1) := by decide +kernel
theorem pn_1 : plainName "com/example/ubver/ubver/verifier/StackAndLocals$State" = true := by first | (simp [plainName, overriddenIn]; done) | decide +kernel
theorem pd_1 : parseMethodDescriptor "(II)V" = some ⟨[.int, .int], none⟩ := by decide +kernel
theorem d3_0 : decode jdk_65_method_103_code 0 = .ok (.iconst 0, 1) := by decide +kernel
theorem d3_1 : decode jdk_65_method_103_code 1 = .ok (.istore_n 2, 1) := by decide +kernel
theorem d3_2 : decode jdk_65_method_103_code 2 = .ok (.aload_n 0, 1) := by decide +kernel
theorem d3_3 : decode jdk_65_method_103_code 3 = .ok (.arraylength, 1) := by decide +kernel
theorem d3_4 : decode jdk_65_method_103_code 4 = .ok (.istore_n 3, 1) := by decide +kernel
theorem d3_5 : decode jdk_65_method_103_code 5 = .ok (.iload_n 2, 1) := by decide +kernel
theorem d3_6 : decode jdk_65_method_103_code 6 = .ok (.iload_n 3, 1) := by decide +kernel
theorem d3_7 : decode jdk_65_method_103_code 7 = .ok (.if_icmp .ge 13, 3) := by decide +kernel
theorem d3_10 : decode jdk_65_method_103_code 10 = .ok (.aload_n 0, 1) := by decide +kernel
theorem d3_11 : decode jdk_65_method_103_code 11 = .ok (.iload_n 2, 1) := by decide +kernel
theorem d3_12 : decode jdk_65_method_103_code 12 = .ok (.iload_n 1, 1) := by decide +kernel
theorem d3_13 : decode jdk_65_method_103_code 13 = .ok (.iastore, 1) := by decide +kernel
theorem d3_14 : decode jdk_65_method_103_code 14 = .ok (.iinc 2 1, 3) := by decide +kernel
theorem d3_17 : decode jdk_65_method_103_code 17 = .ok (.goto (-12), 3) := by decide +kernel
theorem d3_20 : decode jdk_65_method_103_code 20 = .ok (.return_, 1) := by decide +kernel
theorem pn_3 : plainName "java/util/Arrays" = true := by first | (simp [plainName, overriddenIn]; done) | decide +kernel
theorem pd_3 : parseMethodDescriptor "([II)V" = some ⟨[(.array .int), .int], none⟩ := by decide +kernel
theorem d4_0 : decode method_2_code 0 = .ok (.iload_n 0, 1) := by decide +kernel
theorem d4_1 : decode method_2_code 1 = .ok (.bipush 7, 2) := by decide +kernel
theorem d4_3 : decode method_2_code 3 = .ok (.iand, 1) := by decide +kernel
theorem d4_4 : decode method_2_code 4 = .ok (.iconst 1, 1) := by decide +kernel
theorem d4_5 : decode method_2_code 5 = .ok (.isub, 1) := by decide +kernel
theorem d4_6 : decode method_2_code 6 = .ok (.ireturn, 1) := by decide +kernel
theorem pn_4 : plainName "com/example/ubver/ubver/verifier/StateMergePinLaw" = true := by first | (simp [plainName, overriddenIn]; done) | decide +kernel
theorem pd_4 : parseMethodDescriptor "(I)I" = some ⟨[.int], some .int⟩ := by decide +kernel
theorem d5_0 : decode prog_107_method_12_code 0 = .ok (.iconst 0, 1) := by decide +kernel
theorem d5_1 : decode prog_107_method_12_code 1 = .ok (.istore_n 2, 1) := by decide +kernel
theorem d5_2 : decode prog_107_method_12_code 2 = .ok (.iconst 0, 1) := by decide +kernel
theorem d5_3 : decode prog_107_method_12_code 3 = .ok (.istore_n 3, 1) := by decide +kernel
theorem d5_4 : decode prog_107_method_12_code 4 = .ok (.iload_n 3, 1) := by decide +kernel
theorem d5_5 : decode prog_107_method_12_code 5 = .ok (.aload_n 0, 1) := by decide +kernel
theorem d5_6 : decode prog_107_method_12_code 6 = .ok (.getfield 21, 3) := by decide +kernel
theorem d5_9 : decode prog_107_method_12_code 9 = .ok (.arraylength, 1) := by decide +kernel
theorem d5_10 : decode prog_107_method_12_code 10 = .ok (.if_icmp .ge 52, 3) := by decide +kernel
theorem d5_13 : decode prog_107_method_12_code 13 = .ok (.aload_n 0, 1) := by decide +kernel
theorem d5_14 : decode prog_107_method_12_code 14 = .ok (.getfield 21, 3) := by decide +kernel
theorem d5_17 : decode prog_107_method_12_code 17 = .ok (.iload_n 3, 1) := by decide +kernel
theorem d5_18 : decode prog_107_method_12_code 18 = .ok (.laload, 1) := by decide +kernel
theorem d5_19 : decode prog_107_method_12_code 19 = .ok (.aload_n 1, 1) := by decide +kernel
theorem d5_20 : decode prog_107_method_12_code 20 = .ok (.getfield 21, 3) := by decide +kernel
theorem d5_23 : decode prog_107_method_12_code 23 = .ok (.iload_n 3, 1) := by decide +kernel
theorem d5_24 : decode prog_107_method_12_code 24 = .ok (.laload, 1) := by decide +kernel
theorem d5_25 : decode prog_107_method_12_code 25 = .ok (.land, 1) := by decide +kernel
theorem d5_26 : decode prog_107_method_12_code 26 = .ok (.lstore 4, 2) := by decide +kernel
theorem d5_28 : decode prog_107_method_12_code 28 = .ok (.iload_n 2, 1) := by decide +kernel
theorem d5_29 : decode prog_107_method_12_code 29 = .ok (.lload 4, 2) := by decide +kernel
theorem d5_31 : decode prog_107_method_12_code 31 = .ok (.aload_n 0, 1) := by decide +kernel
theorem d5_32 : decode prog_107_method_12_code 32 = .ok (.getfield 21, 3) := by decide +kernel
theorem d5_35 : decode prog_107_method_12_code 35 = .ok (.iload_n 3, 1) := by decide +kernel
theorem d5_36 : decode prog_107_method_12_code 36 = .ok (.laload, 1) := by decide +kernel
theorem d5_37 : decode prog_107_method_12_code 37 = .ok (.lcmp, 1) := by decide +kernel
theorem d5_38 : decode prog_107_method_12_code 38 = .ok (.ifCond .eq 7, 3) := by decide +kernel
theorem d5_41 : decode prog_107_method_12_code 41 = .ok (.iconst 1, 1) := by decide +kernel
theorem d5_42 : decode prog_107_method_12_code 42 = .ok (.goto 4, 3) := by decide +kernel
theorem d5_45 : decode prog_107_method_12_code 45 = .ok (.iconst 0, 1) := by decide +kernel
theorem d5_46 : decode prog_107_method_12_code 46 = .ok (.ior, 1) := by decide +kernel
theorem d5_47 : decode prog_107_method_12_code 47 = .ok (.istore_n 2, 1) := by decide +kernel
theorem d5_48 : decode prog_107_method_12_code 48 = .ok (.aload_n 0, 1) := by decide +kernel
theorem d5_49 : decode prog_107_method_12_code 49 = .ok (.getfield 21, 3) := by decide +kernel
theorem d5_52 : decode prog_107_method_12_code 52 = .ok (.iload_n 3, 1) := by decide +kernel
theorem d5_53 : decode prog_107_method_12_code 53 = .ok (.lload 4, 2) := by decide +kernel
theorem d5_55 : decode prog_107_method_12_code 55 = .ok (.lastore, 1) := by decide +kernel
theorem d5_56 : decode prog_107_method_12_code 56 = .ok (.iinc 3 1, 3) := by decide +kernel
theorem d5_59 : decode prog_107_method_12_code 59 = .ok (.goto (-55), 3) := by decide +kernel
theorem d5_62 : decode prog_107_method_12_code 62 = .ok (.iconst 0, 1) := by decide +kernel
theorem d5_63 : decode prog_107_method_12_code 63 = .ok (.istore_n 3, 1) := by decide +kernel
theorem d5_64 : decode prog_107_method_12_code 64 = .ok (.iload_n 3, 1) := by decide +kernel
theorem d5_65 : decode prog_107_method_12_code 65 = .ok (.aload_n 0, 1) := by decide +kernel
theorem d5_66 : decode prog_107_method_12_code 66 = .ok (.getfield 25, 3) := by decide +kernel
theorem d5_69 : decode prog_107_method_12_code 69 = .ok (.arraylength, 1) := by decide +kernel
theorem d5_70 : decode prog_107_method_12_code 70 = .ok (.if_icmp .ge 46, 3) := by decide +kernel
theorem d5_73 : decode prog_107_method_12_code 73 = .ok (.aload_n 0, 1) := by decide +kernel
theorem d5_74 : decode prog_107_method_12_code 74 = .ok (.getfield 25, 3) := by decide +kernel
theorem d5_77 : decode prog_107_method_12_code 77 = .ok (.iload_n 3, 1) := by decide +kernel
theorem d5_78 : decode prog_107_method_12_code 78 = .ok (.iaload, 1) := by decide +kernel
theorem d5_79 : decode prog_107_method_12_code 79 = .ok (.aload_n 1, 1) := by decide +kernel
theorem d5_80 : decode prog_107_method_12_code 80 = .ok (.getfield 25, 3) := by decide +kernel
theorem d5_83 : decode prog_107_method_12_code 83 = .ok (.iload_n 3, 1) := by decide +kernel
theorem d5_84 : decode prog_107_method_12_code 84 = .ok (.iaload, 1) := by decide +kernel
theorem d5_85 : decode prog_107_method_12_code 85 = .ok (.if_icmp .eq 25, 3) := by decide +kernel
theorem d5_88 : decode prog_107_method_12_code 88 = .ok (.aload_n 0, 1) := by decide +kernel
theorem d5_89 : decode prog_107_method_12_code 89 = .ok (.getfield 25, 3) := by decide +kernel
theorem d5_92 : decode prog_107_method_12_code 92 = .ok (.iload_n 3, 1) := by decide +kernel
theorem d5_93 : decode prog_107_method_12_code 93 = .ok (.iaload, 1) := by decide +kernel
theorem d5_94 : decode prog_107_method_12_code 94 = .ok (.iconst (-1), 1) := by decide +kernel
theorem d5_95 : decode prog_107_method_12_code 95 = .ok (.if_icmp .ne 6, 3) := by decide +kernel
theorem d5_98 : decode prog_107_method_12_code 98 = .ok (.goto 12, 3) := by decide +kernel
theorem d5_101 : decode prog_107_method_12_code 101 = .ok (.aload_n 0, 1) := by decide +kernel
theorem d5_102 : decode prog_107_method_12_code 102 = .ok (.getfield 25, 3) := by decide +kernel
theorem d5_105 : decode prog_107_method_12_code 105 = .ok (.iload_n 3, 1) := by decide +kernel
theorem d5_106 : decode prog_107_method_12_code 106 = .ok (.iconst (-1), 1) := by decide +kernel
theorem d5_107 : decode prog_107_method_12_code 107 = .ok (.iastore, 1) := by decide +kernel
theorem d5_108 : decode prog_107_method_12_code 108 = .ok (.iconst 1, 1) := by decide +kernel
theorem d5_109 : decode prog_107_method_12_code 109 = .ok (.istore_n 2, 1) := by decide +kernel
theorem d5_110 : decode prog_107_method_12_code 110 = .ok (.iinc 3 1, 3) := by decide +kernel
theorem d5_113 : decode prog_107_method_12_code 113 = .ok (.goto (-49), 3) := by decide +kernel
theorem d5_116 : decode prog_107_method_12_code 116 = .ok (.aload_n 0, 1) := by decide +kernel
theorem d5_117 : decode prog_107_method_12_code 117 = .ok (.getfield 9, 3) := by decide +kernel
theorem d5_120 : decode prog_107_method_12_code 120 = .ok (.aload_n 1, 1) := by decide +kernel
theorem d5_121 : decode prog_107_method_12_code 121 = .ok (.getfield 9, 3) := by decide +kernel
theorem d5_124 : decode prog_107_method_12_code 124 = .ok (.if_icmp .eq 18, 3) := by decide +kernel
theorem d5_127 : decode prog_107_method_12_code 127 = .ok (.aload_n 0, 1) := by decide +kernel
theorem d5_128 : decode prog_107_method_12_code 128 = .ok (.getfield 9, 3) := by decide +kernel
theorem d5_131 : decode prog_107_method_12_code 131 = .ok (.iconst (-1), 1) := by decide +kernel
theorem d5_132 : decode prog_107_method_12_code 132 = .ok (.if_icmp .eq 10, 3) := by decide +kernel
theorem d5_135 : decode prog_107_method_12_code 135 = .ok (.aload_n 0, 1) := by decide +kernel
theorem d5_136 : decode prog_107_method_12_code 136 = .ok (.iconst (-1), 1) := by decide +kernel
theorem d5_137 : decode prog_107_method_12_code 137 = .ok (.putfield 9, 3) := by decide +kernel
theorem d5_140 : decode prog_107_method_12_code 140 = .ok (.iconst 1, 1) := by decide +kernel
theorem d5_141 : decode prog_107_method_12_code 141 = .ok (.istore_n 2, 1) := by decide +kernel
theorem d5_142 : decode prog_107_method_12_code 142 = .ok (.iload_n 2, 1) := by decide +kernel
theorem d5_143 : decode prog_107_method_12_code 143 = .ok (.ifCond .eq 10, 3) := by decide +kernel
theorem d5_146 : decode prog_107_method_12_code 146 = .ok (.aload_n 0, 1) := by decide +kernel
theorem d5_147 : decode prog_107_method_12_code 147 = .ok (.ldc2_w 15, 3) := by decide +kernel
theorem d5_150 : decode prog_107_method_12_code 150 = .ok (.putfield 17, 3) := by decide +kernel
theorem d5_153 : decode prog_107_method_12_code 153 = .ok (.iload_n 2, 1) := by decide +kernel
theorem d5_154 : decode prog_107_method_12_code 154 = .ok (.ireturn, 1) := by decide +kernel
theorem pn_5 : plainName "com/example/ubver/ubver/verifier/StackAndLocals$State" = true := by first | (simp [plainName, overriddenIn]; done) | decide +kernel
theorem pd_5 : parseMethodDescriptor "(Lcom/example/ubver/ubver/verifier/StackAndLocals$State;)Z" = some ⟨[(.object "com/example/ubver/ubver/verifier/StackAndLocals$State")], some .boolean⟩ := by decide +kernel

theorem own_mask31 (x : Int32) : 0 ≤ (x &&& 2147483647).toInt := by
  have := c_mask x 2147483647 31 (by decide) (by decide)
  omega
theorem own_rem (x k : Int32) (n : Int) (hn : 0 < n) (hk : k.toInt = n) (hx : 0 ≤ x.toInt) : 0 ≤ (x % k).toInt ∧ (x % k).toInt < n := by
  have := (c_irem x k n hk).1 hx
  rw [this]
  exact ⟨Int.emod_nonneg _ (by omega), Int.emod_lt_of_pos _ hn⟩
theorem own_is {v : Int32} {k : Int} (h : v.toInt = k) : v = Int32.ofInt k := by rw [← h, Int32.ofInt_toInt]
def two (x y : Value) : Nat → Value := fun k => if k = 0 then x else y
theorem two_of {cl : Cell} {g : Nat → Value} {x y : Value} (C : Cont cl 2 g) (h0 : g 0 = x) (h1 : g 1 = y) : Cont cl 2 (two x y) := C.congr (fun k hk => by
  have hh : k = 0 ∨ k = 1 := by omega
  rcases hh with rfl | rfl
  · exact h0
  · exact h1)
abbrev Q4 (Z : State) (p1 : Int32) (h0 : Heap) (v : Option Value) (h : Heap) (L : List Loc) : Prop := v = some (.int ((p1 &&& (7 : Int32)) - (1 : Int32))) ∧ L = [] ∧ h = h0
set_option maxRecDepth 65536 in
set_option maxHeartbeats 40000000 in
theorem rm4 (l : Launch) (Z : State) (a0 : Array Value) (hw : ∀ d ∈ tables_1, d.before a0 Z = true) (p1 : Int32) (h0 : Heap)  :
    Con l Z (⟨"com/example/ubver/ubver/verifier/StateMergePinLaw", "addr", "(I)I"⟩ : MethodName) method_2_code 1 (some .int) ({ frames := 0, cells := 0, slots := 0, locals := 0 } : Room) #[(.int p1)] h0 (Q4 Z p1 h0) := by
  refine Con.of pn_4 (fun p e s m below meth c T0 X0 hx hby hml hret hlk hown hnm hZ e0 => ?_)
  replace hown : s.vm.findClass "com/example/ubver/ubver/verifier/StateMergePinLaw" = some m.cls := hown
  have ef : entryFrame m #[(.int p1)] 1 = mkF m 0 #[.val (.int p1)] [] := by first | (simp [entryFrame, mkF, argsToLocals, Value.category]; done) | rfl
  rw [ef]
  refine o_iloadN (pc' := 1) X0 hx (hb hby d4_0) rfl rfl ?_
  refine o_bipush (v := (7 : Int32)) (pc' := 3) X0 hx (hb hby d4_1) (by decide) rfl ?_
  refine o_iand (pc' := 4) X0 hx (hb hby d4_3) rfl ?_
  refine o_iconst (v := (1 : Int32)) (pc' := 5) X0 hx (hb hby d4_4) (by decide) rfl ?_
  refine o_isub (pc' := 6) X0 hx (hb hby d4_5) rfl ?_
  exact o_retI X0 hx hlk hret (hb hby d4_6) ⟨rfl, rfl, e0⟩ (by decide) (by decide)
abbrev Q3 (Z : State) (b : Addr) (n0 : Nat) (p1 : Int32) (cc : Cell) (h0 : Heap) (v : Option Value) (h : Heap) (L : List Loc) : Prop := v = none ∧ Fr n0 L ∧ Keep h0 h [b] ∧ ∃ cc', Arr Z h b cc' .int ∧ Cont cc' 2 (two (.int p1) (.int p1))
set_option maxRecDepth 65536 in
set_option maxHeartbeats 40000000 in
theorem rm3 (l : Launch) (Z : State) (a0 : Array Value) (hw : ∀ d ∈ tables_1, d.before a0 Z = true) (b : Addr) (n0 : Nat) (p1 : Int32) (cc : Cell) (h0 : Heap) (q0 : n0 ≤ b) (A : Arr Z h0 b cc .int) (C : Cont cc 2 (two (.int (0 : Int32)) (.int (0 : Int32)))) :
    Con l Z (⟨"java/util/Arrays", "fill", "([II)V"⟩ : MethodName) jdk_65_method_103_code 4 none ({ frames := 0, cells := 0, slots := 0, locals := 0 } : Room) #[(.ref b), (.int p1)] h0 (Q3 Z b n0 p1 cc h0) := by
  refine Con.of pn_3 (fun p e s m below meth c T0 X0 hx hby hml hret hlk hown hnm hZ e0 => ?_)
  replace hown : s.vm.findClass "java/util/Arrays" = some m.cls := hown
  have ef : entryFrame m #[(.ref b), (.int p1)] 4 = mkF m 0 #[.val (.ref b), .val (.int p1), .unset, .unset] [] := by first | (simp [entryFrame, mkF, argsToLocals, Value.category]; done) | rfl
  rw [ef]
  have N := Fr.nil n0
  have K := Keep.refl h0 [b]
  refine o_iconst (v := (0 : Int32)) (pc' := 1) X0 hx (hb hby d3_0) (by decide) rfl ?_
  refine o_istoreN (Ls' := #[.val (.ref b), .val (.int p1), .val (.int (0 : Int32)), .unset]) (pc' := 2) X0 hx (hb hby d3_1) rfl rfl ?_
  refine o_aloadN (pc' := 3) X0 hx (hb hby d3_2) rfl rfl rfl ?_
  refine o_len (pc' := 4) (n := (2 : Int32)) X0 hx hZ e0 A (by rw [C.1]; decide) (hb hby d3_3) rfl ?_
  refine o_istoreN (Ls' := #[.val (.ref b), .val (.int p1), .val (.int (0 : Int32)), .val (.int (2 : Int32))]) (pc' := 5) X0 hx (hb hby d3_4) rfl rfl ?_
  refine o_iloadN (pc' := 6) X0 hx (hb hby d3_5) rfl rfl ?_
  refine o_iloadN (pc' := 7) X0 hx (hb hby d3_6) rfl rfl ?_
  refine o_icmp_ge (p1 := 10) (p2 := 20) X0 hx (hb hby d3_7) rfl (by decide) (by decide) (fun hc7 => absurd (by decide) hc7) (fun hc7 => ?_)
  refine o_aloadN (pc' := 11) X0 hx (hb hby d3_10) rfl rfl rfl ?_
  refine o_iloadN (pc' := 12) X0 hx (hb hby d3_11) rfl rfl ?_
  refine o_iloadN (pc' := 13) X0 hx (hb hby d3_12) rfl rfl ?_
  refine o_iastore (pc' := 14) X0 hx hZ e0 A (C.inb (by decide) (by decide)) (hb hby d3_13) rfl ?_
  intro T13 h13 e13 W13 X13
  replace N := Fr.snoc X13 N q0
  replace K := K.wr W13 (Or.inl (List.mem_cons_self ..))
  replace A := Arr.same W13 A
  replace C : Cont _ 2 (two (.int p1) (.int (0 : Int32))) := two_of (C.put (Int32.toNatClampNeg (0 : Int32)) (.int p1)) rfl rfl
  refine o_iinc (Ls' := #[.val (.ref b), .val (.int p1), .val (.int (1 : Int32)), .val (.int (2 : Int32))]) (v' := (1 : Int32)) (pc' := 17) X13 hx (hb hby d3_14) rfl (by decide) rfl rfl ?_
  refine o_goto (pc' := 5) X13 hx (hb hby d3_17) (by decide) (by decide) ?_
  refine o_iloadN (pc' := 6) X13 hx (hb hby d3_5) rfl rfl ?_
  refine o_iloadN (pc' := 7) X13 hx (hb hby d3_6) rfl rfl ?_
  refine o_icmp_ge (p1 := 10) (p2 := 20) X13 hx (hb hby d3_7) rfl (by decide) (by decide) (fun hc7 => absurd (by decide) hc7) (fun hc7 => ?_)
  refine o_aloadN (pc' := 11) X13 hx (hb hby d3_10) rfl rfl rfl ?_
  refine o_iloadN (pc' := 12) X13 hx (hb hby d3_11) rfl rfl ?_
  refine o_iloadN (pc' := 13) X13 hx (hb hby d3_12) rfl rfl ?_
  refine o_iastore (pc' := 14) X13 hx hZ e13 A (C.inb (by decide) (by decide)) (hb hby d3_13) rfl ?_
  intro T13 h13 e13 W13 X13
  replace N := Fr.snoc X13 N q0
  replace K := K.wr W13 (Or.inl (List.mem_cons_self ..))
  replace A := Arr.same W13 A
  replace C : Cont _ 2 (two (.int p1) (.int p1)) := two_of (C.put (Int32.toNatClampNeg (1 : Int32)) (.int p1)) rfl rfl
  refine o_iinc (Ls' := #[.val (.ref b), .val (.int p1), .val (.int (2 : Int32)), .val (.int (2 : Int32))]) (v' := (2 : Int32)) (pc' := 17) X13 hx (hb hby d3_14) rfl (by decide) rfl rfl ?_
  refine o_goto (pc' := 5) X13 hx (hb hby d3_17) (by decide) (by decide) ?_
  refine o_iloadN (pc' := 6) X13 hx (hb hby d3_5) rfl rfl ?_
  refine o_iloadN (pc' := 7) X13 hx (hb hby d3_6) rfl rfl ?_
  refine o_icmp_ge (p1 := 10) (p2 := 20) X13 hx (hb hby d3_7) rfl (by decide) (by decide) (fun hc7 => ?_) (fun hc7 => absurd hc7 (by decide))
  exact o_ret0 X13 hx hlk hret (hb hby d3_20) ⟨rfl, by first | exact N | simpa using N, by rw [e13]; exact K, _, by rw [e13]; exact A, C⟩ (by decide) (by decide)
abbrev Q1 (Z : State) (a : Addr) (n0 : Nat) (h0 : Heap) (v : Option Value) (h : Heap) (L : List Loc) : Prop := v = none ∧ Fr n0 L ∧ Keep h0 h [a] ∧ ∃ (w r : Addr) (cw cr : Cell), h0.size ≤ w ∧ h0.size ≤ r ∧ w ≠ r ∧ Fld Z h a "com/example/ubver/ubver/verifier/StackAndLocals$State" "topReturnAddress" "I" (.int (-1 : Int32)) ∧ Fld Z h a "com/example/ubver/ubver/verifier/StackAndLocals$State" "content" "J" (.long (-1 : Int64)) ∧ Fld Z h a "com/example/ubver/ubver/verifier/StackAndLocals$State" "written" "[J" (.ref w) ∧ Fld Z h a "com/example/ubver/ubver/verifier/StackAndLocals$State" "returnAddresses" "[I" (.ref r) ∧ Fld Z h a "com/example/ubver/ubver/verifier/StackAndLocals$State" "depth" "I" (.int (0 : Int32)) ∧ Arr Z h w cw .long ∧ Cont cw 2 (two (.long (0 : Int64)) (.long (0 : Int64))) ∧ Arr Z h r cr .int ∧ Cont cr 2 (two (.int (-1 : Int32)) (.int (-1 : Int32)))
set_option maxRecDepth 65536 in
set_option maxHeartbeats 40000000 in
theorem rm1 (l : Launch) (Z : State) (a0 : Array Value) (hw : ∀ d ∈ tables_1, d.before a0 Z = true) (a : Addr) (n0 : Nat) (h0 : Heap) (q0 : n0 ≤ a) (Z0 : n0 ≤ h0.size) (E : Exa Z h0 a "com/example/ubver/ubver/verifier/StackAndLocals$State") (F_topReturnAddress : Fld Z h0 a "com/example/ubver/ubver/verifier/StackAndLocals$State" "topReturnAddress" "I" (.int (0 : Int32))) (F_content : Fld Z h0 a "com/example/ubver/ubver/verifier/StackAndLocals$State" "content" "J" (.long (0 : Int64))) (F_written : Fld Z h0 a "com/example/ubver/ubver/verifier/StackAndLocals$State" "written" "[J" .null) (F_returnAddresses : Fld Z h0 a "com/example/ubver/ubver/verifier/StackAndLocals$State" "returnAddresses" "[I" .null) (F_depth : Fld Z h0 a "com/example/ubver/ubver/verifier/StackAndLocals$State" "depth" "I" (.int (0 : Int32))) :
    Con l Z (⟨"com/example/ubver/ubver/verifier/StackAndLocals$State", "<init>", "(II)V"⟩ : MethodName) prog_107_method_1_code 3 none ({ frames := 1, cells := 2, slots := 4, locals := 16 } : Room) #[(.ref a), (.int (128 : Int32)), (.int (2 : Int32))] h0 (Q1 Z a n0 h0) := by
  refine Con.of pn_1 (fun p e s m below meth c T0 X0 hx hby hml hret hlk hown hnm hZ e0 => ?_)
  replace hown : s.vm.findClass "com/example/ubver/ubver/verifier/StackAndLocals$State" = some m.cls := hown
  have ef : entryFrame m #[(.ref a), (.int (128 : Int32)), (.int (2 : Int32))] 3 = mkF m 0 #[.val (.ref a), .val (.int (128 : Int32)), .val (.int (2 : Int32))] [] := by first | (simp [entryFrame, mkF, argsToLocals, Value.category]; done) | rfl
  rw [ef]
  have N := Fr.nil n0
  have K := Keep.refl h0 [a]
  refine o_aloadN (pc' := 1) X0 hx (hb hby d1_0) rfl rfl rfl ?_
  refine o_initO (W := 0) (pc' := 4) X0 hx hZ hown (hw _ (List.mem_of_getElem? (i := 6) rfl)) (hw _ (List.mem_of_getElem? (i := 7) rfl)) (hw _ (List.mem_of_getElem? (i := 8) rfl)) e0 (by rw [hml]; rfl) (hb hby d1_1) rfl (by decide) rfl (by decide) ?_
  intro T1 e1 X1
  refine o_aloadN (pc' := 5) X1 hx (hb hby d1_4) rfl rfl rfl ?_
  refine o_iconst (v := (-1 : Int32)) (pc' := 6) X1 hx (hb hby d1_5) (by decide) rfl ?_
  refine o_putF (pc' := 9) (ty := .int) X1 hx hZ hown (hw _ (List.mem_of_getElem? (i := 9) rfl)) Via.refl e1 F_topReturnAddress E (Or.inl (hw _ (List.mem_of_getElem? (i := 10) rfl))) (hw _ (List.mem_of_getElem? (i := 1) rfl)) (by decide) rfl rfl (hb hby d1_6) rfl ?_
  intro T6 h6 e6 W6 X6
  replace N := Fr.snoc X6 N q0
  replace K := K.wr W6 (Or.inl (List.mem_cons_self ..))
  replace E := E.wr W6
  replace F_topReturnAddress := F_topReturnAddress.same W6
  replace F_content := F_content.other W6 (Or.inr (slot_ne (C := "com/example/ubver/ubver/verifier/StackAndLocals$State") (t := .long) (t' := .int) (Or.inl (hw _ (List.mem_of_getElem? (i := 13) rfl))) (Or.inl (hw _ (List.mem_of_getElem? (i := 10) rfl))) (by decide) (by decide) (by decide)))
  replace F_written := F_written.other W6 (Or.inr (slot_ne (C := "com/example/ubver/ubver/verifier/StackAndLocals$State") (t := (.array .long)) (t' := .int) (Or.inr (hw _ (List.mem_of_getElem? (i := 16) rfl))) (Or.inl (hw _ (List.mem_of_getElem? (i := 10) rfl))) (by decide) (by decide) (by decide)))
  replace F_returnAddresses := F_returnAddresses.other W6 (Or.inr (slot_ne (C := "com/example/ubver/ubver/verifier/StackAndLocals$State") (t := (.array .int)) (t' := .int) (Or.inr (hw _ (List.mem_of_getElem? (i := 19) rfl))) (Or.inl (hw _ (List.mem_of_getElem? (i := 10) rfl))) (by decide) (by decide) (by decide)))
  replace F_depth := F_depth.other W6 (Or.inr (slot_ne (C := "com/example/ubver/ubver/verifier/StackAndLocals$State") (t := .int) (t' := .int) (Or.inl (hw _ (List.mem_of_getElem? (i := 25) rfl))) (Or.inl (hw _ (List.mem_of_getElem? (i := 10) rfl))) (by decide) (by decide) (by decide)))
  refine o_aloadN (pc' := 10) X6 hx (hb hby d1_9) rfl rfl rfl ?_
  refine o_ldc2 (pc' := 13) (v := (-1 : Int64)) X6 hx (hb hby d1_10) hZ hown (hw _ (List.mem_of_getElem? (i := 11) rfl)) rfl ?_
  refine o_putF (pc' := 16) (ty := .long) X6 hx hZ hown (hw _ (List.mem_of_getElem? (i := 12) rfl)) Via.refl e6 F_content E (Or.inl (hw _ (List.mem_of_getElem? (i := 13) rfl))) (hw _ (List.mem_of_getElem? (i := 1) rfl)) (by decide) rfl rfl (hb hby d1_13) rfl ?_
  intro T13 h13 e13 W13 X13
  replace N := Fr.snoc X13 N q0
  replace K := K.wr W13 (Or.inl (List.mem_cons_self ..))
  replace E := E.wr W13
  replace F_topReturnAddress := F_topReturnAddress.other W13 (Or.inr (slot_ne (C := "com/example/ubver/ubver/verifier/StackAndLocals$State") (t := .int) (t' := .long) (Or.inl (hw _ (List.mem_of_getElem? (i := 10) rfl))) (Or.inl (hw _ (List.mem_of_getElem? (i := 13) rfl))) (by decide) (by decide) (by decide)))
  replace F_content := F_content.same W13
  replace F_written := F_written.other W13 (Or.inr (slot_ne (C := "com/example/ubver/ubver/verifier/StackAndLocals$State") (t := (.array .long)) (t' := .long) (Or.inr (hw _ (List.mem_of_getElem? (i := 16) rfl))) (Or.inl (hw _ (List.mem_of_getElem? (i := 13) rfl))) (by decide) (by decide) (by decide)))
  replace F_returnAddresses := F_returnAddresses.other W13 (Or.inr (slot_ne (C := "com/example/ubver/ubver/verifier/StackAndLocals$State") (t := (.array .int)) (t' := .long) (Or.inr (hw _ (List.mem_of_getElem? (i := 19) rfl))) (Or.inl (hw _ (List.mem_of_getElem? (i := 13) rfl))) (by decide) (by decide) (by decide)))
  replace F_depth := F_depth.other W13 (Or.inr (slot_ne (C := "com/example/ubver/ubver/verifier/StackAndLocals$State") (t := .int) (t' := .long) (Or.inl (hw _ (List.mem_of_getElem? (i := 25) rfl))) (Or.inl (hw _ (List.mem_of_getElem? (i := 13) rfl))) (by decide) (by decide) (by decide)))
  refine o_aloadN (pc' := 17) X13 hx (hb hby d1_16) rfl rfl rfl ?_
  refine o_iloadN (pc' := 18) X13 hx (hb hby d1_17) rfl rfl ?_
  refine o_bipush (v := (63 : Int32)) (pc' := 20) X13 hx (hb hby d1_18) (by decide) rfl ?_
  refine o_iadd (pc' := 21) X13 hx (hb hby d1_20) rfl ?_
  refine o_bipush (v := (64 : Int32)) (pc' := 23) X13 hx (hb hby d1_21) (by decide) rfl ?_
  refine o_idiv (pc' := 24) X13 hx (hb hby d1_23) (by decide) rfl ?_
  rw [show ((128 : Int32) + (63 : Int32)) / (64 : Int32) = (2 : Int32) from by decide]
  refine o_newarr (pc' := 26) (cap := 2) X13 hx hZ (hw _ (List.mem_of_getElem? (i := 14) rfl)) e13 (hb hby d1_24) rfl (by decide) (by decide) (by decide) (by decide) (by decide) ?_
  intro T24 h24 cA24 w gw e24 E24 Aw X24
  have n_a_w : a ≠ w := by rw [gw]; exact Nat.ne_of_lt E.lt
  have z_w : h0.size ≤ w := by rw [gw]; exact K.1
  replace E := E.ext E24
  replace F_topReturnAddress := F_topReturnAddress.ext E24
  replace F_content := F_content.ext E24
  replace F_written := F_written.ext E24
  replace F_returnAddresses := F_returnAddresses.ext E24
  replace F_depth := F_depth.ext E24
  replace K := K.ext E24
  have Cw : Cont _ 2 (two (.long (0 : Int64)) (.long (0 : Int64))) := two_of (Cont.new cA24 .long (2 : Int32) 2 (by decide)) rfl rfl
  refine o_putF (pc' := 29) (ty := (.array .long)) X24 hx hZ hown (hw _ (List.mem_of_getElem? (i := 15) rfl)) Via.refl e24 F_written E (Or.inr ⟨(hw _ (List.mem_of_getElem? (i := 16) rfl)), rfl, hnm⟩) (hw _ (List.mem_of_getElem? (i := 1) rfl)) (by decide) rfl rfl (hb hby d1_26) rfl ?_
  intro T26 h26 e26 W26 X26
  replace N := Fr.snoc X26 N q0
  replace K := K.wr W26 (Or.inl (List.mem_cons_self ..))
  replace E := E.wr W26
  replace F_topReturnAddress := F_topReturnAddress.other W26 (Or.inr (slot_ne (C := "com/example/ubver/ubver/verifier/StackAndLocals$State") (t := .int) (t' := (.array .long)) (Or.inl (hw _ (List.mem_of_getElem? (i := 10) rfl))) (Or.inr (hw _ (List.mem_of_getElem? (i := 16) rfl))) (by decide) (by decide) (by decide)))
  replace F_content := F_content.other W26 (Or.inr (slot_ne (C := "com/example/ubver/ubver/verifier/StackAndLocals$State") (t := .long) (t' := (.array .long)) (Or.inl (hw _ (List.mem_of_getElem? (i := 13) rfl))) (Or.inr (hw _ (List.mem_of_getElem? (i := 16) rfl))) (by decide) (by decide) (by decide)))
  replace F_written := F_written.same W26
  replace F_returnAddresses := F_returnAddresses.other W26 (Or.inr (slot_ne (C := "com/example/ubver/ubver/verifier/StackAndLocals$State") (t := (.array .int)) (t' := (.array .long)) (Or.inr (hw _ (List.mem_of_getElem? (i := 19) rfl))) (Or.inr (hw _ (List.mem_of_getElem? (i := 16) rfl))) (by decide) (by decide) (by decide)))
  replace F_depth := F_depth.other W26 (Or.inr (slot_ne (C := "com/example/ubver/ubver/verifier/StackAndLocals$State") (t := .int) (t' := (.array .long)) (Or.inl (hw _ (List.mem_of_getElem? (i := 25) rfl))) (Or.inr (hw _ (List.mem_of_getElem? (i := 16) rfl))) (by decide) (by decide) (by decide)))
  replace Aw := Aw.other W26 (Ne.symm n_a_w)
  refine o_aloadN (pc' := 30) X26 hx (hb hby d1_29) rfl rfl rfl ?_
  refine o_iloadN (pc' := 31) X26 hx (hb hby d1_30) rfl rfl ?_
  refine o_newarr (pc' := 33) (cap := 2) X26 hx hZ (hw _ (List.mem_of_getElem? (i := 17) rfl)) e26 (hb hby d1_31) rfl (by decide) (by decide) (by decide) (by decide) (by decide) ?_
  intro T31 h31 cA31 r gr e31 E31 Ar X31
  have n_a_r : a ≠ r := by rw [gr]; exact Nat.ne_of_lt E.lt
  have n_w_r : w ≠ r := by rw [gr]; exact Nat.ne_of_lt Aw.lt
  have z_r : h0.size ≤ r := by rw [gr]; exact K.1
  replace E := E.ext E31
  replace F_topReturnAddress := F_topReturnAddress.ext E31
  replace F_content := F_content.ext E31
  replace F_written := F_written.ext E31
  replace F_returnAddresses := F_returnAddresses.ext E31
  replace F_depth := F_depth.ext E31
  replace Aw := Aw.ext E31
  replace K := K.ext E31
  have Cr : Cont _ 2 (two (.int (0 : Int32)) (.int (0 : Int32))) := two_of (Cont.new cA31 .int (2 : Int32) 2 (by decide)) rfl rfl
  refine o_putF (pc' := 36) (ty := (.array .int)) X31 hx hZ hown (hw _ (List.mem_of_getElem? (i := 18) rfl)) Via.refl e31 F_returnAddresses E (Or.inr ⟨(hw _ (List.mem_of_getElem? (i := 19) rfl)), rfl, hnm⟩) (hw _ (List.mem_of_getElem? (i := 1) rfl)) (by decide) rfl rfl (hb hby d1_33) rfl ?_
  intro T33 h33 e33 W33 X33
  replace N := Fr.snoc X33 N q0
  replace K := K.wr W33 (Or.inl (List.mem_cons_self ..))
  replace E := E.wr W33
  replace F_topReturnAddress := F_topReturnAddress.other W33 (Or.inr (slot_ne (C := "com/example/ubver/ubver/verifier/StackAndLocals$State") (t := .int) (t' := (.array .int)) (Or.inl (hw _ (List.mem_of_getElem? (i := 10) rfl))) (Or.inr (hw _ (List.mem_of_getElem? (i := 19) rfl))) (by decide) (by decide) (by decide)))
  replace F_content := F_content.other W33 (Or.inr (slot_ne (C := "com/example/ubver/ubver/verifier/StackAndLocals$State") (t := .long) (t' := (.array .int)) (Or.inl (hw _ (List.mem_of_getElem? (i := 13) rfl))) (Or.inr (hw _ (List.mem_of_getElem? (i := 19) rfl))) (by decide) (by decide) (by decide)))
  replace F_written := F_written.other W33 (Or.inr (slot_ne (C := "com/example/ubver/ubver/verifier/StackAndLocals$State") (t := (.array .long)) (t' := (.array .int)) (Or.inr (hw _ (List.mem_of_getElem? (i := 16) rfl))) (Or.inr (hw _ (List.mem_of_getElem? (i := 19) rfl))) (by decide) (by decide) (by decide)))
  replace F_returnAddresses := F_returnAddresses.same W33
  replace F_depth := F_depth.other W33 (Or.inr (slot_ne (C := "com/example/ubver/ubver/verifier/StackAndLocals$State") (t := .int) (t' := (.array .int)) (Or.inl (hw _ (List.mem_of_getElem? (i := 25) rfl))) (Or.inr (hw _ (List.mem_of_getElem? (i := 19) rfl))) (by decide) (by decide) (by decide)))
  replace Aw := Aw.other W33 (Ne.symm n_a_w)
  replace Ar := Ar.other W33 (Ne.symm n_a_r)
  refine o_aloadN (pc' := 37) X33 hx (hb hby d1_36) rfl rfl rfl ?_
  refine o_getF (pc' := 40) X33 hx hZ hown (hw _ (List.mem_of_getElem? (i := 18) rfl)) Via.refl e33 F_returnAddresses (hb hby d1_37) rfl ?_
  intro T37 e37 X37
  refine o_iconst (v := (-1 : Int32)) (pc' := 41) X37 hx (hb hby d1_40) (by decide) rfl ?_
  refine o_callS (W := 0) (pc' := 44) (rm := ({ frames := 0, cells := 0, slots := 0, locals := 0 } : Room)) (argsL := [(.ref r), (.int (-1 : Int32))]) (rest := []) X37 hx hZ hown (hw _ (List.mem_of_getElem? (i := 20) rfl)) (hw _ (List.mem_of_getElem? (i := 21) rfl)) (hw _ (List.mem_of_getElem? (i := 22) rfl)) (hw _ (List.mem_of_getElem? (i := 23) rfl)) (by decide) e37 (rm3 l Z a0 hw r n0 (-1 : Int32) _ h33 (Nat.le_trans Z0 z_r) Ar Cr) (by rw [hml]; rfl) pd_3 rfl rfl (hb hby d1_41) rfl (by decide) rfl (by decide) (by decide) (by decide) ?_
  rintro _ T41 L41 ⟨rfl, Nf, Kf, cr, Af, Cf⟩ X41
  show Ends p e below s (Q1 Z a n0 h0) ({ frames := 1, cells := 2, slots := 4, locals := 16 } : Room).cells ({ frames := 1, cells := 2, slots := 4, locals := 16 } : Room).slots (T41.setTop (mkF m 44 #[.val (.ref a), .val (.int (128 : Int32)), .val (.int (2 : Int32))] []))
  replace N := N.app Nf
  replace K := K.trans Kf (fun x q => Or.inr (by cases List.mem_singleton.mp q; exact z_r))
  replace E := E.keep Kf
  replace F_topReturnAddress := F_topReturnAddress.keep Kf (ninS n_a_r nin0)
  replace F_content := F_content.keep Kf (ninS n_a_r nin0)
  replace F_written := F_written.keep Kf (ninS n_a_r nin0)
  replace F_returnAddresses := F_returnAddresses.keep Kf (ninS n_a_r nin0)
  replace F_depth := F_depth.keep Kf (ninS n_a_r nin0)
  replace Aw := own_arrK Aw Kf (ninS n_w_r nin0)
  exact o_ret0 X41 hx hlk hret (hb hby d1_44) ⟨rfl, by first | exact N | simpa using N, K, w, r, _, cr, z_w, z_r, n_w_r, F_topReturnAddress, F_content, F_written, F_returnAddresses, F_depth, Aw, Cw, Af, Cf⟩ (by decide) (by decide)

def fe (x y : Int32) : Int32 := if x = y then x else if x = (-1 : Int32) then x else (-1 : Int32)
def fg (k x y : Int32) : Int32 := if x = y then k else if x = (-1 : Int32) then k else (1 : Int32)
def fd (x y : Int64) : Int32 := if x &&& y = x then (0 : Int32) else (1 : Int32)
def fm (a0 a1 b0 b1 : Int64) (x0 x1 y0 y1 t u : Int32) : Int32 := fg (fg (fg (((0 : Int32) ||| fd a0 b0) ||| fd a1 b1) x0 y0) x1 y1) t u
theorem own_fd (x y : Int64) : fd x y = 0 ∨ fd x y = 1 := by
  by_cases q : x &&& y = x
  · exact Or.inl (by rw [fd, if_pos q])
  · exact Or.inr (by rw [fd, if_neg q])
theorem own_fg (k x y : Int32) (h : k = 0 ∨ k = 1) : fg k x y = 0 ∨ fg k x y = 1 := by
  unfold fg
  by_cases q : x = y
  · rw [if_pos q]; exact h
  · rw [if_neg q]
    by_cases q2 : x = (-1 : Int32)
    · rw [if_pos q2]; exact h
    · rw [if_neg q2]; exact Or.inr rfl
theorem own_or (x y : Int64) (z w : Int64) : (((0 : Int32) ||| fd x y) ||| fd z w) = 0 ∨ (((0 : Int32) ||| fd x y) ||| fd z w) = 1 := by
  rcases own_fd x y with h | h <;> rcases own_fd z w with h2 | h2 <;> rw [h, h2] <;> decide
theorem own_z1 {k : Int32} (h : k = 0 ∨ k = 1) : k &&& 1 = k := by rcases h with rfl | rfl <;> decide
abbrev Q5 (Z : State) (a b w r w2 r2 : Addr) (n0 : Nat) (a0' a1' b0' b1' : Int64) (x0 x1 y0 y1 tp up dp : Int32) (cw cr cw2 cr2 : Cell) (cn : Int64) (h0 : Heap) (v : Option Value) (h : Heap) (L : List Loc) : Prop := v = some (.int (fm a0' a1' b0' b1' x0 x1 y0 y1 tp up)) ∧ Fr n0 L ∧ Keep h0 h [a, w, r] ∧ Fld Z h a "com/example/ubver/ubver/verifier/StackAndLocals$State" "written" "[J" (.ref w) ∧ Fld Z h a "com/example/ubver/ubver/verifier/StackAndLocals$State" "returnAddresses" "[I" (.ref r) ∧ Fld Z h a "com/example/ubver/ubver/verifier/StackAndLocals$State" "topReturnAddress" "I" (.int (fe tp up)) ∧ Fld Z h a "com/example/ubver/ubver/verifier/StackAndLocals$State" "depth" "I" (.int dp) ∧ ∃ cw' cr', Arr Z h w cw' .long ∧ Cont cw' 2 (two (.long (a0' &&& b0')) (.long (a1' &&& b1'))) ∧ Arr Z h r cr' .int ∧ Cont cr' 2 (two (.int (fe x0 y0)) (.int (fe x1 y1)))
set_option maxRecDepth 65536 in
set_option maxHeartbeats 40000000 in
theorem rm5 (l : Launch) (Z : State) (a0 : Array Value) (hw : ∀ d ∈ tables_1, d.before a0 Z = true) (a b w r w2 r2 : Addr) (n0 : Nat) (a0' a1' b0' b1' : Int64) (x0 x1 y0 y1 tp up dp : Int32) (cw cr cw2 cr2 : Cell) (cn : Int64) (h0 : Heap) (q_a : n0 ≤ a) (q_w : n0 ≤ w) (q_r : n0 ≤ r) (E : Exa Z h0 a "com/example/ubver/ubver/verifier/StackAndLocals$State") (n_a_b : a ≠ b) (n_a_w : a ≠ w) (n_a_r : a ≠ r) (n_a_w2 : a ≠ w2) (n_a_r2 : a ≠ r2) (n_b_w : b ≠ w) (n_b_r : b ≠ r) (n_b_w2 : b ≠ w2) (n_b_r2 : b ≠ r2) (n_w_r : w ≠ r) (n_w_w2 : w ≠ w2) (n_w_r2 : w ≠ r2) (n_r_w2 : r ≠ w2) (n_r_r2 : r ≠ r2) (n_w2_r2 : w2 ≠ r2) (Fw : Fld Z h0 a "com/example/ubver/ubver/verifier/StackAndLocals$State" "written" "[J" (.ref w)) (Fr_ : Fld Z h0 a "com/example/ubver/ubver/verifier/StackAndLocals$State" "returnAddresses" "[I" (.ref r)) (Ft : Fld Z h0 a "com/example/ubver/ubver/verifier/StackAndLocals$State" "topReturnAddress" "I" (.int tp)) (Fc : Fld Z h0 a "com/example/ubver/ubver/verifier/StackAndLocals$State" "content" "J" (.long cn)) (Fd : Fld Z h0 a "com/example/ubver/ubver/verifier/StackAndLocals$State" "depth" "I" (.int dp)) (Gw : Fld Z h0 b "com/example/ubver/ubver/verifier/StackAndLocals$State" "written" "[J" (.ref w2)) (Gr : Fld Z h0 b "com/example/ubver/ubver/verifier/StackAndLocals$State" "returnAddresses" "[I" (.ref r2)) (Gt : Fld Z h0 b "com/example/ubver/ubver/verifier/StackAndLocals$State" "topReturnAddress" "I" (.int up)) (Aw : Arr Z h0 w cw .long) (Cw : Cont cw 2 (two (.long a0') (.long a1'))) (Ar : Arr Z h0 r cr .int) (Cr : Cont cr 2 (two (.int x0) (.int x1))) (Bw : Arr Z h0 w2 cw2 .long) (Dw : Cont cw2 2 (two (.long b0') (.long b1'))) (Br : Arr Z h0 r2 cr2 .int) (Dr : Cont cr2 2 (two (.int y0) (.int y1))) :
    Con l Z (⟨"com/example/ubver/ubver/verifier/StackAndLocals$State", "merge", "(Lcom/example/ubver/ubver/verifier/StackAndLocals$State;)Z"⟩ : MethodName) prog_107_method_12_code 6 (some .boolean) ({ frames := 0, cells := 0, slots := 0, locals := 0 } : Room) #[(.ref a), (.ref b)] h0 (Q5 Z a b w r w2 r2 n0 a0' a1' b0' b1' x0 x1 y0 y1 tp up dp cw cr cw2 cr2 cn h0) := by
  refine Con.of pn_5 (fun p e s m below meth c T0 X0 hx hby hml hret hlk hown hnm hZ e0 => ?_)
  replace hown : s.vm.findClass "com/example/ubver/ubver/verifier/StackAndLocals$State" = some m.cls := hown
  have ef : entryFrame m #[(.ref a), (.ref b)] 6 = mkF m 0 #[.val (.ref a), .val (.ref b), .unset, .unset, .unset, .unset] [] := by first | (simp [entryFrame, mkF, argsToLocals, Value.category]; done) | rfl
  rw [ef]
  have N := Fr.nil n0
  have K := Keep.refl h0 [a, w, r]
  refine o_iconst (v := (0 : Int32)) (pc' := 1) X0 hx (hb hby d5_0) (by decide) rfl ?_
  refine o_istoreN (Ls' := #[.val (.ref a), .val (.ref b), .val (.int (0 : Int32)), .unset, .unset, .unset]) (pc' := 2) X0 hx (hb hby d5_1) rfl rfl ?_
  refine o_iconst (v := (0 : Int32)) (pc' := 3) X0 hx (hb hby d5_2) (by decide) rfl ?_
  refine o_istoreN (Ls' := #[.val (.ref a), .val (.ref b), .val (.int (0 : Int32)), .val (.int (0 : Int32)), .unset, .unset]) (pc' := 4) X0 hx (hb hby d5_3) rfl rfl ?_
  refine o_iloadN (pc' := 5) X0 hx (hb hby d5_4) rfl rfl ?_
  refine o_aloadN (pc' := 6) X0 hx (hb hby d5_5) rfl rfl rfl ?_
  refine o_getF (pc' := 9) X0 hx hZ hown (hw _ (List.mem_of_getElem? (i := 15) rfl)) Via.refl e0 Fw (hb hby d5_6) rfl ?_
  intro T6 e6 X6
  refine o_len (pc' := 10) (n := (2 : Int32)) X6 hx hZ e6 Aw (by rw [Cw.1]; decide) (hb hby d5_9) rfl ?_
  refine o_icmp_ge (p1 := 13) (p2 := 62) X6 hx (hb hby d5_10) rfl (by decide) (by decide) (fun hc10 => absurd (by decide) hc10) (fun hc10 => ?_)
  refine o_aloadN (pc' := 14) X6 hx (hb hby d5_13) rfl rfl rfl ?_
  refine o_getF (pc' := 17) X6 hx hZ hown (hw _ (List.mem_of_getElem? (i := 15) rfl)) Via.refl e6 Fw (hb hby d5_14) rfl ?_
  intro T14 e14 X14
  refine o_iloadN (pc' := 18) X14 hx (hb hby d5_17) rfl rfl ?_
  refine o_laload (pc' := 19) (v := (.long a0')) X14 hx hZ e14 Aw (Cw.inb (by decide) (by decide)) ((Cw.at (j := (0 : Int32)) (by decide) (by decide)).trans rfl) (hb hby d5_18) rfl ?_
  refine o_aloadN (pc' := 20) X14 hx (hb hby d5_19) rfl rfl rfl ?_
  refine o_getF (pc' := 23) X14 hx hZ hown (hw _ (List.mem_of_getElem? (i := 15) rfl)) Via.refl e14 Gw (hb hby d5_20) rfl ?_
  intro T20 e20 X20
  refine o_iloadN (pc' := 24) X20 hx (hb hby d5_23) rfl rfl ?_
  refine o_laload (pc' := 25) (v := (.long b0')) X20 hx hZ e20 Bw (Dw.inb (by decide) (by decide)) ((Dw.at (j := (0 : Int32)) (by decide) (by decide)).trans rfl) (hb hby d5_24) rfl ?_
  refine o_land (pc' := 26) X20 hx (hb hby d5_25) rfl ?_
  refine o_lstore (Ls' := #[.val (.ref a), .val (.ref b), .val (.int (0 : Int32)), .val (.int (0 : Int32)), .val (.long (a0' &&& b0')), .second]) (pc' := 28) X20 hx (hb hby d5_26) rfl rfl ?_
  refine o_iloadN (pc' := 29) X20 hx (hb hby d5_28) rfl rfl ?_
  refine o_lload (pc' := 31) X20 hx (hb hby d5_29) rfl rfl ?_
  refine o_aloadN (pc' := 32) X20 hx (hb hby d5_31) rfl rfl rfl ?_
  refine o_getF (pc' := 35) X20 hx hZ hown (hw _ (List.mem_of_getElem? (i := 15) rfl)) Via.refl e20 Fw (hb hby d5_32) rfl ?_
  intro T32 e32 X32
  refine o_iloadN (pc' := 36) X32 hx (hb hby d5_35) rfl rfl ?_
  refine o_laload (pc' := 37) (v := (.long a0')) X32 hx hZ e32 Aw (Cw.inb (by decide) (by decide)) ((Cw.at (j := (0 : Int32)) (by decide) (by decide)).trans rfl) (hb hby d5_36) rfl ?_
  obtain ⟨d0, hd0⟩ : ∃ z : Int32, z = (if (a0' &&& b0') = a0' then (0 : Int32) else (1 : Int32)) := ⟨_, rfl⟩
  suffices J46 : Ends p e below s (Q5 Z a b w r w2 r2 n0 a0' a1' b0' b1' x0 x1 y0 y1 tp up dp cw cr cw2 cr2 cn h0) ({ frames := 0, cells := 0, slots := 0, locals := 0 } : Room).cells ({ frames := 0, cells := 0, slots := 0, locals := 0 } : Room).slots (T32.setTop (mkF m 46 #[.val (.ref a), .val (.ref b), .val (.int (0 : Int32)), .val (.int (0 : Int32)), .val (.long (a0' &&& b0')), .second] [(.int d0), (.int (0 : Int32))])) by
    refine o_lcmp_eq (p1 := 41) (p2 := 45) X32 hx (hb hby d5_37) (hb hby d5_38) rfl (by decide) (by decide) (fun hc37 => ?_) (fun hc37 => ?_)
    · refine o_iconst (v := (0 : Int32)) (pc' := 46) X32 hx (hb hby d5_45) (by decide) rfl ?_
      simp only [hd0, if_pos hc37] at J46; exact J46
    · refine o_iconst (v := (1 : Int32)) (pc' := 42) X32 hx (hb hby d5_41) (by decide) rfl ?_
      refine o_goto (pc' := 46) X32 hx (hb hby d5_42) (by decide) (by decide) ?_
      simp only [hd0, if_neg hc37] at J46; exact J46
  have ed0 : d0 = fd a0' b0' := by rw [hd0, fd]
  rw [ed0]
  refine o_ior (pc' := 47) X32 hx (hb hby d5_46) rfl ?_
  refine o_istoreN (Ls' := #[.val (.ref a), .val (.ref b), .val (.int ((0 : Int32) ||| (fd a0' b0'))), .val (.int (0 : Int32)), .val (.long (a0' &&& b0')), .second]) (pc' := 48) X32 hx (hb hby d5_47) rfl rfl ?_
  refine o_aloadN (pc' := 49) X32 hx (hb hby d5_48) rfl rfl rfl ?_
  refine o_getF (pc' := 52) X32 hx hZ hown (hw _ (List.mem_of_getElem? (i := 15) rfl)) Via.refl e32 Fw (hb hby d5_49) rfl ?_
  intro T49 e49 X49
  refine o_iloadN (pc' := 53) X49 hx (hb hby d5_52) rfl rfl ?_
  refine o_lload (pc' := 55) X49 hx (hb hby d5_53) rfl rfl ?_
  refine o_lastore (pc' := 56) X49 hx hZ e49 Aw (Cw.inb (by decide) (by decide)) (hb hby d5_55) rfl ?_
  intro T55 h55 e55 W55 X55
  replace N := Fr.snoc X55 N q_w
  replace K := K.wr W55 (Or.inl (by simp))
  replace E := E.wr W55
  replace Fw := Fw.other W55 (Or.inl n_a_w)
  replace Fr_ := Fr_.other W55 (Or.inl n_a_w)
  replace Ft := Ft.other W55 (Or.inl n_a_w)
  replace Fc := Fc.other W55 (Or.inl n_a_w)
  replace Fd := Fd.other W55 (Or.inl n_a_w)
  replace Gw := Gw.other W55 (Or.inl n_b_w)
  replace Gr := Gr.other W55 (Or.inl n_b_w)
  replace Gt := Gt.other W55 (Or.inl n_b_w)
  replace Ar := Ar.other W55 (Ne.symm n_w_r)
  replace Bw := Bw.other W55 (Ne.symm n_w_w2)
  replace Br := Br.other W55 (Ne.symm n_w_r2)
  replace Aw := Arr.same W55 Aw
  replace Cw : Cont _ 2 (two (.long (a0' &&& b0')) (.long a1')) := two_of (Cw.put (Int32.toNatClampNeg (0 : Int32)) (.long (a0' &&& b0'))) rfl rfl
  refine o_iinc (Ls' := #[.val (.ref a), .val (.ref b), .val (.int ((0 : Int32) ||| (fd a0' b0'))), .val (.int (1 : Int32)), .val (.long (a0' &&& b0')), .second]) (v' := (1 : Int32)) (pc' := 59) X55 hx (hb hby d5_56) rfl (by decide) rfl rfl ?_
  refine o_goto (pc' := 4) X55 hx (hb hby d5_59) (by decide) (by decide) ?_
  refine o_iloadN (pc' := 5) X55 hx (hb hby d5_4) rfl rfl ?_
  refine o_aloadN (pc' := 6) X55 hx (hb hby d5_5) rfl rfl rfl ?_
  refine o_getF (pc' := 9) X55 hx hZ hown (hw _ (List.mem_of_getElem? (i := 15) rfl)) Via.refl e55 Fw (hb hby d5_6) rfl ?_
  intro T6 e6 X6
  refine o_len (pc' := 10) (n := (2 : Int32)) X6 hx hZ e6 Aw (by rw [Cw.1]; decide) (hb hby d5_9) rfl ?_
  refine o_icmp_ge (p1 := 13) (p2 := 62) X6 hx (hb hby d5_10) rfl (by decide) (by decide) (fun hc10 => absurd (by decide) hc10) (fun hc10 => ?_)
  refine o_aloadN (pc' := 14) X6 hx (hb hby d5_13) rfl rfl rfl ?_
  refine o_getF (pc' := 17) X6 hx hZ hown (hw _ (List.mem_of_getElem? (i := 15) rfl)) Via.refl e6 Fw (hb hby d5_14) rfl ?_
  intro T14 e14 X14
  refine o_iloadN (pc' := 18) X14 hx (hb hby d5_17) rfl rfl ?_
  refine o_laload (pc' := 19) (v := (.long a1')) X14 hx hZ e14 Aw (Cw.inb (by decide) (by decide)) ((Cw.at (j := (1 : Int32)) (by decide) (by decide)).trans rfl) (hb hby d5_18) rfl ?_
  refine o_aloadN (pc' := 20) X14 hx (hb hby d5_19) rfl rfl rfl ?_
  refine o_getF (pc' := 23) X14 hx hZ hown (hw _ (List.mem_of_getElem? (i := 15) rfl)) Via.refl e14 Gw (hb hby d5_20) rfl ?_
  intro T20 e20 X20
  refine o_iloadN (pc' := 24) X20 hx (hb hby d5_23) rfl rfl ?_
  refine o_laload (pc' := 25) (v := (.long b1')) X20 hx hZ e20 Bw (Dw.inb (by decide) (by decide)) ((Dw.at (j := (1 : Int32)) (by decide) (by decide)).trans rfl) (hb hby d5_24) rfl ?_
  refine o_land (pc' := 26) X20 hx (hb hby d5_25) rfl ?_
  refine o_lstore (Ls' := #[.val (.ref a), .val (.ref b), .val (.int ((0 : Int32) ||| (fd a0' b0'))), .val (.int (1 : Int32)), .val (.long (a1' &&& b1')), .second]) (pc' := 28) X20 hx (hb hby d5_26) rfl rfl ?_
  refine o_iloadN (pc' := 29) X20 hx (hb hby d5_28) rfl rfl ?_
  refine o_lload (pc' := 31) X20 hx (hb hby d5_29) rfl rfl ?_
  refine o_aloadN (pc' := 32) X20 hx (hb hby d5_31) rfl rfl rfl ?_
  refine o_getF (pc' := 35) X20 hx hZ hown (hw _ (List.mem_of_getElem? (i := 15) rfl)) Via.refl e20 Fw (hb hby d5_32) rfl ?_
  intro T32 e32 X32
  refine o_iloadN (pc' := 36) X32 hx (hb hby d5_35) rfl rfl ?_
  refine o_laload (pc' := 37) (v := (.long a1')) X32 hx hZ e32 Aw (Cw.inb (by decide) (by decide)) ((Cw.at (j := (1 : Int32)) (by decide) (by decide)).trans rfl) (hb hby d5_36) rfl ?_
  obtain ⟨d1, hd1⟩ : ∃ z : Int32, z = (if (a1' &&& b1') = a1' then (0 : Int32) else (1 : Int32)) := ⟨_, rfl⟩
  suffices J46 : Ends p e below s (Q5 Z a b w r w2 r2 n0 a0' a1' b0' b1' x0 x1 y0 y1 tp up dp cw cr cw2 cr2 cn h0) ({ frames := 0, cells := 0, slots := 0, locals := 0 } : Room).cells ({ frames := 0, cells := 0, slots := 0, locals := 0 } : Room).slots (T32.setTop (mkF m 46 #[.val (.ref a), .val (.ref b), .val (.int ((0 : Int32) ||| (fd a0' b0'))), .val (.int (1 : Int32)), .val (.long (a1' &&& b1')), .second] [(.int d1), (.int ((0 : Int32) ||| (fd a0' b0')))])) by
    refine o_lcmp_eq (p1 := 41) (p2 := 45) X32 hx (hb hby d5_37) (hb hby d5_38) rfl (by decide) (by decide) (fun hc37 => ?_) (fun hc37 => ?_)
    · refine o_iconst (v := (0 : Int32)) (pc' := 46) X32 hx (hb hby d5_45) (by decide) rfl ?_
      simp only [hd1, if_pos hc37] at J46; exact J46
    · refine o_iconst (v := (1 : Int32)) (pc' := 42) X32 hx (hb hby d5_41) (by decide) rfl ?_
      refine o_goto (pc' := 46) X32 hx (hb hby d5_42) (by decide) (by decide) ?_
      simp only [hd1, if_neg hc37] at J46; exact J46
  have ed1 : d1 = fd a1' b1' := by rw [hd1, fd]
  rw [ed1]
  refine o_ior (pc' := 47) X32 hx (hb hby d5_46) rfl ?_
  refine o_istoreN (Ls' := #[.val (.ref a), .val (.ref b), .val (.int (((0 : Int32) ||| (fd a0' b0')) ||| (fd a1' b1'))), .val (.int (1 : Int32)), .val (.long (a1' &&& b1')), .second]) (pc' := 48) X32 hx (hb hby d5_47) rfl rfl ?_
  refine o_aloadN (pc' := 49) X32 hx (hb hby d5_48) rfl rfl rfl ?_
  refine o_getF (pc' := 52) X32 hx hZ hown (hw _ (List.mem_of_getElem? (i := 15) rfl)) Via.refl e32 Fw (hb hby d5_49) rfl ?_
  intro T49 e49 X49
  refine o_iloadN (pc' := 53) X49 hx (hb hby d5_52) rfl rfl ?_
  refine o_lload (pc' := 55) X49 hx (hb hby d5_53) rfl rfl ?_
  refine o_lastore (pc' := 56) X49 hx hZ e49 Aw (Cw.inb (by decide) (by decide)) (hb hby d5_55) rfl ?_
  intro T55 h55 e55 W55 X55
  replace N := Fr.snoc X55 N q_w
  replace K := K.wr W55 (Or.inl (by simp))
  replace E := E.wr W55
  replace Fw := Fw.other W55 (Or.inl n_a_w)
  replace Fr_ := Fr_.other W55 (Or.inl n_a_w)
  replace Ft := Ft.other W55 (Or.inl n_a_w)
  replace Fc := Fc.other W55 (Or.inl n_a_w)
  replace Fd := Fd.other W55 (Or.inl n_a_w)
  replace Gw := Gw.other W55 (Or.inl n_b_w)
  replace Gr := Gr.other W55 (Or.inl n_b_w)
  replace Gt := Gt.other W55 (Or.inl n_b_w)
  replace Ar := Ar.other W55 (Ne.symm n_w_r)
  replace Bw := Bw.other W55 (Ne.symm n_w_w2)
  replace Br := Br.other W55 (Ne.symm n_w_r2)
  replace Aw := Arr.same W55 Aw
  replace Cw : Cont _ 2 (two (.long (a0' &&& b0')) (.long (a1' &&& b1'))) := two_of (Cw.put (Int32.toNatClampNeg (1 : Int32)) (.long (a1' &&& b1'))) rfl rfl
  refine o_iinc (Ls' := #[.val (.ref a), .val (.ref b), .val (.int (((0 : Int32) ||| (fd a0' b0')) ||| (fd a1' b1'))), .val (.int (2 : Int32)), .val (.long (a1' &&& b1')), .second]) (v' := (2 : Int32)) (pc' := 59) X55 hx (hb hby d5_56) rfl (by decide) rfl rfl ?_
  refine o_goto (pc' := 4) X55 hx (hb hby d5_59) (by decide) (by decide) ?_
  refine o_iloadN (pc' := 5) X55 hx (hb hby d5_4) rfl rfl ?_
  refine o_aloadN (pc' := 6) X55 hx (hb hby d5_5) rfl rfl rfl ?_
  refine o_getF (pc' := 9) X55 hx hZ hown (hw _ (List.mem_of_getElem? (i := 15) rfl)) Via.refl e55 Fw (hb hby d5_6) rfl ?_
  intro T6 e6 X6
  refine o_len (pc' := 10) (n := (2 : Int32)) X6 hx hZ e6 Aw (by rw [Cw.1]; decide) (hb hby d5_9) rfl ?_
  refine o_icmp_ge (p1 := 13) (p2 := 62) X6 hx (hb hby d5_10) rfl (by decide) (by decide) (fun hc10 => ?_) (fun hc10 => absurd hc10 (by decide))
  have bk := own_or a0' b0' a1' b1'
  generalize hk0 : ((0 : Int32) ||| (fd a0' b0')) ||| (fd a1' b1') = k0
  rw [hk0] at bk
  obtain ⟨cw', ecw⟩ : ∃ c', Arr Z h55 w c' .long ∧ Cont c' 2 (two (.long (a0' &&& b0')) (.long (a1' &&& b1'))) := ⟨_, Aw, Cw⟩
  obtain ⟨Aw, Cw⟩ := ecw
  have J116 : ∀ (T' : State) (h' : Heap) (L' : List Loc) (cr' : Cell), T'.heap = h' → Stand p l e ({ frames := 0, cells := 0, slots := 0, locals := 0 } : Room) s m #[(.ref a), (.ref b)] below meth c T' L' 0 0 → Fr n0 L' → Keep h0 h' [a, w, r] → Exa Z h' a "com/example/ubver/ubver/verifier/StackAndLocals$State" → Fld Z h' a "com/example/ubver/ubver/verifier/StackAndLocals$State" "written" "[J" (.ref w) → Fld Z h' a "com/example/ubver/ubver/verifier/StackAndLocals$State" "returnAddresses" "[I" (.ref r) → Fld Z h' a "com/example/ubver/ubver/verifier/StackAndLocals$State" "topReturnAddress" "I" (.int tp) → Fld Z h' a "com/example/ubver/ubver/verifier/StackAndLocals$State" "content" "J" (.long cn) → Fld Z h' a "com/example/ubver/ubver/verifier/StackAndLocals$State" "depth" "I" (.int dp) → Fld Z h' b "com/example/ubver/ubver/verifier/StackAndLocals$State" "written" "[J" (.ref w2) → Fld Z h' b "com/example/ubver/ubver/verifier/StackAndLocals$State" "returnAddresses" "[I" (.ref r2) → Fld Z h' b "com/example/ubver/ubver/verifier/StackAndLocals$State" "topReturnAddress" "I" (.int up) → Arr Z h' w cw' .long → Arr Z h' r cr' .int → Arr Z h' w2 cw2 .long → Arr Z h' r2 cr2 .int → Cont cr' 2 (two (.int (fe x0 y0)) (.int (fe x1 y1))) → Ends p e below s (Q5 Z a b w r w2 r2 n0 a0' a1' b0' b1' x0 x1 y0 y1 tp up dp cw cr cw2 cr2 cn h0) ({ frames := 0, cells := 0, slots := 0, locals := 0 } : Room).cells ({ frames := 0, cells := 0, slots := 0, locals := 0 } : Room).slots (T'.setTop (mkF m 116 #[.val (.ref a), .val (.ref b), .val (.int (fg (fg k0 x0 y0) x1 y1)), .val (.int (2 : Int32)), .val (.long (a1' &&& b1')), .second] [])) := by
    intro T' h' L' cr' e' X' N K E Fw Fr_ Ft Fc Fd Gw Gr Gt Aw Ar Bw Br Cr
  
    refine o_aloadN (pc' := 117) X' hx (hb hby d5_116) rfl rfl rfl ?_
    refine o_getF (pc' := 120) X' hx hZ hown (hw _ (List.mem_of_getElem? (i := 9) rfl)) Via.refl e' Ft (hb hby d5_117) rfl ?_
    intro T117 e117 X117
    refine o_aloadN (pc' := 121) X117 hx (hb hby d5_120) rfl rfl rfl ?_
    refine o_getF (pc' := 124) X117 hx hZ hown (hw _ (List.mem_of_getElem? (i := 9) rfl)) Via.refl e117 Gt (hb hby d5_121) rfl ?_
    intro T121 e121 X121
    refine o_icmp_eq (p1 := 127) (p2 := 142) X121 hx (hb hby d5_124) rfl (by decide) (by decide) (fun hc124 => ?_) (fun hc124 => ?_)
    · have hv : fm a0' a1' b0' b1' x0 x1 y0 y1 tp up = (fg (fg k0 x0 y0) x1 y1) := by rw [fm, hk0, fg, if_pos hc124]
      have ht : fe tp up = tp := by rw [fe, if_pos hc124]
      have b1 := own_fg _ tp up (own_fg _ x1 y1 (own_fg _ x0 y0 bk))
      have hv2 : fg (fg (fg k0 x0 y0) x1 y1) tp up = (fg (fg k0 x0 y0) x1 y1) := by rw [fg, if_pos hc124]
      rw [hv2] at b1
      refine o_iloadN (pc' := 143) X121 hx (hb hby d5_142) rfl rfl ?_
      refine o_if_eq (p1 := 146) (p2 := 153) X121 hx (hb hby d5_143) rfl (by decide) (by decide) (fun hc143 => ?_) (fun hc143 => ?_)
      · refine o_iloadN (pc' := 154) X121 hx (hb hby d5_153) rfl rfl ?_
        refine o_retZ X121 hx hlk hret (hb hby d5_154) (own_z1 b1) ⟨by rw [hv], by first | exact N | simpa using N, by rw [e121]; exact K, by rw [e121]; exact Fw, by rw [e121]; exact Fr_, by rw [e121, ht]; exact Ft, by rw [e121]; exact Fd, cw', cr', by rw [e121]; exact Aw, Cw, by rw [e121]; exact Ar, Cr⟩ (by decide) (by decide)
      · refine o_aloadN (pc' := 147) X121 hx (hb hby d5_146) rfl rfl rfl ?_
        refine o_ldc2 (pc' := 150) (v := (-1 : Int64)) X121 hx (hb hby d5_147) hZ hown (hw _ (List.mem_of_getElem? (i := 11) rfl)) rfl ?_
        refine o_putF (pc' := 153) (ty := .long) X121 hx hZ hown (hw _ (List.mem_of_getElem? (i := 12) rfl)) Via.refl e121 Fc E (Or.inl (hw _ (List.mem_of_getElem? (i := 13) rfl))) (hw _ (List.mem_of_getElem? (i := 1) rfl)) (by decide) rfl rfl (hb hby d5_150) rfl ?_
        intro T150 h150 e150 W150 X150
        replace N := Fr.snoc X150 N q_a
        replace K := K.wr W150 (Or.inl (by simp))
        replace E := E.wr W150
        replace Fw := Fw.other W150 (Or.inr (slot_ne (C := "com/example/ubver/ubver/verifier/StackAndLocals$State") (t := (.array .long)) (t' := .long) (Or.inr (hw _ (List.mem_of_getElem? (i := 16) rfl))) (Or.inl (hw _ (List.mem_of_getElem? (i := 13) rfl))) (by decide) (by decide) (by decide)))
        replace Fr_ := Fr_.other W150 (Or.inr (slot_ne (C := "com/example/ubver/ubver/verifier/StackAndLocals$State") (t := (.array .int)) (t' := .long) (Or.inr (hw _ (List.mem_of_getElem? (i := 19) rfl))) (Or.inl (hw _ (List.mem_of_getElem? (i := 13) rfl))) (by decide) (by decide) (by decide)))
        replace Ft := Ft.other W150 (Or.inr (slot_ne (C := "com/example/ubver/ubver/verifier/StackAndLocals$State") (t := .int) (t' := .long) (Or.inl (hw _ (List.mem_of_getElem? (i := 10) rfl))) (Or.inl (hw _ (List.mem_of_getElem? (i := 13) rfl))) (by decide) (by decide) (by decide)))
        replace Fc := Fc.same W150
        replace Fd := Fd.other W150 (Or.inr (slot_ne (C := "com/example/ubver/ubver/verifier/StackAndLocals$State") (t := .int) (t' := .long) (Or.inl (hw _ (List.mem_of_getElem? (i := 25) rfl))) (Or.inl (hw _ (List.mem_of_getElem? (i := 13) rfl))) (by decide) (by decide) (by decide)))
        replace Gw := Gw.other W150 (Or.inl (Ne.symm n_a_b))
        replace Gr := Gr.other W150 (Or.inl (Ne.symm n_a_b))
        replace Gt := Gt.other W150 (Or.inl (Ne.symm n_a_b))
        replace Aw := Aw.other W150 (Ne.symm n_a_w)
        replace Ar := Ar.other W150 (Ne.symm n_a_r)
        replace Bw := Bw.other W150 (Ne.symm n_a_w2)
        replace Br := Br.other W150 (Ne.symm n_a_r2)
        refine o_iloadN (pc' := 154) X150 hx (hb hby d5_153) rfl rfl ?_
        refine o_retZ X150 hx hlk hret (hb hby d5_154) (own_z1 b1) ⟨by rw [hv], by first | exact N | simpa using N, by rw [e150]; exact K, by rw [e150]; exact Fw, by rw [e150]; exact Fr_, by rw [e150, ht]; exact Ft, by rw [e150]; exact Fd, cw', cr', by rw [e150]; exact Aw, Cw, by rw [e150]; exact Ar, Cr⟩ (by decide) (by decide)
    · refine o_aloadN (pc' := 128) X121 hx (hb hby d5_127) rfl rfl rfl ?_
      refine o_getF (pc' := 131) X121 hx hZ hown (hw _ (List.mem_of_getElem? (i := 9) rfl)) Via.refl e121 Ft (hb hby d5_128) rfl ?_
      intro T128 e128 X128
      refine o_iconst (v := (-1 : Int32)) (pc' := 132) X128 hx (hb hby d5_131) (by decide) rfl ?_
      refine o_icmp_eq (p1 := 135) (p2 := 142) X128 hx (hb hby d5_132) rfl (by decide) (by decide) (fun hc132 => ?_) (fun hc132 => ?_)
      · have hv : fm a0' a1' b0' b1' x0 x1 y0 y1 tp up = (fg (fg k0 x0 y0) x1 y1) := by rw [fm, hk0, fg, if_neg hc124, if_pos hc132]
        have ht : fe tp up = tp := by rw [fe, if_neg hc124, if_pos hc132]
        have b1 := own_fg _ tp up (own_fg _ x1 y1 (own_fg _ x0 y0 bk))
        have hv2 : fg (fg (fg k0 x0 y0) x1 y1) tp up = (fg (fg k0 x0 y0) x1 y1) := by rw [fg, if_neg hc124, if_pos hc132]
        rw [hv2] at b1
        refine o_iloadN (pc' := 143) X128 hx (hb hby d5_142) rfl rfl ?_
        refine o_if_eq (p1 := 146) (p2 := 153) X128 hx (hb hby d5_143) rfl (by decide) (by decide) (fun hc143 => ?_) (fun hc143 => ?_)
        · refine o_iloadN (pc' := 154) X128 hx (hb hby d5_153) rfl rfl ?_
          refine o_retZ X128 hx hlk hret (hb hby d5_154) (own_z1 b1) ⟨by rw [hv], by first | exact N | simpa using N, by rw [e128]; exact K, by rw [e128]; exact Fw, by rw [e128]; exact Fr_, by rw [e128, ht]; exact Ft, by rw [e128]; exact Fd, cw', cr', by rw [e128]; exact Aw, Cw, by rw [e128]; exact Ar, Cr⟩ (by decide) (by decide)
        · refine o_aloadN (pc' := 147) X128 hx (hb hby d5_146) rfl rfl rfl ?_
          refine o_ldc2 (pc' := 150) (v := (-1 : Int64)) X128 hx (hb hby d5_147) hZ hown (hw _ (List.mem_of_getElem? (i := 11) rfl)) rfl ?_
          refine o_putF (pc' := 153) (ty := .long) X128 hx hZ hown (hw _ (List.mem_of_getElem? (i := 12) rfl)) Via.refl e128 Fc E (Or.inl (hw _ (List.mem_of_getElem? (i := 13) rfl))) (hw _ (List.mem_of_getElem? (i := 1) rfl)) (by decide) rfl rfl (hb hby d5_150) rfl ?_
          intro T150 h150 e150 W150 X150
          replace N := Fr.snoc X150 N q_a
          replace K := K.wr W150 (Or.inl (by simp))
          replace E := E.wr W150
          replace Fw := Fw.other W150 (Or.inr (slot_ne (C := "com/example/ubver/ubver/verifier/StackAndLocals$State") (t := (.array .long)) (t' := .long) (Or.inr (hw _ (List.mem_of_getElem? (i := 16) rfl))) (Or.inl (hw _ (List.mem_of_getElem? (i := 13) rfl))) (by decide) (by decide) (by decide)))
          replace Fr_ := Fr_.other W150 (Or.inr (slot_ne (C := "com/example/ubver/ubver/verifier/StackAndLocals$State") (t := (.array .int)) (t' := .long) (Or.inr (hw _ (List.mem_of_getElem? (i := 19) rfl))) (Or.inl (hw _ (List.mem_of_getElem? (i := 13) rfl))) (by decide) (by decide) (by decide)))
          replace Ft := Ft.other W150 (Or.inr (slot_ne (C := "com/example/ubver/ubver/verifier/StackAndLocals$State") (t := .int) (t' := .long) (Or.inl (hw _ (List.mem_of_getElem? (i := 10) rfl))) (Or.inl (hw _ (List.mem_of_getElem? (i := 13) rfl))) (by decide) (by decide) (by decide)))
          replace Fc := Fc.same W150
          replace Fd := Fd.other W150 (Or.inr (slot_ne (C := "com/example/ubver/ubver/verifier/StackAndLocals$State") (t := .int) (t' := .long) (Or.inl (hw _ (List.mem_of_getElem? (i := 25) rfl))) (Or.inl (hw _ (List.mem_of_getElem? (i := 13) rfl))) (by decide) (by decide) (by decide)))
          replace Gw := Gw.other W150 (Or.inl (Ne.symm n_a_b))
          replace Gr := Gr.other W150 (Or.inl (Ne.symm n_a_b))
          replace Gt := Gt.other W150 (Or.inl (Ne.symm n_a_b))
          replace Aw := Aw.other W150 (Ne.symm n_a_w)
          replace Ar := Ar.other W150 (Ne.symm n_a_r)
          replace Bw := Bw.other W150 (Ne.symm n_a_w2)
          replace Br := Br.other W150 (Ne.symm n_a_r2)
          refine o_iloadN (pc' := 154) X150 hx (hb hby d5_153) rfl rfl ?_
          refine o_retZ X150 hx hlk hret (hb hby d5_154) (own_z1 b1) ⟨by rw [hv], by first | exact N | simpa using N, by rw [e150]; exact K, by rw [e150]; exact Fw, by rw [e150]; exact Fr_, by rw [e150, ht]; exact Ft, by rw [e150]; exact Fd, cw', cr', by rw [e150]; exact Aw, Cw, by rw [e150]; exact Ar, Cr⟩ (by decide) (by decide)
      · refine o_aloadN (pc' := 136) X128 hx (hb hby d5_135) rfl rfl rfl ?_
        refine o_iconst (v := (-1 : Int32)) (pc' := 137) X128 hx (hb hby d5_136) (by decide) rfl ?_
        refine o_putF (pc' := 140) (ty := .int) X128 hx hZ hown (hw _ (List.mem_of_getElem? (i := 9) rfl)) Via.refl e128 Ft E (Or.inl (hw _ (List.mem_of_getElem? (i := 10) rfl))) (hw _ (List.mem_of_getElem? (i := 1) rfl)) (by decide) rfl rfl (hb hby d5_137) rfl ?_
        intro T137 h137 e137 W137 X137
        replace N := Fr.snoc X137 N q_a
        replace K := K.wr W137 (Or.inl (by simp))
        replace E := E.wr W137
        replace Fw := Fw.other W137 (Or.inr (slot_ne (C := "com/example/ubver/ubver/verifier/StackAndLocals$State") (t := (.array .long)) (t' := .int) (Or.inr (hw _ (List.mem_of_getElem? (i := 16) rfl))) (Or.inl (hw _ (List.mem_of_getElem? (i := 10) rfl))) (by decide) (by decide) (by decide)))
        replace Fr_ := Fr_.other W137 (Or.inr (slot_ne (C := "com/example/ubver/ubver/verifier/StackAndLocals$State") (t := (.array .int)) (t' := .int) (Or.inr (hw _ (List.mem_of_getElem? (i := 19) rfl))) (Or.inl (hw _ (List.mem_of_getElem? (i := 10) rfl))) (by decide) (by decide) (by decide)))
        replace Ft := Ft.same W137
        replace Fc := Fc.other W137 (Or.inr (slot_ne (C := "com/example/ubver/ubver/verifier/StackAndLocals$State") (t := .long) (t' := .int) (Or.inl (hw _ (List.mem_of_getElem? (i := 13) rfl))) (Or.inl (hw _ (List.mem_of_getElem? (i := 10) rfl))) (by decide) (by decide) (by decide)))
        replace Fd := Fd.other W137 (Or.inr (slot_ne (C := "com/example/ubver/ubver/verifier/StackAndLocals$State") (t := .int) (t' := .int) (Or.inl (hw _ (List.mem_of_getElem? (i := 25) rfl))) (Or.inl (hw _ (List.mem_of_getElem? (i := 10) rfl))) (by decide) (by decide) (by decide)))
        replace Gw := Gw.other W137 (Or.inl (Ne.symm n_a_b))
        replace Gr := Gr.other W137 (Or.inl (Ne.symm n_a_b))
        replace Gt := Gt.other W137 (Or.inl (Ne.symm n_a_b))
        replace Aw := Aw.other W137 (Ne.symm n_a_w)
        replace Ar := Ar.other W137 (Ne.symm n_a_r)
        replace Bw := Bw.other W137 (Ne.symm n_a_w2)
        replace Br := Br.other W137 (Ne.symm n_a_r2)
        refine o_iconst (v := (1 : Int32)) (pc' := 141) X137 hx (hb hby d5_140) (by decide) rfl ?_
        refine o_istoreN (Ls' := #[.val (.ref a), .val (.ref b), .val (.int (1 : Int32)), .val (.int (2 : Int32)), .val (.long (a1' &&& b1')), .second]) (pc' := 142) X137 hx (hb hby d5_141) rfl rfl ?_
        have hv : fm a0' a1' b0' b1' x0 x1 y0 y1 tp up = (1 : Int32) := by rw [fm, hk0, fg, if_neg hc124, if_neg hc132]
        have ht : fe tp up = (-1 : Int32) := by rw [fe, if_neg hc124, if_neg hc132]
        have b1 := own_fg _ tp up (own_fg _ x1 y1 (own_fg _ x0 y0 bk))
        have hv2 : fg (fg (fg k0 x0 y0) x1 y1) tp up = (1 : Int32) := by rw [fg, if_neg hc124, if_neg hc132]
        rw [hv2] at b1
        refine o_iloadN (pc' := 143) X137 hx (hb hby d5_142) rfl rfl ?_
        refine o_if_eq (p1 := 146) (p2 := 153) X137 hx (hb hby d5_143) rfl (by decide) (by decide) (fun hc143 => absurd hc143 (by decide)) (fun hc143 => ?_)
        refine o_aloadN (pc' := 147) X137 hx (hb hby d5_146) rfl rfl rfl ?_
        refine o_ldc2 (pc' := 150) (v := (-1 : Int64)) X137 hx (hb hby d5_147) hZ hown (hw _ (List.mem_of_getElem? (i := 11) rfl)) rfl ?_
        refine o_putF (pc' := 153) (ty := .long) X137 hx hZ hown (hw _ (List.mem_of_getElem? (i := 12) rfl)) Via.refl e137 Fc E (Or.inl (hw _ (List.mem_of_getElem? (i := 13) rfl))) (hw _ (List.mem_of_getElem? (i := 1) rfl)) (by decide) rfl rfl (hb hby d5_150) rfl ?_
        intro T150 h150 e150 W150 X150
        replace N := Fr.snoc X150 N q_a
        replace K := K.wr W150 (Or.inl (by simp))
        replace E := E.wr W150
        replace Fw := Fw.other W150 (Or.inr (slot_ne (C := "com/example/ubver/ubver/verifier/StackAndLocals$State") (t := (.array .long)) (t' := .long) (Or.inr (hw _ (List.mem_of_getElem? (i := 16) rfl))) (Or.inl (hw _ (List.mem_of_getElem? (i := 13) rfl))) (by decide) (by decide) (by decide)))
        replace Fr_ := Fr_.other W150 (Or.inr (slot_ne (C := "com/example/ubver/ubver/verifier/StackAndLocals$State") (t := (.array .int)) (t' := .long) (Or.inr (hw _ (List.mem_of_getElem? (i := 19) rfl))) (Or.inl (hw _ (List.mem_of_getElem? (i := 13) rfl))) (by decide) (by decide) (by decide)))
        replace Ft := Ft.other W150 (Or.inr (slot_ne (C := "com/example/ubver/ubver/verifier/StackAndLocals$State") (t := .int) (t' := .long) (Or.inl (hw _ (List.mem_of_getElem? (i := 10) rfl))) (Or.inl (hw _ (List.mem_of_getElem? (i := 13) rfl))) (by decide) (by decide) (by decide)))
        replace Fc := Fc.same W150
        replace Fd := Fd.other W150 (Or.inr (slot_ne (C := "com/example/ubver/ubver/verifier/StackAndLocals$State") (t := .int) (t' := .long) (Or.inl (hw _ (List.mem_of_getElem? (i := 25) rfl))) (Or.inl (hw _ (List.mem_of_getElem? (i := 13) rfl))) (by decide) (by decide) (by decide)))
        replace Gw := Gw.other W150 (Or.inl (Ne.symm n_a_b))
        replace Gr := Gr.other W150 (Or.inl (Ne.symm n_a_b))
        replace Gt := Gt.other W150 (Or.inl (Ne.symm n_a_b))
        replace Aw := Aw.other W150 (Ne.symm n_a_w)
        replace Ar := Ar.other W150 (Ne.symm n_a_r)
        replace Bw := Bw.other W150 (Ne.symm n_a_w2)
        replace Br := Br.other W150 (Ne.symm n_a_r2)
        refine o_iloadN (pc' := 154) X150 hx (hb hby d5_153) rfl rfl ?_
        refine o_retZ X150 hx hlk hret (hb hby d5_154) (own_z1 b1) ⟨by rw [hv], by first | exact N | simpa using N, by rw [e150]; exact K, by rw [e150]; exact Fw, by rw [e150]; exact Fr_, by rw [e150, ht]; exact Ft, by rw [e150]; exact Fd, cw', cr', by rw [e150]; exact Aw, Cw, by rw [e150]; exact Ar, Cr⟩ (by decide) (by decide)
  have J64_1 : ∀ (T' : State) (h' : Heap) (L' : List Loc) (cr' : Cell), T'.heap = h' → Stand p l e ({ frames := 0, cells := 0, slots := 0, locals := 0 } : Room) s m #[(.ref a), (.ref b)] below meth c T' L' 0 0 → Fr n0 L' → Keep h0 h' [a, w, r] → Exa Z h' a "com/example/ubver/ubver/verifier/StackAndLocals$State" → Fld Z h' a "com/example/ubver/ubver/verifier/StackAndLocals$State" "written" "[J" (.ref w) → Fld Z h' a "com/example/ubver/ubver/verifier/StackAndLocals$State" "returnAddresses" "[I" (.ref r) → Fld Z h' a "com/example/ubver/ubver/verifier/StackAndLocals$State" "topReturnAddress" "I" (.int tp) → Fld Z h' a "com/example/ubver/ubver/verifier/StackAndLocals$State" "content" "J" (.long cn) → Fld Z h' a "com/example/ubver/ubver/verifier/StackAndLocals$State" "depth" "I" (.int dp) → Fld Z h' b "com/example/ubver/ubver/verifier/StackAndLocals$State" "written" "[J" (.ref w2) → Fld Z h' b "com/example/ubver/ubver/verifier/StackAndLocals$State" "returnAddresses" "[I" (.ref r2) → Fld Z h' b "com/example/ubver/ubver/verifier/StackAndLocals$State" "topReturnAddress" "I" (.int up) → Arr Z h' w cw' .long → Arr Z h' r cr' .int → Arr Z h' w2 cw2 .long → Arr Z h' r2 cr2 .int → Cont cr' 2 (two (.int (fe x0 y0)) (.int x1)) → Ends p e below s (Q5 Z a b w r w2 r2 n0 a0' a1' b0' b1' x0 x1 y0 y1 tp up dp cw cr cw2 cr2 cn h0) ({ frames := 0, cells := 0, slots := 0, locals := 0 } : Room).cells ({ frames := 0, cells := 0, slots := 0, locals := 0 } : Room).slots (T'.setTop (mkF m 64 #[.val (.ref a), .val (.ref b), .val (.int (fg k0 x0 y0)), .val (.int (1 : Int32)), .val (.long (a1' &&& b1')), .second] [])) := by
    intro T' h' L' cr' e' X' N K E Fw Fr_ Ft Fc Fd Gw Gr Gt Aw Ar Bw Br Cr
    refine o_iloadN (pc' := 65) X' hx (hb hby d5_64) rfl rfl ?_
    refine o_aloadN (pc' := 66) X' hx (hb hby d5_65) rfl rfl rfl ?_
    refine o_getF (pc' := 69) X' hx hZ hown (hw _ (List.mem_of_getElem? (i := 18) rfl)) Via.refl e' Fr_ (hb hby d5_66) rfl ?_
    intro T66 e66 X66
    refine o_len (pc' := 70) (n := (2 : Int32)) X66 hx hZ e66 Ar (by rw [Cr.1]; decide) (hb hby d5_69) rfl ?_
    refine o_icmp_ge (p1 := 73) (p2 := 116) X66 hx (hb hby d5_70) rfl (by decide) (by decide) (fun hc70 => absurd (by decide) hc70) (fun hc70 => ?_)
    refine o_aloadN (pc' := 74) X66 hx (hb hby d5_73) rfl rfl rfl ?_
    refine o_getF (pc' := 77) X66 hx hZ hown (hw _ (List.mem_of_getElem? (i := 18) rfl)) Via.refl e66 Fr_ (hb hby d5_74) rfl ?_
    intro T74 e74 X74
    refine o_iloadN (pc' := 78) X74 hx (hb hby d5_77) rfl rfl ?_
    refine o_iaload (pc' := 79) (v := (.int x1)) X74 hx hZ e74 Ar (Cr.inb (by decide) (by decide)) ((Cr.at (j := (1 : Int32)) (by decide) (by decide)).trans rfl) (hb hby d5_78) rfl ?_
    refine o_aloadN (pc' := 80) X74 hx (hb hby d5_79) rfl rfl rfl ?_
    refine o_getF (pc' := 83) X74 hx hZ hown (hw _ (List.mem_of_getElem? (i := 18) rfl)) Via.refl e74 Gr (hb hby d5_80) rfl ?_
    intro T80 e80 X80
    refine o_iloadN (pc' := 84) X80 hx (hb hby d5_83) rfl rfl ?_
    refine o_iaload (pc' := 85) (v := (.int y1)) X80 hx hZ e80 Br (Dr.inb (by decide) (by decide)) ((Dr.at (j := (1 : Int32)) (by decide) (by decide)).trans rfl) (hb hby d5_84) rfl ?_
    show Ends p e below s (Q5 Z a b w r w2 r2 n0 a0' a1' b0' b1' x0 x1 y0 y1 tp up dp cw cr cw2 cr2 cn h0) ({ frames := 0, cells := 0, slots := 0, locals := 0 } : Room).cells ({ frames := 0, cells := 0, slots := 0, locals := 0 } : Room).slots (T80.setTop (mkF m 85 #[.val (.ref a), .val (.ref b), .val (.int (fg k0 x0 y0)), .val (.int (1 : Int32)), .val (.long (a1' &&& b1')), .second] [(.int y1), (.int x1)]))
    refine o_icmp_eq (p1 := 88) (p2 := 110) X80 hx (hb hby d5_85) rfl (by decide) (by decide) (fun hc85 => ?_) (fun hc85 => ?_)
    · have hf : fe x1 y1 = x1 := by rw [fe, if_pos hc85]
      have hg : fg (fg k0 x0 y0) x1 y1 = (fg k0 x0 y0) := by rw [fg, if_pos hc85]
      refine o_iinc (Ls' := #[.val (.ref a), .val (.ref b), .val (.int (fg k0 x0 y0)), .val (.int (2 : Int32)), .val (.long (a1' &&& b1')), .second]) (v' := (2 : Int32)) (pc' := 113) X80 hx (hb hby d5_110) rfl (by decide) rfl rfl ?_
      refine o_goto (pc' := 64) X80 hx (hb hby d5_113) (by decide) (by decide) ?_
      refine o_iloadN (pc' := 65) X80 hx (hb hby d5_64) rfl rfl ?_
      refine o_aloadN (pc' := 66) X80 hx (hb hby d5_65) rfl rfl rfl ?_
      refine o_getF (pc' := 69) X80 hx hZ hown (hw _ (List.mem_of_getElem? (i := 18) rfl)) Via.refl e80 Fr_ (hb hby d5_66) rfl ?_
      intro T66 e66 X66
      refine o_len (pc' := 70) (n := (2 : Int32)) X66 hx hZ e66 Ar (by rw [Cr.1]; decide) (hb hby d5_69) rfl ?_
      refine o_icmp_ge (p1 := 73) (p2 := 116) X66 hx (hb hby d5_70) rfl (by decide) (by decide) (fun hc70 => ?_) (fun hc70 => absurd hc70 (by decide))
      have J := J116
      rw [hf, hg] at J
      exact J _ _ _ _ e66 X66 (by first | exact N | simpa using N) K E Fw Fr_ Ft Fc Fd Gw Gr Gt Aw Ar Bw Br Cr
    · refine o_aloadN (pc' := 89) X80 hx (hb hby d5_88) rfl rfl rfl ?_
      refine o_getF (pc' := 92) X80 hx hZ hown (hw _ (List.mem_of_getElem? (i := 18) rfl)) Via.refl e80 Fr_ (hb hby d5_89) rfl ?_
      intro T89 e89 X89
      refine o_iloadN (pc' := 93) X89 hx (hb hby d5_92) rfl rfl ?_
      refine o_iaload (pc' := 94) (v := (.int x1)) X89 hx hZ e89 Ar (Cr.inb (by decide) (by decide)) ((Cr.at (j := (1 : Int32)) (by decide) (by decide)).trans rfl) (hb hby d5_93) rfl ?_
      refine o_iconst (v := (-1 : Int32)) (pc' := 95) X89 hx (hb hby d5_94) (by decide) rfl ?_
      refine o_icmp_ne (p1 := 98) (p2 := 101) X89 hx (hb hby d5_95) rfl (by decide) (by decide) (fun hc95 => ?_) (fun hc95 => ?_)
      · refine o_aloadN (pc' := 102) X89 hx (hb hby d5_101) rfl rfl rfl ?_
        refine o_getF (pc' := 105) X89 hx hZ hown (hw _ (List.mem_of_getElem? (i := 18) rfl)) Via.refl e89 Fr_ (hb hby d5_102) rfl ?_
        intro T102 e102 X102
        refine o_iloadN (pc' := 106) X102 hx (hb hby d5_105) rfl rfl ?_
        refine o_iconst (v := (-1 : Int32)) (pc' := 107) X102 hx (hb hby d5_106) (by decide) rfl ?_
        refine o_iastore (pc' := 108) X102 hx hZ e102 Ar (Cr.inb (by decide) (by decide)) (hb hby d5_107) rfl ?_
        intro T107 h107 e107 W107 X107
        replace N := Fr.snoc X107 N q_r
        replace K := K.wr W107 (Or.inl (by simp))
        replace E := E.wr W107
        replace Fw := Fw.other W107 (Or.inl n_a_r)
        replace Fr_ := Fr_.other W107 (Or.inl n_a_r)
        replace Ft := Ft.other W107 (Or.inl n_a_r)
        replace Fc := Fc.other W107 (Or.inl n_a_r)
        replace Fd := Fd.other W107 (Or.inl n_a_r)
        replace Gw := Gw.other W107 (Or.inl n_b_r)
        replace Gr := Gr.other W107 (Or.inl n_b_r)
        replace Gt := Gt.other W107 (Or.inl n_b_r)
        replace Aw := Aw.other W107 n_w_r
        replace Bw := Bw.other W107 (Ne.symm n_r_w2)
        replace Br := Br.other W107 (Ne.symm n_r_r2)
        replace Ar := Arr.same W107 Ar
        replace Cr : Cont _ 2 (two (.int (fe x0 y0)) (.int (-1 : Int32))) := two_of (Cr.put (Int32.toNatClampNeg (1 : Int32)) (.int (-1 : Int32))) rfl rfl
        have hf : fe x1 y1 = (-1 : Int32) := by rw [fe, if_neg hc85, if_neg hc95]
        have hg : fg (fg k0 x0 y0) x1 y1 = (1 : Int32) := by rw [fg, if_neg hc85, if_neg hc95]
        refine o_iconst (v := (1 : Int32)) (pc' := 109) X107 hx (hb hby d5_108) (by decide) rfl ?_
        refine o_istoreN (Ls' := #[.val (.ref a), .val (.ref b), .val (.int (1 : Int32)), .val (.int (1 : Int32)), .val (.long (a1' &&& b1')), .second]) (pc' := 110) X107 hx (hb hby d5_109) rfl rfl ?_
        refine o_iinc (Ls' := #[.val (.ref a), .val (.ref b), .val (.int (1 : Int32)), .val (.int (2 : Int32)), .val (.long (a1' &&& b1')), .second]) (v' := (2 : Int32)) (pc' := 113) X107 hx (hb hby d5_110) rfl (by decide) rfl rfl ?_
        refine o_goto (pc' := 64) X107 hx (hb hby d5_113) (by decide) (by decide) ?_
        refine o_iloadN (pc' := 65) X107 hx (hb hby d5_64) rfl rfl ?_
        refine o_aloadN (pc' := 66) X107 hx (hb hby d5_65) rfl rfl rfl ?_
        refine o_getF (pc' := 69) X107 hx hZ hown (hw _ (List.mem_of_getElem? (i := 18) rfl)) Via.refl e107 Fr_ (hb hby d5_66) rfl ?_
        intro T66 e66 X66
        refine o_len (pc' := 70) (n := (2 : Int32)) X66 hx hZ e66 Ar (by rw [Cr.1]; decide) (hb hby d5_69) rfl ?_
        refine o_icmp_ge (p1 := 73) (p2 := 116) X66 hx (hb hby d5_70) rfl (by decide) (by decide) (fun hc70 => ?_) (fun hc70 => absurd hc70 (by decide))
        have J := J116
        rw [hf, hg] at J
        exact J _ _ _ _ e66 X66 (by first | exact N | simpa using N) K E Fw Fr_ Ft Fc Fd Gw Gr Gt Aw Ar Bw Br Cr
      · have hf : fe x1 y1 = x1 := by rw [fe, if_neg hc85, if_pos hc95]
        have hg : fg (fg k0 x0 y0) x1 y1 = (fg k0 x0 y0) := by rw [fg, if_neg hc85, if_pos hc95]
        refine o_goto (pc' := 110) X89 hx (hb hby d5_98) (by decide) (by decide) ?_
        refine o_iinc (Ls' := #[.val (.ref a), .val (.ref b), .val (.int (fg k0 x0 y0)), .val (.int (2 : Int32)), .val (.long (a1' &&& b1')), .second]) (v' := (2 : Int32)) (pc' := 113) X89 hx (hb hby d5_110) rfl (by decide) rfl rfl ?_
        refine o_goto (pc' := 64) X89 hx (hb hby d5_113) (by decide) (by decide) ?_
        refine o_iloadN (pc' := 65) X89 hx (hb hby d5_64) rfl rfl ?_
        refine o_aloadN (pc' := 66) X89 hx (hb hby d5_65) rfl rfl rfl ?_
        refine o_getF (pc' := 69) X89 hx hZ hown (hw _ (List.mem_of_getElem? (i := 18) rfl)) Via.refl e89 Fr_ (hb hby d5_66) rfl ?_
        intro T66 e66 X66
        refine o_len (pc' := 70) (n := (2 : Int32)) X66 hx hZ e66 Ar (by rw [Cr.1]; decide) (hb hby d5_69) rfl ?_
        refine o_icmp_ge (p1 := 73) (p2 := 116) X66 hx (hb hby d5_70) rfl (by decide) (by decide) (fun hc70 => ?_) (fun hc70 => absurd hc70 (by decide))
        have J := J116
        rw [hf, hg] at J
        exact J _ _ _ _ e66 X66 (by first | exact N | simpa using N) K E Fw Fr_ Ft Fc Fd Gw Gr Gt Aw Ar Bw Br Cr
  have J64_0 : ∀ (T' : State) (h' : Heap) (L' : List Loc) (cr' : Cell), T'.heap = h' → Stand p l e ({ frames := 0, cells := 0, slots := 0, locals := 0 } : Room) s m #[(.ref a), (.ref b)] below meth c T' L' 0 0 → Fr n0 L' → Keep h0 h' [a, w, r] → Exa Z h' a "com/example/ubver/ubver/verifier/StackAndLocals$State" → Fld Z h' a "com/example/ubver/ubver/verifier/StackAndLocals$State" "written" "[J" (.ref w) → Fld Z h' a "com/example/ubver/ubver/verifier/StackAndLocals$State" "returnAddresses" "[I" (.ref r) → Fld Z h' a "com/example/ubver/ubver/verifier/StackAndLocals$State" "topReturnAddress" "I" (.int tp) → Fld Z h' a "com/example/ubver/ubver/verifier/StackAndLocals$State" "content" "J" (.long cn) → Fld Z h' a "com/example/ubver/ubver/verifier/StackAndLocals$State" "depth" "I" (.int dp) → Fld Z h' b "com/example/ubver/ubver/verifier/StackAndLocals$State" "written" "[J" (.ref w2) → Fld Z h' b "com/example/ubver/ubver/verifier/StackAndLocals$State" "returnAddresses" "[I" (.ref r2) → Fld Z h' b "com/example/ubver/ubver/verifier/StackAndLocals$State" "topReturnAddress" "I" (.int up) → Arr Z h' w cw' .long → Arr Z h' r cr' .int → Arr Z h' w2 cw2 .long → Arr Z h' r2 cr2 .int → Cont cr' 2 (two (.int x0) (.int x1)) → Ends p e below s (Q5 Z a b w r w2 r2 n0 a0' a1' b0' b1' x0 x1 y0 y1 tp up dp cw cr cw2 cr2 cn h0) ({ frames := 0, cells := 0, slots := 0, locals := 0 } : Room).cells ({ frames := 0, cells := 0, slots := 0, locals := 0 } : Room).slots (T'.setTop (mkF m 64 #[.val (.ref a), .val (.ref b), .val (.int k0), .val (.int (0 : Int32)), .val (.long (a1' &&& b1')), .second] [])) := by
    intro T' h' L' cr' e' X' N K E Fw Fr_ Ft Fc Fd Gw Gr Gt Aw Ar Bw Br Cr
    refine o_iloadN (pc' := 65) X' hx (hb hby d5_64) rfl rfl ?_
    refine o_aloadN (pc' := 66) X' hx (hb hby d5_65) rfl rfl rfl ?_
    refine o_getF (pc' := 69) X' hx hZ hown (hw _ (List.mem_of_getElem? (i := 18) rfl)) Via.refl e' Fr_ (hb hby d5_66) rfl ?_
    intro T66 e66 X66
    refine o_len (pc' := 70) (n := (2 : Int32)) X66 hx hZ e66 Ar (by rw [Cr.1]; decide) (hb hby d5_69) rfl ?_
    refine o_icmp_ge (p1 := 73) (p2 := 116) X66 hx (hb hby d5_70) rfl (by decide) (by decide) (fun hc70 => absurd (by decide) hc70) (fun hc70 => ?_)
    refine o_aloadN (pc' := 74) X66 hx (hb hby d5_73) rfl rfl rfl ?_
    refine o_getF (pc' := 77) X66 hx hZ hown (hw _ (List.mem_of_getElem? (i := 18) rfl)) Via.refl e66 Fr_ (hb hby d5_74) rfl ?_
    intro T74 e74 X74
    refine o_iloadN (pc' := 78) X74 hx (hb hby d5_77) rfl rfl ?_
    refine o_iaload (pc' := 79) (v := (.int x0)) X74 hx hZ e74 Ar (Cr.inb (by decide) (by decide)) ((Cr.at (j := (0 : Int32)) (by decide) (by decide)).trans rfl) (hb hby d5_78) rfl ?_
    refine o_aloadN (pc' := 80) X74 hx (hb hby d5_79) rfl rfl rfl ?_
    refine o_getF (pc' := 83) X74 hx hZ hown (hw _ (List.mem_of_getElem? (i := 18) rfl)) Via.refl e74 Gr (hb hby d5_80) rfl ?_
    intro T80 e80 X80
    refine o_iloadN (pc' := 84) X80 hx (hb hby d5_83) rfl rfl ?_
    refine o_iaload (pc' := 85) (v := (.int y0)) X80 hx hZ e80 Br (Dr.inb (by decide) (by decide)) ((Dr.at (j := (0 : Int32)) (by decide) (by decide)).trans rfl) (hb hby d5_84) rfl ?_
    show Ends p e below s (Q5 Z a b w r w2 r2 n0 a0' a1' b0' b1' x0 x1 y0 y1 tp up dp cw cr cw2 cr2 cn h0) ({ frames := 0, cells := 0, slots := 0, locals := 0 } : Room).cells ({ frames := 0, cells := 0, slots := 0, locals := 0 } : Room).slots (T80.setTop (mkF m 85 #[.val (.ref a), .val (.ref b), .val (.int k0), .val (.int (0 : Int32)), .val (.long (a1' &&& b1')), .second] [(.int y0), (.int x0)]))
    refine o_icmp_eq (p1 := 88) (p2 := 110) X80 hx (hb hby d5_85) rfl (by decide) (by decide) (fun hc85 => ?_) (fun hc85 => ?_)
    · have hf : fe x0 y0 = x0 := by rw [fe, if_pos hc85]
      have hg : fg k0 x0 y0 = k0 := by rw [fg, if_pos hc85]
      refine o_iinc (Ls' := #[.val (.ref a), .val (.ref b), .val (.int k0), .val (.int (1 : Int32)), .val (.long (a1' &&& b1')), .second]) (v' := (1 : Int32)) (pc' := 113) X80 hx (hb hby d5_110) rfl (by decide) rfl rfl ?_
      refine o_goto (pc' := 64) X80 hx (hb hby d5_113) (by decide) (by decide) ?_
      have J := J64_1
      rw [hf, hg] at J
      exact J _ _ _ _ e80 X80 (by first | exact N | simpa using N) K E Fw Fr_ Ft Fc Fd Gw Gr Gt Aw Ar Bw Br Cr
    · refine o_aloadN (pc' := 89) X80 hx (hb hby d5_88) rfl rfl rfl ?_
      refine o_getF (pc' := 92) X80 hx hZ hown (hw _ (List.mem_of_getElem? (i := 18) rfl)) Via.refl e80 Fr_ (hb hby d5_89) rfl ?_
      intro T89 e89 X89
      refine o_iloadN (pc' := 93) X89 hx (hb hby d5_92) rfl rfl ?_
      refine o_iaload (pc' := 94) (v := (.int x0)) X89 hx hZ e89 Ar (Cr.inb (by decide) (by decide)) ((Cr.at (j := (0 : Int32)) (by decide) (by decide)).trans rfl) (hb hby d5_93) rfl ?_
      refine o_iconst (v := (-1 : Int32)) (pc' := 95) X89 hx (hb hby d5_94) (by decide) rfl ?_
      refine o_icmp_ne (p1 := 98) (p2 := 101) X89 hx (hb hby d5_95) rfl (by decide) (by decide) (fun hc95 => ?_) (fun hc95 => ?_)
      · refine o_aloadN (pc' := 102) X89 hx (hb hby d5_101) rfl rfl rfl ?_
        refine o_getF (pc' := 105) X89 hx hZ hown (hw _ (List.mem_of_getElem? (i := 18) rfl)) Via.refl e89 Fr_ (hb hby d5_102) rfl ?_
        intro T102 e102 X102
        refine o_iloadN (pc' := 106) X102 hx (hb hby d5_105) rfl rfl ?_
        refine o_iconst (v := (-1 : Int32)) (pc' := 107) X102 hx (hb hby d5_106) (by decide) rfl ?_
        refine o_iastore (pc' := 108) X102 hx hZ e102 Ar (Cr.inb (by decide) (by decide)) (hb hby d5_107) rfl ?_
        intro T107 h107 e107 W107 X107
        replace N := Fr.snoc X107 N q_r
        replace K := K.wr W107 (Or.inl (by simp))
        replace E := E.wr W107
        replace Fw := Fw.other W107 (Or.inl n_a_r)
        replace Fr_ := Fr_.other W107 (Or.inl n_a_r)
        replace Ft := Ft.other W107 (Or.inl n_a_r)
        replace Fc := Fc.other W107 (Or.inl n_a_r)
        replace Fd := Fd.other W107 (Or.inl n_a_r)
        replace Gw := Gw.other W107 (Or.inl n_b_r)
        replace Gr := Gr.other W107 (Or.inl n_b_r)
        replace Gt := Gt.other W107 (Or.inl n_b_r)
        replace Aw := Aw.other W107 n_w_r
        replace Bw := Bw.other W107 (Ne.symm n_r_w2)
        replace Br := Br.other W107 (Ne.symm n_r_r2)
        replace Ar := Arr.same W107 Ar
        replace Cr : Cont _ 2 (two (.int (-1 : Int32)) (.int x1)) := two_of (Cr.put (Int32.toNatClampNeg (0 : Int32)) (.int (-1 : Int32))) rfl rfl
        have hf : fe x0 y0 = (-1 : Int32) := by rw [fe, if_neg hc85, if_neg hc95]
        have hg : fg k0 x0 y0 = (1 : Int32) := by rw [fg, if_neg hc85, if_neg hc95]
        refine o_iconst (v := (1 : Int32)) (pc' := 109) X107 hx (hb hby d5_108) (by decide) rfl ?_
        refine o_istoreN (Ls' := #[.val (.ref a), .val (.ref b), .val (.int (1 : Int32)), .val (.int (0 : Int32)), .val (.long (a1' &&& b1')), .second]) (pc' := 110) X107 hx (hb hby d5_109) rfl rfl ?_
        refine o_iinc (Ls' := #[.val (.ref a), .val (.ref b), .val (.int (1 : Int32)), .val (.int (1 : Int32)), .val (.long (a1' &&& b1')), .second]) (v' := (1 : Int32)) (pc' := 113) X107 hx (hb hby d5_110) rfl (by decide) rfl rfl ?_
        refine o_goto (pc' := 64) X107 hx (hb hby d5_113) (by decide) (by decide) ?_
        have J := J64_1
        rw [hf, hg] at J
        exact J _ _ _ _ e107 X107 (by first | exact N | simpa using N) K E Fw Fr_ Ft Fc Fd Gw Gr Gt Aw Ar Bw Br Cr
      · have hf : fe x0 y0 = x0 := by rw [fe, if_neg hc85, if_pos hc95]
        have hg : fg k0 x0 y0 = k0 := by rw [fg, if_neg hc85, if_pos hc95]
        refine o_goto (pc' := 110) X89 hx (hb hby d5_98) (by decide) (by decide) ?_
        refine o_iinc (Ls' := #[.val (.ref a), .val (.ref b), .val (.int k0), .val (.int (1 : Int32)), .val (.long (a1' &&& b1')), .second]) (v' := (1 : Int32)) (pc' := 113) X89 hx (hb hby d5_110) rfl (by decide) rfl rfl ?_
        refine o_goto (pc' := 64) X89 hx (hb hby d5_113) (by decide) (by decide) ?_
        have J := J64_1
        rw [hf, hg] at J
        exact J _ _ _ _ e89 X89 (by first | exact N | simpa using N) K E Fw Fr_ Ft Fc Fd Gw Gr Gt Aw Ar Bw Br Cr
  refine o_iconst (v := (0 : Int32)) (pc' := 63) X6 hx (hb hby d5_62) (by decide) rfl ?_
  refine o_istoreN (Ls' := #[.val (.ref a), .val (.ref b), .val (.int k0), .val (.int (0 : Int32)), .val (.long (a1' &&& b1')), .second]) (pc' := 64) X6 hx (hb hby d5_63) rfl rfl ?_
  exact J64_0 _ _ _ _ e6 X6 (by first | exact N | simpa using N) K E Fw Fr_ Ft Fc Fd Gw Gr Gt Aw Ar Bw Br Cr

theorem own_fe (x y : Int32) : fe x y = if x = y then x else (-1 : Int32) := by
  unfold fe
  by_cases q : x = y
  · rw [if_pos q, if_pos q]
  · rw [if_neg q, if_neg q]
    by_cases q2 : x = (-1 : Int32)
    · rw [if_pos q2, q2]
    · rw [if_neg q2]
theorem own_fg2 (k x y : Int32) : fg k x y = if fe x y = x then k else (1 : Int32) := by
  unfold fg fe
  by_cases q : x = y
  · simp only [if_pos q]; simp
  · simp only [if_neg q]
    by_cases q2 : x = (-1 : Int32)
    · simp only [if_pos q2]; simp
    · simp only [if_neg q2, if_neg (fun h : (-1 : Int32) = x => q2 h.symm)]
theorem own_fd2 (p1 p2 p3 p4 : Int64) : ((0 : Int32) ||| fd p1 p3) ||| fd p2 p4 = if p1 &&& p3 = p1 then (if p2 &&& p4 = p2 then (0 : Int32) else (1 : Int32)) else (1 : Int32) := by
  unfold fd
  by_cases a : p1 &&& p3 = p1 <;> by_cases b : p2 &&& p4 = p2 <;> simp only [if_pos, if_neg, a, b, if_true, if_false, ite_true, ite_false] <;> decide
theorem own_fin (p1 p2 p3 p4 e0_ e1_ : Int64) (x0 x1 y0 y1 tp up er0 er1 et ec : Int32) (h0 : p1 &&& p3 = e0_) (h1 : p2 &&& p4 = e1_) (her0 : er0 = (if x0 = y0 then x0 else (-1 : Int32))) (her1 : er1 = (if x1 = y1 then x1 else (-1 : Int32))) (het : et = (if tp = up then tp else (-1 : Int32))) (hec : ec = (if e0_ = p1 then (if e1_ = p2 then (if er0 = x0 then (if er1 = x1 then (if et = tp then (0 : Int32) else (1 : Int32)) else (1 : Int32)) else (1 : Int32)) else (1 : Int32)) else (1 : Int32))) :
    fm p1 p2 p3 p4 x0 x1 y0 y1 tp up = ec ∧ fe x0 y0 = er0 ∧ fe x1 y1 = er1 ∧ fe tp up = et := by
  have a0 : fe x0 y0 = er0 := by rw [own_fe, her0]
  have a1 : fe x1 y1 = er1 := by rw [own_fe, her1]
  have a2 : fe tp up = et := by rw [own_fe, het]
  refine ⟨?_, a0, a1, a2⟩
  rw [fm, own_fg2, own_fg2, own_fg2, a0, a1, a2, own_fd2, h0, h1, hec]
  by_cases c1 : e0_ = p1 <;> by_cases c2 : e1_ = p2 <;> by_cases c3 : er0 = x0 <;> by_cases c4 : er1 = x1 <;> by_cases c5 : et = tp <;> simp only [if_pos, if_neg, c1, c2, c3, c4, c5, if_true, if_false, ite_true, ite_false]
abbrev Q0 (Z : State) (p1 p2 p3 p4 : Int64) (p5 p6 : Int32) (h0 : Heap) (v : Option Value) (h : Heap) (L : List Loc) : Prop := v = some (.int (1 : Int32)) ∧ Fr h0.size L
set_option maxRecDepth 65536 in
set_option maxHeartbeats 40000000 in
theorem rm0 (l : Launch) (Z : State) (a0 : Array Value) (hw : ∀ d ∈ tables_1, d.before a0 Z = true) (p1 p2 p3 p4 : Int64) (p5 p6 : Int32) (h0 : Heap)  :
    Con l Z x code maxLocals ret room_1 #[(.long p1), (.long p2), (.long p3), (.long p4), (.int p5), (.int p6)] h0 (Q0 Z p1 p2 p3 p4 p5 p6 h0) := by
  refine Con.of pn_0 (fun p e s m below meth c T0 X0 hx hby hml hret hlk hown hnm hZ e0 => ?_)
  replace hown : s.vm.findClass "com/example/ubver/ubver/verifier/StateMergePinLaw" = some m.cls := hown
  have ef : entryFrame m #[(.long p1), (.long p2), (.long p3), (.long p4), (.int p5), (.int p6)] maxLocals = mkF m 0 #[.val (.long p1), .second, .val (.long p2), .second, .val (.long p3), .second, .val (.long p4), .second, .val (.int p5), .val (.int p6), .unset, .unset, .unset, .unset, .unset, .unset, .unset, .unset, .unset, .unset, .unset, .unset, .unset, .unset, .unset, .unset, .unset, .unset, .unset, .unset] [] := by first | (simp [entryFrame, mkF, argsToLocals, Value.category, maxLocals]; done) | rfl
  rw [ef]
  have N := Fr.nil h0.size
  refine o_new (pc' := 3) X0 hx hZ hown (hw _ (List.mem_of_getElem? (i := 0) rfl)) (hw _ (List.mem_of_getElem? (i := 1) rfl)) (hw _ (List.mem_of_getElem? (i := 2) rfl)) e0 (hb hby at_0) rfl (by decide) (by decide) ?_
  intro T00 h00 a g_a e00 E00 X_a D_a X00
  have F_a_topReturnAddress : Fld Z h00 a "com/example/ubver/ubver/verifier/StackAndLocals$State" "topReturnAddress" "I" (.int (0 : Int32)) := D_a (Or.inl (hw _ (List.mem_of_getElem? (i := 10) rfl))) (ty := .int) (by decide)
  have F_a_content : Fld Z h00 a "com/example/ubver/ubver/verifier/StackAndLocals$State" "content" "J" (.long (0 : Int64)) := D_a (Or.inl (hw _ (List.mem_of_getElem? (i := 13) rfl))) (ty := .long) (by decide)
  have F_a_written : Fld Z h00 a "com/example/ubver/ubver/verifier/StackAndLocals$State" "written" "[J" .null := D_a (Or.inr (hw _ (List.mem_of_getElem? (i := 16) rfl))) (ty := (.array .long)) (by decide)
  have F_a_returnAddresses : Fld Z h00 a "com/example/ubver/ubver/verifier/StackAndLocals$State" "returnAddresses" "[I" .null := D_a (Or.inr (hw _ (List.mem_of_getElem? (i := 19) rfl))) (ty := (.array .int)) (by decide)
  have F_a_depth : Fld Z h00 a "com/example/ubver/ubver/verifier/StackAndLocals$State" "depth" "I" (.int (0 : Int32)) := D_a (Or.inl (hw _ (List.mem_of_getElem? (i := 25) rfl))) (ty := .int) (by decide)
  have q_a : h0.size ≤ a := Nat.le_of_eq g_a.symm
  have Zn_a : h0.size ≤ h00.size := E00.1
  refine o_dup (pc' := 4) X00 hx (hb hby at_3) rfl rfl ?_
  refine o_sipush (v := (128 : Int32)) (pc' := 7) X00 hx (hb hby at_4) (by decide) rfl ?_
  refine o_iconst (v := (2 : Int32)) (pc' := 8) X00 hx (hb hby at_7) (by decide) rfl ?_
  refine o_callC (W := 1) (pc' := 11) (rm := ({ frames := 1, cells := 2, slots := 4, locals := 16 } : Room)) (a := a) (argsL := [(.int (128 : Int32)), (.int (2 : Int32))]) (rest := [(.ref a)]) X00 hx hZ rfl hown (hw _ (List.mem_of_getElem? (i := 3) rfl)) (hw _ (List.mem_of_getElem? (i := 4) rfl)) (hw _ (List.mem_of_getElem? (i := 2) rfl)) (hw _ (List.mem_of_getElem? (i := 5) rfl)) (by decide) e00 (rm1 l Z a0 hw a h0.size h00 q_a Zn_a X_a F_a_topReturnAddress F_a_content F_a_written F_a_returnAddresses F_a_depth) (by rw [hml]; rfl) pd_1 rfl rfl (hb hby at_8) rfl (by decide) rfl (by decide) (by decide) (by decide) ?_
  rintro _ T8 L8 ⟨rfl, N_a, K_a, w, r, cw, cr, zw, zr, n_w_r, H_a_topReturnAddress, H_a_content, H_a_written, H_a_returnAddresses, H_a_depth, Aw, Cw, Ar, Cr⟩ X8
  show Ends p e below s (Q0 Z p1 p2 p3 p4 p5 p6 h0) room_1.cells room_1.slots (T8.setTop (mkF m 11 #[.val (.long p1), .second, .val (.long p2), .second, .val (.long p3), .second, .val (.long p4), .second, .val (.int p5), .val (.int p6), .unset, .unset, .unset, .unset, .unset, .unset, .unset, .unset, .unset, .unset, .unset, .unset, .unset, .unset, .unset, .unset, .unset, .unset, .unset, .unset] [(.ref a)]))
  replace N := N.app N_a
  have Z_a : h0.size ≤ T8.heap.size := Nat.le_trans Zn_a K_a.1
  have n_a_w : a ≠ w := Nat.ne_of_lt (Nat.lt_of_lt_of_le X_a.lt zw)
  have n_a_r : a ≠ r := Nat.ne_of_lt (Nat.lt_of_lt_of_le X_a.lt zr)
  replace X_a := X_a.keep K_a
  refine o_astore (Ls' := #[.val (.long p1), .second, .val (.long p2), .second, .val (.long p3), .second, .val (.long p4), .second, .val (.int p5), .val (.int p6), .val (.ref a), .unset, .unset, .unset, .unset, .unset, .unset, .unset, .unset, .unset, .unset, .unset, .unset, .unset, .unset, .unset, .unset, .unset, .unset, .unset]) (pc' := 13) X8 hx (hb hby at_11) rfl rfl rfl ?_
  refine o_new (pc' := 16) X8 hx hZ hown (hw _ (List.mem_of_getElem? (i := 0) rfl)) (hw _ (List.mem_of_getElem? (i := 1) rfl)) (hw _ (List.mem_of_getElem? (i := 2) rfl)) rfl (hb hby at_13) rfl (by decide) (by decide) ?_
  intro T13 h13 b g_b e13 E13 X_b D_b X13
  have n_a_b : a ≠ b := by rw [g_b]; exact Nat.ne_of_lt X_a.lt
  have n_w_b : w ≠ b := by rw [g_b]; exact Nat.ne_of_lt Aw.lt
  have n_r_b : r ≠ b := by rw [g_b]; exact Nat.ne_of_lt Ar.lt
  replace X_a := X_a.ext E13
  replace H_a_topReturnAddress := H_a_topReturnAddress.ext E13
  replace H_a_content := H_a_content.ext E13
  replace H_a_written := H_a_written.ext E13
  replace H_a_returnAddresses := H_a_returnAddresses.ext E13
  replace H_a_depth := H_a_depth.ext E13
  replace Aw := Aw.ext E13
  replace Ar := Ar.ext E13
  have F_b_topReturnAddress : Fld Z h13 b "com/example/ubver/ubver/verifier/StackAndLocals$State" "topReturnAddress" "I" (.int (0 : Int32)) := D_b (Or.inl (hw _ (List.mem_of_getElem? (i := 10) rfl))) (ty := .int) (by decide)
  have F_b_content : Fld Z h13 b "com/example/ubver/ubver/verifier/StackAndLocals$State" "content" "J" (.long (0 : Int64)) := D_b (Or.inl (hw _ (List.mem_of_getElem? (i := 13) rfl))) (ty := .long) (by decide)
  have F_b_written : Fld Z h13 b "com/example/ubver/ubver/verifier/StackAndLocals$State" "written" "[J" .null := D_b (Or.inr (hw _ (List.mem_of_getElem? (i := 16) rfl))) (ty := (.array .long)) (by decide)
  have F_b_returnAddresses : Fld Z h13 b "com/example/ubver/ubver/verifier/StackAndLocals$State" "returnAddresses" "[I" .null := D_b (Or.inr (hw _ (List.mem_of_getElem? (i := 19) rfl))) (ty := (.array .int)) (by decide)
  have F_b_depth : Fld Z h13 b "com/example/ubver/ubver/verifier/StackAndLocals$State" "depth" "I" (.int (0 : Int32)) := D_b (Or.inl (hw _ (List.mem_of_getElem? (i := 25) rfl))) (ty := .int) (by decide)
  have q_b : h0.size ≤ b := by rw [g_b]; exact Z_a
  have Zn_b : h0.size ≤ h13.size := Nat.le_trans Z_a E13.1
  refine o_dup (pc' := 17) X13 hx (hb hby at_16) rfl rfl ?_
  refine o_sipush (v := (128 : Int32)) (pc' := 20) X13 hx (hb hby at_17) (by decide) rfl ?_
  refine o_iconst (v := (2 : Int32)) (pc' := 21) X13 hx (hb hby at_20) (by decide) rfl ?_
  refine o_callC (W := 1) (pc' := 24) (rm := ({ frames := 1, cells := 2, slots := 4, locals := 16 } : Room)) (a := b) (argsL := [(.int (128 : Int32)), (.int (2 : Int32))]) (rest := [(.ref b)]) X13 hx hZ rfl hown (hw _ (List.mem_of_getElem? (i := 3) rfl)) (hw _ (List.mem_of_getElem? (i := 4) rfl)) (hw _ (List.mem_of_getElem? (i := 2) rfl)) (hw _ (List.mem_of_getElem? (i := 5) rfl)) (by decide) e13 (rm1 l Z a0 hw b h0.size h13 q_b Zn_b X_b F_b_topReturnAddress F_b_content F_b_written F_b_returnAddresses F_b_depth) (by rw [hml]; rfl) pd_1 rfl rfl (hb hby at_21) rfl (by decide) rfl (by decide) (by decide) (by decide) ?_
  rintro _ T21 L21 ⟨rfl, N_b, K_b, w2, r2, cw2, cr2, zw2, zr2, n_w2_r2, H_b_topReturnAddress, H_b_content, H_b_written, H_b_returnAddresses, H_b_depth, Aw2, Cw2, Ar2, Cr2⟩ X21
  show Ends p e below s (Q0 Z p1 p2 p3 p4 p5 p6 h0) room_1.cells room_1.slots (T21.setTop (mkF m 24 #[.val (.long p1), .second, .val (.long p2), .second, .val (.long p3), .second, .val (.long p4), .second, .val (.int p5), .val (.int p6), .val (.ref a), .unset, .unset, .unset, .unset, .unset, .unset, .unset, .unset, .unset, .unset, .unset, .unset, .unset, .unset, .unset, .unset, .unset, .unset, .unset] [(.ref b)]))
  replace N := N.app N_b
  have Z_b : h0.size ≤ T21.heap.size := Nat.le_trans Zn_b K_b.1
  have n_b_w2 : b ≠ w2 := Nat.ne_of_lt (Nat.lt_of_lt_of_le X_b.lt zw2)
  have n_b_r2 : b ≠ r2 := Nat.ne_of_lt (Nat.lt_of_lt_of_le X_b.lt zr2)
  have n_a_w2 : a ≠ w2 := Nat.ne_of_lt (Nat.lt_of_lt_of_le X_a.lt zw2)
  have n_w_w2 : w ≠ w2 := Nat.ne_of_lt (Nat.lt_of_lt_of_le Aw.lt zw2)
  have n_r_w2 : r ≠ w2 := Nat.ne_of_lt (Nat.lt_of_lt_of_le Ar.lt zw2)
  have n_a_r2 : a ≠ r2 := Nat.ne_of_lt (Nat.lt_of_lt_of_le X_a.lt zr2)
  have n_w_r2 : w ≠ r2 := Nat.ne_of_lt (Nat.lt_of_lt_of_le Aw.lt zr2)
  have n_r_r2 : r ≠ r2 := Nat.ne_of_lt (Nat.lt_of_lt_of_le Ar.lt zr2)
  replace X_a := X_a.keep K_b
  replace H_a_topReturnAddress := H_a_topReturnAddress.keep K_b (ninS n_a_b nin0)
  replace H_a_content := H_a_content.keep K_b (ninS n_a_b nin0)
  replace H_a_written := H_a_written.keep K_b (ninS n_a_b nin0)
  replace H_a_returnAddresses := H_a_returnAddresses.keep K_b (ninS n_a_b nin0)
  replace H_a_depth := H_a_depth.keep K_b (ninS n_a_b nin0)
  replace Aw := own_arrK Aw K_b (ninS n_w_b nin0)
  replace Ar := own_arrK Ar K_b (ninS n_r_b nin0)
  replace X_b := X_b.keep K_b
  refine o_astore (Ls' := #[.val (.long p1), .second, .val (.long p2), .second, .val (.long p3), .second, .val (.long p4), .second, .val (.int p5), .val (.int p6), .val (.ref a), .val (.ref b), .unset, .unset, .unset, .unset, .unset, .unset, .unset, .unset, .unset, .unset, .unset, .unset, .unset, .unset, .unset, .unset, .unset, .unset]) (pc' := 26) X21 hx (hb hby at_24) rfl rfl rfl ?_
  refine o_iload (pc' := 28) X21 hx (hb hby at_26) rfl rfl ?_
  refine o_bipush (v := (12 : Int32)) (pc' := 30) X21 hx (hb hby at_28) (by decide) rfl ?_
  refine o_ishr (pc' := 31) X21 hx (hb hby at_30) rfl ?_
  generalize hdp : p5 >>> ((12 : Int32) &&& 31) = dp
  refine o_istore (Ls' := #[.val (.long p1), .second, .val (.long p2), .second, .val (.long p3), .second, .val (.long p4), .second, .val (.int p5), .val (.int p6), .val (.ref a), .val (.ref b), .val (.int dp), .unset, .unset, .unset, .unset, .unset, .unset, .unset, .unset, .unset, .unset, .unset, .unset, .unset, .unset, .unset, .unset, .unset]) (pc' := 33) X21 hx (hb hby at_31) rfl rfl ?_
  refine o_aload (pc' := 35) X21 hx (hb hby at_33) rfl rfl rfl ?_
  refine o_iload (pc' := 37) X21 hx (hb hby at_35) rfl rfl ?_
  refine o_putF (pc' := 40) (ty := .int) X21 hx hZ hown (hw _ (List.mem_of_getElem? (i := 24) rfl)) Via.refl rfl H_a_depth X_a (Or.inl (hw _ (List.mem_of_getElem? (i := 25) rfl))) (hw _ (List.mem_of_getElem? (i := 1) rfl)) (by decide) rfl rfl (hb hby at_37) rfl ?_
  intro T37 h37 e37 W37 X37
  replace N := Fr.snoc X37 N q_a
  replace X_a := X_a.wr W37
  replace H_a_topReturnAddress := H_a_topReturnAddress.other W37 (Or.inr (slot_ne (C := "com/example/ubver/ubver/verifier/StackAndLocals$State") (t := .int) (t' := .int) (Or.inl (hw _ (List.mem_of_getElem? (i := 10) rfl))) (Or.inl (hw _ (List.mem_of_getElem? (i := 25) rfl))) (by decide) (by decide) (by decide)))
  replace H_a_content := H_a_content.other W37 (Or.inr (slot_ne (C := "com/example/ubver/ubver/verifier/StackAndLocals$State") (t := .long) (t' := .int) (Or.inl (hw _ (List.mem_of_getElem? (i := 13) rfl))) (Or.inl (hw _ (List.mem_of_getElem? (i := 25) rfl))) (by decide) (by decide) (by decide)))
  replace H_a_written := H_a_written.other W37 (Or.inr (slot_ne (C := "com/example/ubver/ubver/verifier/StackAndLocals$State") (t := (.array .long)) (t' := .int) (Or.inr (hw _ (List.mem_of_getElem? (i := 16) rfl))) (Or.inl (hw _ (List.mem_of_getElem? (i := 25) rfl))) (by decide) (by decide) (by decide)))
  replace H_a_returnAddresses := H_a_returnAddresses.other W37 (Or.inr (slot_ne (C := "com/example/ubver/ubver/verifier/StackAndLocals$State") (t := (.array .int)) (t' := .int) (Or.inr (hw _ (List.mem_of_getElem? (i := 19) rfl))) (Or.inl (hw _ (List.mem_of_getElem? (i := 25) rfl))) (by decide) (by decide) (by decide)))
  replace H_a_depth := H_a_depth.same W37
  replace Aw := Aw.other W37 (Ne.symm n_a_w)
  replace Ar := Ar.other W37 (Ne.symm n_a_r)
  replace X_b := X_b.wr W37
  replace H_b_topReturnAddress := H_b_topReturnAddress.other W37 (Or.inl (Ne.symm n_a_b))
  replace H_b_content := H_b_content.other W37 (Or.inl (Ne.symm n_a_b))
  replace H_b_written := H_b_written.other W37 (Or.inl (Ne.symm n_a_b))
  replace H_b_returnAddresses := H_b_returnAddresses.other W37 (Or.inl (Ne.symm n_a_b))
  replace H_b_depth := H_b_depth.other W37 (Or.inl (Ne.symm n_a_b))
  replace Aw2 := Aw2.other W37 (Ne.symm n_a_w2)
  replace Ar2 := Ar2.other W37 (Ne.symm n_a_r2)
  refine o_aload (pc' := 42) X37 hx (hb hby at_40) rfl rfl rfl ?_
  refine o_iload (pc' := 44) X37 hx (hb hby at_42) rfl rfl ?_
  refine o_putF (pc' := 47) (ty := .int) X37 hx hZ hown (hw _ (List.mem_of_getElem? (i := 24) rfl)) Via.refl e37 H_b_depth X_b (Or.inl (hw _ (List.mem_of_getElem? (i := 25) rfl))) (hw _ (List.mem_of_getElem? (i := 1) rfl)) (by decide) rfl rfl (hb hby at_44) rfl ?_
  intro T44 h44 e44 W44 X44
  replace N := Fr.snoc X44 N q_b
  replace X_a := X_a.wr W44
  replace H_a_topReturnAddress := H_a_topReturnAddress.other W44 (Or.inl n_a_b)
  replace H_a_content := H_a_content.other W44 (Or.inl n_a_b)
  replace H_a_written := H_a_written.other W44 (Or.inl n_a_b)
  replace H_a_returnAddresses := H_a_returnAddresses.other W44 (Or.inl n_a_b)
  replace H_a_depth := H_a_depth.other W44 (Or.inl n_a_b)
  replace Aw := Aw.other W44 n_w_b
  replace Ar := Ar.other W44 n_r_b
  replace X_b := X_b.wr W44
  replace H_b_topReturnAddress := H_b_topReturnAddress.other W44 (Or.inr (slot_ne (C := "com/example/ubver/ubver/verifier/StackAndLocals$State") (t := .int) (t' := .int) (Or.inl (hw _ (List.mem_of_getElem? (i := 10) rfl))) (Or.inl (hw _ (List.mem_of_getElem? (i := 25) rfl))) (by decide) (by decide) (by decide)))
  replace H_b_content := H_b_content.other W44 (Or.inr (slot_ne (C := "com/example/ubver/ubver/verifier/StackAndLocals$State") (t := .long) (t' := .int) (Or.inl (hw _ (List.mem_of_getElem? (i := 13) rfl))) (Or.inl (hw _ (List.mem_of_getElem? (i := 25) rfl))) (by decide) (by decide) (by decide)))
  replace H_b_written := H_b_written.other W44 (Or.inr (slot_ne (C := "com/example/ubver/ubver/verifier/StackAndLocals$State") (t := (.array .long)) (t' := .int) (Or.inr (hw _ (List.mem_of_getElem? (i := 16) rfl))) (Or.inl (hw _ (List.mem_of_getElem? (i := 25) rfl))) (by decide) (by decide) (by decide)))
  replace H_b_returnAddresses := H_b_returnAddresses.other W44 (Or.inr (slot_ne (C := "com/example/ubver/ubver/verifier/StackAndLocals$State") (t := (.array .int)) (t' := .int) (Or.inr (hw _ (List.mem_of_getElem? (i := 19) rfl))) (Or.inl (hw _ (List.mem_of_getElem? (i := 25) rfl))) (by decide) (by decide) (by decide)))
  replace H_b_depth := H_b_depth.same W44
  replace Aw2 := Aw2.other W44 (Ne.symm n_b_w2)
  replace Ar2 := Ar2.other W44 (Ne.symm n_b_r2)
  refine o_aload (pc' := 49) X44 hx (hb hby at_47) rfl rfl rfl ?_
  refine o_getF (pc' := 52) X44 hx hZ hown (hw _ (List.mem_of_getElem? (i := 26) rfl)) Via.refl e44 H_a_written (hb hby at_49) rfl ?_
  intro T49 e49 X49
  refine o_iconst (v := (0 : Int32)) (pc' := 53) X49 hx (hb hby at_52) (by decide) rfl ?_
  refine o_lloadN (pc' := 54) X49 hx (hb hby at_53) rfl rfl ?_
  refine o_lastore (pc' := 55) X49 hx hZ e49 Aw (Cw.inb (by decide) (by decide)) (hb hby at_54) rfl ?_
  intro T54 h54 e54 W54 X54
  replace N := Fr.snoc X54 N (Nat.le_trans Zn_a zw)
  replace X_a := X_a.wr W54
  replace H_a_topReturnAddress := H_a_topReturnAddress.other W54 (Or.inl n_a_w)
  replace H_a_content := H_a_content.other W54 (Or.inl n_a_w)
  replace H_a_written := H_a_written.other W54 (Or.inl n_a_w)
  replace H_a_returnAddresses := H_a_returnAddresses.other W54 (Or.inl n_a_w)
  replace H_a_depth := H_a_depth.other W54 (Or.inl n_a_w)
  replace Ar := Ar.other W54 (Ne.symm n_w_r)
  replace X_b := X_b.wr W54
  replace H_b_topReturnAddress := H_b_topReturnAddress.other W54 (Or.inl (Ne.symm n_w_b))
  replace H_b_content := H_b_content.other W54 (Or.inl (Ne.symm n_w_b))
  replace H_b_written := H_b_written.other W54 (Or.inl (Ne.symm n_w_b))
  replace H_b_returnAddresses := H_b_returnAddresses.other W54 (Or.inl (Ne.symm n_w_b))
  replace H_b_depth := H_b_depth.other W54 (Or.inl (Ne.symm n_w_b))
  replace Aw2 := Aw2.other W54 (Ne.symm n_w_w2)
  replace Ar2 := Ar2.other W54 (Ne.symm n_w_r2)
  replace Aw := Arr.same W54 Aw
  replace Cw : Cont _ 2 (two (.long p1) (.long (0 : Int64))) := two_of (Cw.put (Int32.toNatClampNeg (0 : Int32)) (.long p1)) rfl rfl
  refine o_aload (pc' := 57) X54 hx (hb hby at_55) rfl rfl rfl ?_
  refine o_getF (pc' := 60) X54 hx hZ hown (hw _ (List.mem_of_getElem? (i := 26) rfl)) Via.refl e54 H_a_written (hb hby at_57) rfl ?_
  intro T57 e57 X57
  refine o_iconst (v := (1 : Int32)) (pc' := 61) X57 hx (hb hby at_60) (by decide) rfl ?_
  refine o_lloadN (pc' := 62) X57 hx (hb hby at_61) rfl rfl ?_
  refine o_lastore (pc' := 63) X57 hx hZ e57 Aw (Cw.inb (by decide) (by decide)) (hb hby at_62) rfl ?_
  intro T62 h62 e62 W62 X62
  replace N := Fr.snoc X62 N (Nat.le_trans Zn_a zw)
  replace X_a := X_a.wr W62
  replace H_a_topReturnAddress := H_a_topReturnAddress.other W62 (Or.inl n_a_w)
  replace H_a_content := H_a_content.other W62 (Or.inl n_a_w)
  replace H_a_written := H_a_written.other W62 (Or.inl n_a_w)
  replace H_a_returnAddresses := H_a_returnAddresses.other W62 (Or.inl n_a_w)
  replace H_a_depth := H_a_depth.other W62 (Or.inl n_a_w)
  replace Ar := Ar.other W62 (Ne.symm n_w_r)
  replace X_b := X_b.wr W62
  replace H_b_topReturnAddress := H_b_topReturnAddress.other W62 (Or.inl (Ne.symm n_w_b))
  replace H_b_content := H_b_content.other W62 (Or.inl (Ne.symm n_w_b))
  replace H_b_written := H_b_written.other W62 (Or.inl (Ne.symm n_w_b))
  replace H_b_returnAddresses := H_b_returnAddresses.other W62 (Or.inl (Ne.symm n_w_b))
  replace H_b_depth := H_b_depth.other W62 (Or.inl (Ne.symm n_w_b))
  replace Aw2 := Aw2.other W62 (Ne.symm n_w_w2)
  replace Ar2 := Ar2.other W62 (Ne.symm n_w_r2)
  replace Aw := Arr.same W62 Aw
  replace Cw : Cont _ 2 (two (.long p1) (.long p2)) := two_of (Cw.put (Int32.toNatClampNeg (1 : Int32)) (.long p2)) rfl rfl
  refine o_aload (pc' := 65) X62 hx (hb hby at_63) rfl rfl rfl ?_
  refine o_getF (pc' := 68) X62 hx hZ hown (hw _ (List.mem_of_getElem? (i := 26) rfl)) Via.refl e62 H_b_written (hb hby at_65) rfl ?_
  intro T65 e65 X65
  refine o_iconst (v := (0 : Int32)) (pc' := 69) X65 hx (hb hby at_68) (by decide) rfl ?_
  refine o_lload (pc' := 71) X65 hx (hb hby at_69) rfl rfl ?_
  refine o_lastore (pc' := 72) X65 hx hZ e65 Aw2 (Cw2.inb (by decide) (by decide)) (hb hby at_71) rfl ?_
  intro T71 h71 e71 W71 X71
  replace N := Fr.snoc X71 N (Nat.le_trans Zn_b zw2)
  replace X_a := X_a.wr W71
  replace H_a_topReturnAddress := H_a_topReturnAddress.other W71 (Or.inl n_a_w2)
  replace H_a_content := H_a_content.other W71 (Or.inl n_a_w2)
  replace H_a_written := H_a_written.other W71 (Or.inl n_a_w2)
  replace H_a_returnAddresses := H_a_returnAddresses.other W71 (Or.inl n_a_w2)
  replace H_a_depth := H_a_depth.other W71 (Or.inl n_a_w2)
  replace Aw := Aw.other W71 n_w_w2
  replace Ar := Ar.other W71 n_r_w2
  replace X_b := X_b.wr W71
  replace H_b_topReturnAddress := H_b_topReturnAddress.other W71 (Or.inl n_b_w2)
  replace H_b_content := H_b_content.other W71 (Or.inl n_b_w2)
  replace H_b_written := H_b_written.other W71 (Or.inl n_b_w2)
  replace H_b_returnAddresses := H_b_returnAddresses.other W71 (Or.inl n_b_w2)
  replace H_b_depth := H_b_depth.other W71 (Or.inl n_b_w2)
  replace Ar2 := Ar2.other W71 (Ne.symm n_w2_r2)
  replace Aw2 := Arr.same W71 Aw2
  replace Cw2 : Cont _ 2 (two (.long p3) (.long (0 : Int64))) := two_of (Cw2.put (Int32.toNatClampNeg (0 : Int32)) (.long p3)) rfl rfl
  refine o_aload (pc' := 74) X71 hx (hb hby at_72) rfl rfl rfl ?_
  refine o_getF (pc' := 77) X71 hx hZ hown (hw _ (List.mem_of_getElem? (i := 26) rfl)) Via.refl e71 H_b_written (hb hby at_74) rfl ?_
  intro T74 e74 X74
  refine o_iconst (v := (1 : Int32)) (pc' := 78) X74 hx (hb hby at_77) (by decide) rfl ?_
  refine o_lload (pc' := 80) X74 hx (hb hby at_78) rfl rfl ?_
  refine o_lastore (pc' := 81) X74 hx hZ e74 Aw2 (Cw2.inb (by decide) (by decide)) (hb hby at_80) rfl ?_
  intro T80 h80 e80 W80 X80
  replace N := Fr.snoc X80 N (Nat.le_trans Zn_b zw2)
  replace X_a := X_a.wr W80
  replace H_a_topReturnAddress := H_a_topReturnAddress.other W80 (Or.inl n_a_w2)
  replace H_a_content := H_a_content.other W80 (Or.inl n_a_w2)
  replace H_a_written := H_a_written.other W80 (Or.inl n_a_w2)
  replace H_a_returnAddresses := H_a_returnAddresses.other W80 (Or.inl n_a_w2)
  replace H_a_depth := H_a_depth.other W80 (Or.inl n_a_w2)
  replace Aw := Aw.other W80 n_w_w2
  replace Ar := Ar.other W80 n_r_w2
  replace X_b := X_b.wr W80
  replace H_b_topReturnAddress := H_b_topReturnAddress.other W80 (Or.inl n_b_w2)
  replace H_b_content := H_b_content.other W80 (Or.inl n_b_w2)
  replace H_b_written := H_b_written.other W80 (Or.inl n_b_w2)
  replace H_b_returnAddresses := H_b_returnAddresses.other W80 (Or.inl n_b_w2)
  replace H_b_depth := H_b_depth.other W80 (Or.inl n_b_w2)
  replace Ar2 := Ar2.other W80 (Ne.symm n_w2_r2)
  replace Aw2 := Arr.same W80 Aw2
  replace Cw2 : Cont _ 2 (two (.long p3) (.long p4)) := two_of (Cw2.put (Int32.toNatClampNeg (1 : Int32)) (.long p4)) rfl rfl
  refine o_iload (pc' := 83) X80 hx (hb hby at_81) rfl rfl ?_
  refine o_callS (W := 0) (pc' := 86) (rm := ({ frames := 0, cells := 0, slots := 0, locals := 0 } : Room)) (argsL := [(.int p5)]) (rest := []) X80 hx hZ hown (hw _ (List.mem_of_getElem? (i := 27) rfl)) (hw _ (List.mem_of_getElem? (i := 28) rfl)) (hw _ (List.mem_of_getElem? (i := 29) rfl)) (hw _ (List.mem_of_getElem? (i := 30) rfl)) (by decide) e80 (rm4 l Z a0 hw p5 h80) (by rw [hml]; rfl) pd_4 rfl rfl (hb hby at_83) rfl (by decide) rfl (by decide) (by decide) (by decide) ?_
  rintro _ T83 L83 ⟨rfl, rfl, e83⟩ X83
  show Ends p e below s (Q0 Z p1 p2 p3 p4 p5 p6 h0) room_1.cells room_1.slots (T83.setTop (mkF m 86 #[.val (.long p1), .second, .val (.long p2), .second, .val (.long p3), .second, .val (.long p4), .second, .val (.int p5), .val (.int p6), .val (.ref a), .val (.ref b), .val (.int dp), .unset, .unset, .unset, .unset, .unset, .unset, .unset, .unset, .unset, .unset, .unset, .unset, .unset, .unset, .unset, .unset, .unset] [(.int ((p5 &&& (7 : Int32)) - (1 : Int32)))]))
  generalize hx0 : (p5 &&& (7 : Int32)) - (1 : Int32) = x0
  replace N := N.app (Fr.nil _)
  refine o_istore (Ls' := #[.val (.long p1), .second, .val (.long p2), .second, .val (.long p3), .second, .val (.long p4), .second, .val (.int p5), .val (.int p6), .val (.ref a), .val (.ref b), .val (.int dp), .val (.int x0), .unset, .unset, .unset, .unset, .unset, .unset, .unset, .unset, .unset, .unset, .unset, .unset, .unset, .unset, .unset, .unset]) (pc' := 88) X83 hx (hb hby at_86) rfl rfl ?_
  refine o_iload (pc' := 90) X83 hx (hb hby at_88) rfl rfl ?_
  refine o_iconst (v := (3 : Int32)) (pc' := 91) X83 hx (hb hby at_90) (by decide) rfl ?_
  refine o_iushr (pc' := 92) X83 hx (hb hby at_91) rfl ?_
  refine o_callS (W := 0) (pc' := 95) (rm := ({ frames := 0, cells := 0, slots := 0, locals := 0 } : Room)) (argsL := [(.int ((p5.toUInt32 >>> ((3 : Int32) &&& 31).toUInt32).toInt32))]) (rest := []) X83 hx hZ hown (hw _ (List.mem_of_getElem? (i := 27) rfl)) (hw _ (List.mem_of_getElem? (i := 28) rfl)) (hw _ (List.mem_of_getElem? (i := 29) rfl)) (hw _ (List.mem_of_getElem? (i := 30) rfl)) (by decide) e83 (rm4 l Z a0 hw ((p5.toUInt32 >>> ((3 : Int32) &&& 31).toUInt32).toInt32) h80) (by rw [hml]; rfl) pd_4 rfl rfl (hb hby at_92) rfl (by decide) rfl (by decide) (by decide) (by decide) ?_
  rintro _ T92 L92 ⟨rfl, rfl, e92⟩ X92
  show Ends p e below s (Q0 Z p1 p2 p3 p4 p5 p6 h0) room_1.cells room_1.slots (T92.setTop (mkF m 95 #[.val (.long p1), .second, .val (.long p2), .second, .val (.long p3), .second, .val (.long p4), .second, .val (.int p5), .val (.int p6), .val (.ref a), .val (.ref b), .val (.int dp), .val (.int x0), .unset, .unset, .unset, .unset, .unset, .unset, .unset, .unset, .unset, .unset, .unset, .unset, .unset, .unset, .unset, .unset] [(.int ((((p5.toUInt32 >>> ((3 : Int32) &&& 31).toUInt32).toInt32) &&& (7 : Int32)) - (1 : Int32)))]))
  generalize hx1 : (((p5.toUInt32 >>> ((3 : Int32) &&& 31).toUInt32).toInt32) &&& (7 : Int32)) - (1 : Int32) = x1
  replace N := N.app (Fr.nil _)
  refine o_istore (Ls' := #[.val (.long p1), .second, .val (.long p2), .second, .val (.long p3), .second, .val (.long p4), .second, .val (.int p5), .val (.int p6), .val (.ref a), .val (.ref b), .val (.int dp), .val (.int x0), .val (.int x1), .unset, .unset, .unset, .unset, .unset, .unset, .unset, .unset, .unset, .unset, .unset, .unset, .unset, .unset, .unset]) (pc' := 97) X92 hx (hb hby at_95) rfl rfl ?_
  refine o_iload (pc' := 99) X92 hx (hb hby at_97) rfl rfl ?_
  refine o_bipush (v := (6 : Int32)) (pc' := 101) X92 hx (hb hby at_99) (by decide) rfl ?_
  refine o_iushr (pc' := 102) X92 hx (hb hby at_101) rfl ?_
  refine o_callS (W := 0) (pc' := 105) (rm := ({ frames := 0, cells := 0, slots := 0, locals := 0 } : Room)) (argsL := [(.int ((p5.toUInt32 >>> ((6 : Int32) &&& 31).toUInt32).toInt32))]) (rest := []) X92 hx hZ hown (hw _ (List.mem_of_getElem? (i := 27) rfl)) (hw _ (List.mem_of_getElem? (i := 28) rfl)) (hw _ (List.mem_of_getElem? (i := 29) rfl)) (hw _ (List.mem_of_getElem? (i := 30) rfl)) (by decide) e92 (rm4 l Z a0 hw ((p5.toUInt32 >>> ((6 : Int32) &&& 31).toUInt32).toInt32) h80) (by rw [hml]; rfl) pd_4 rfl rfl (hb hby at_102) rfl (by decide) rfl (by decide) (by decide) (by decide) ?_
  rintro _ T102 L102 ⟨rfl, rfl, e102⟩ X102
  show Ends p e below s (Q0 Z p1 p2 p3 p4 p5 p6 h0) room_1.cells room_1.slots (T102.setTop (mkF m 105 #[.val (.long p1), .second, .val (.long p2), .second, .val (.long p3), .second, .val (.long p4), .second, .val (.int p5), .val (.int p6), .val (.ref a), .val (.ref b), .val (.int dp), .val (.int x0), .val (.int x1), .unset, .unset, .unset, .unset, .unset, .unset, .unset, .unset, .unset, .unset, .unset, .unset, .unset, .unset, .unset] [(.int ((((p5.toUInt32 >>> ((6 : Int32) &&& 31).toUInt32).toInt32) &&& (7 : Int32)) - (1 : Int32)))]))
  generalize hy0 : (((p5.toUInt32 >>> ((6 : Int32) &&& 31).toUInt32).toInt32) &&& (7 : Int32)) - (1 : Int32) = y0
  replace N := N.app (Fr.nil _)
  refine o_istore (Ls' := #[.val (.long p1), .second, .val (.long p2), .second, .val (.long p3), .second, .val (.long p4), .second, .val (.int p5), .val (.int p6), .val (.ref a), .val (.ref b), .val (.int dp), .val (.int x0), .val (.int x1), .val (.int y0), .unset, .unset, .unset, .unset, .unset, .unset, .unset, .unset, .unset, .unset, .unset, .unset, .unset, .unset]) (pc' := 107) X102 hx (hb hby at_105) rfl rfl ?_
  refine o_iload (pc' := 109) X102 hx (hb hby at_107) rfl rfl ?_
  refine o_bipush (v := (9 : Int32)) (pc' := 111) X102 hx (hb hby at_109) (by decide) rfl ?_
  refine o_iushr (pc' := 112) X102 hx (hb hby at_111) rfl ?_
  refine o_callS (W := 0) (pc' := 115) (rm := ({ frames := 0, cells := 0, slots := 0, locals := 0 } : Room)) (argsL := [(.int ((p5.toUInt32 >>> ((9 : Int32) &&& 31).toUInt32).toInt32))]) (rest := []) X102 hx hZ hown (hw _ (List.mem_of_getElem? (i := 27) rfl)) (hw _ (List.mem_of_getElem? (i := 28) rfl)) (hw _ (List.mem_of_getElem? (i := 29) rfl)) (hw _ (List.mem_of_getElem? (i := 30) rfl)) (by decide) e102 (rm4 l Z a0 hw ((p5.toUInt32 >>> ((9 : Int32) &&& 31).toUInt32).toInt32) h80) (by rw [hml]; rfl) pd_4 rfl rfl (hb hby at_112) rfl (by decide) rfl (by decide) (by decide) (by decide) ?_
  rintro _ T112 L112 ⟨rfl, rfl, e112⟩ X112
  show Ends p e below s (Q0 Z p1 p2 p3 p4 p5 p6 h0) room_1.cells room_1.slots (T112.setTop (mkF m 115 #[.val (.long p1), .second, .val (.long p2), .second, .val (.long p3), .second, .val (.long p4), .second, .val (.int p5), .val (.int p6), .val (.ref a), .val (.ref b), .val (.int dp), .val (.int x0), .val (.int x1), .val (.int y0), .unset, .unset, .unset, .unset, .unset, .unset, .unset, .unset, .unset, .unset, .unset, .unset, .unset, .unset] [(.int ((((p5.toUInt32 >>> ((9 : Int32) &&& 31).toUInt32).toInt32) &&& (7 : Int32)) - (1 : Int32)))]))
  generalize hy1 : (((p5.toUInt32 >>> ((9 : Int32) &&& 31).toUInt32).toInt32) &&& (7 : Int32)) - (1 : Int32) = y1
  replace N := N.app (Fr.nil _)
  refine o_istore (Ls' := #[.val (.long p1), .second, .val (.long p2), .second, .val (.long p3), .second, .val (.long p4), .second, .val (.int p5), .val (.int p6), .val (.ref a), .val (.ref b), .val (.int dp), .val (.int x0), .val (.int x1), .val (.int y0), .val (.int y1), .unset, .unset, .unset, .unset, .unset, .unset, .unset, .unset, .unset, .unset, .unset, .unset, .unset]) (pc' := 117) X112 hx (hb hby at_115) rfl rfl ?_
  refine o_aload (pc' := 119) X112 hx (hb hby at_117) rfl rfl rfl ?_
  refine o_getF (pc' := 122) X112 hx hZ hown (hw _ (List.mem_of_getElem? (i := 31) rfl)) Via.refl e112 H_a_returnAddresses (hb hby at_119) rfl ?_
  intro T119 e119 X119
  refine o_iconst (v := (0 : Int32)) (pc' := 123) X119 hx (hb hby at_122) (by decide) rfl ?_
  refine o_iload (pc' := 125) X119 hx (hb hby at_123) rfl rfl ?_
  refine o_iastore (pc' := 126) X119 hx hZ e119 Ar (Cr.inb (by decide) (by decide)) (hb hby at_125) rfl ?_
  intro T125 h125 e125 W125 X125
  replace N := Fr.snoc X125 N (Nat.le_trans Zn_a zr)
  replace X_a := X_a.wr W125
  replace H_a_topReturnAddress := H_a_topReturnAddress.other W125 (Or.inl n_a_r)
  replace H_a_content := H_a_content.other W125 (Or.inl n_a_r)
  replace H_a_written := H_a_written.other W125 (Or.inl n_a_r)
  replace H_a_returnAddresses := H_a_returnAddresses.other W125 (Or.inl n_a_r)
  replace H_a_depth := H_a_depth.other W125 (Or.inl n_a_r)
  replace Aw := Aw.other W125 n_w_r
  replace X_b := X_b.wr W125
  replace H_b_topReturnAddress := H_b_topReturnAddress.other W125 (Or.inl (Ne.symm n_r_b))
  replace H_b_content := H_b_content.other W125 (Or.inl (Ne.symm n_r_b))
  replace H_b_written := H_b_written.other W125 (Or.inl (Ne.symm n_r_b))
  replace H_b_returnAddresses := H_b_returnAddresses.other W125 (Or.inl (Ne.symm n_r_b))
  replace H_b_depth := H_b_depth.other W125 (Or.inl (Ne.symm n_r_b))
  replace Aw2 := Aw2.other W125 (Ne.symm n_r_w2)
  replace Ar2 := Ar2.other W125 (Ne.symm n_r_r2)
  replace Ar := Arr.same W125 Ar
  replace Cr : Cont _ 2 (two (.int x0) (.int (-1 : Int32))) := two_of (Cr.put (Int32.toNatClampNeg (0 : Int32)) (.int x0)) rfl rfl
  refine o_aload (pc' := 128) X125 hx (hb hby at_126) rfl rfl rfl ?_
  refine o_getF (pc' := 131) X125 hx hZ hown (hw _ (List.mem_of_getElem? (i := 31) rfl)) Via.refl e125 H_a_returnAddresses (hb hby at_128) rfl ?_
  intro T128 e128 X128
  refine o_iconst (v := (1 : Int32)) (pc' := 132) X128 hx (hb hby at_131) (by decide) rfl ?_
  refine o_iload (pc' := 134) X128 hx (hb hby at_132) rfl rfl ?_
  refine o_iastore (pc' := 135) X128 hx hZ e128 Ar (Cr.inb (by decide) (by decide)) (hb hby at_134) rfl ?_
  intro T134 h134 e134 W134 X134
  replace N := Fr.snoc X134 N (Nat.le_trans Zn_a zr)
  replace X_a := X_a.wr W134
  replace H_a_topReturnAddress := H_a_topReturnAddress.other W134 (Or.inl n_a_r)
  replace H_a_content := H_a_content.other W134 (Or.inl n_a_r)
  replace H_a_written := H_a_written.other W134 (Or.inl n_a_r)
  replace H_a_returnAddresses := H_a_returnAddresses.other W134 (Or.inl n_a_r)
  replace H_a_depth := H_a_depth.other W134 (Or.inl n_a_r)
  replace Aw := Aw.other W134 n_w_r
  replace X_b := X_b.wr W134
  replace H_b_topReturnAddress := H_b_topReturnAddress.other W134 (Or.inl (Ne.symm n_r_b))
  replace H_b_content := H_b_content.other W134 (Or.inl (Ne.symm n_r_b))
  replace H_b_written := H_b_written.other W134 (Or.inl (Ne.symm n_r_b))
  replace H_b_returnAddresses := H_b_returnAddresses.other W134 (Or.inl (Ne.symm n_r_b))
  replace H_b_depth := H_b_depth.other W134 (Or.inl (Ne.symm n_r_b))
  replace Aw2 := Aw2.other W134 (Ne.symm n_r_w2)
  replace Ar2 := Ar2.other W134 (Ne.symm n_r_r2)
  replace Ar := Arr.same W134 Ar
  replace Cr : Cont _ 2 (two (.int x0) (.int x1)) := two_of (Cr.put (Int32.toNatClampNeg (1 : Int32)) (.int x1)) rfl rfl
  refine o_aload (pc' := 137) X134 hx (hb hby at_135) rfl rfl rfl ?_
  refine o_getF (pc' := 140) X134 hx hZ hown (hw _ (List.mem_of_getElem? (i := 31) rfl)) Via.refl e134 H_b_returnAddresses (hb hby at_137) rfl ?_
  intro T137 e137 X137
  refine o_iconst (v := (0 : Int32)) (pc' := 141) X137 hx (hb hby at_140) (by decide) rfl ?_
  refine o_iload (pc' := 143) X137 hx (hb hby at_141) rfl rfl ?_
  refine o_iastore (pc' := 144) X137 hx hZ e137 Ar2 (Cr2.inb (by decide) (by decide)) (hb hby at_143) rfl ?_
  intro T143 h143 e143 W143 X143
  replace N := Fr.snoc X143 N (Nat.le_trans Zn_b zr2)
  replace X_a := X_a.wr W143
  replace H_a_topReturnAddress := H_a_topReturnAddress.other W143 (Or.inl n_a_r2)
  replace H_a_content := H_a_content.other W143 (Or.inl n_a_r2)
  replace H_a_written := H_a_written.other W143 (Or.inl n_a_r2)
  replace H_a_returnAddresses := H_a_returnAddresses.other W143 (Or.inl n_a_r2)
  replace H_a_depth := H_a_depth.other W143 (Or.inl n_a_r2)
  replace Aw := Aw.other W143 n_w_r2
  replace Ar := Ar.other W143 n_r_r2
  replace X_b := X_b.wr W143
  replace H_b_topReturnAddress := H_b_topReturnAddress.other W143 (Or.inl n_b_r2)
  replace H_b_content := H_b_content.other W143 (Or.inl n_b_r2)
  replace H_b_written := H_b_written.other W143 (Or.inl n_b_r2)
  replace H_b_returnAddresses := H_b_returnAddresses.other W143 (Or.inl n_b_r2)
  replace H_b_depth := H_b_depth.other W143 (Or.inl n_b_r2)
  replace Aw2 := Aw2.other W143 n_w2_r2
  replace Ar2 := Arr.same W143 Ar2
  replace Cr2 : Cont _ 2 (two (.int y0) (.int (-1 : Int32))) := two_of (Cr2.put (Int32.toNatClampNeg (0 : Int32)) (.int y0)) rfl rfl
  refine o_aload (pc' := 146) X143 hx (hb hby at_144) rfl rfl rfl ?_
  refine o_getF (pc' := 149) X143 hx hZ hown (hw _ (List.mem_of_getElem? (i := 31) rfl)) Via.refl e143 H_b_returnAddresses (hb hby at_146) rfl ?_
  intro T146 e146 X146
  refine o_iconst (v := (1 : Int32)) (pc' := 150) X146 hx (hb hby at_149) (by decide) rfl ?_
  refine o_iload (pc' := 152) X146 hx (hb hby at_150) rfl rfl ?_
  refine o_iastore (pc' := 153) X146 hx hZ e146 Ar2 (Cr2.inb (by decide) (by decide)) (hb hby at_152) rfl ?_
  intro T152 h152 e152 W152 X152
  replace N := Fr.snoc X152 N (Nat.le_trans Zn_b zr2)
  replace X_a := X_a.wr W152
  replace H_a_topReturnAddress := H_a_topReturnAddress.other W152 (Or.inl n_a_r2)
  replace H_a_content := H_a_content.other W152 (Or.inl n_a_r2)
  replace H_a_written := H_a_written.other W152 (Or.inl n_a_r2)
  replace H_a_returnAddresses := H_a_returnAddresses.other W152 (Or.inl n_a_r2)
  replace H_a_depth := H_a_depth.other W152 (Or.inl n_a_r2)
  replace Aw := Aw.other W152 n_w_r2
  replace Ar := Ar.other W152 n_r_r2
  replace X_b := X_b.wr W152
  replace H_b_topReturnAddress := H_b_topReturnAddress.other W152 (Or.inl n_b_r2)
  replace H_b_content := H_b_content.other W152 (Or.inl n_b_r2)
  replace H_b_written := H_b_written.other W152 (Or.inl n_b_r2)
  replace H_b_returnAddresses := H_b_returnAddresses.other W152 (Or.inl n_b_r2)
  replace H_b_depth := H_b_depth.other W152 (Or.inl n_b_r2)
  replace Aw2 := Aw2.other W152 n_w2_r2
  replace Ar2 := Arr.same W152 Ar2
  replace Cr2 : Cont _ 2 (two (.int y0) (.int y1)) := two_of (Cr2.put (Int32.toNatClampNeg (1 : Int32)) (.int y1)) rfl rfl
  refine o_iload (pc' := 155) X152 hx (hb hby at_153) rfl rfl ?_
  refine o_callS (W := 0) (pc' := 158) (rm := ({ frames := 0, cells := 0, slots := 0, locals := 0 } : Room)) (argsL := [(.int p6)]) (rest := []) X152 hx hZ hown (hw _ (List.mem_of_getElem? (i := 27) rfl)) (hw _ (List.mem_of_getElem? (i := 28) rfl)) (hw _ (List.mem_of_getElem? (i := 29) rfl)) (hw _ (List.mem_of_getElem? (i := 30) rfl)) (by decide) e152 (rm4 l Z a0 hw p6 h152) (by rw [hml]; rfl) pd_4 rfl rfl (hb hby at_155) rfl (by decide) rfl (by decide) (by decide) (by decide) ?_
  rintro _ T155 L155 ⟨rfl, rfl, e155⟩ X155
  show Ends p e below s (Q0 Z p1 p2 p3 p4 p5 p6 h0) room_1.cells room_1.slots (T155.setTop (mkF m 158 #[.val (.long p1), .second, .val (.long p2), .second, .val (.long p3), .second, .val (.long p4), .second, .val (.int p5), .val (.int p6), .val (.ref a), .val (.ref b), .val (.int dp), .val (.int x0), .val (.int x1), .val (.int y0), .val (.int y1), .unset, .unset, .unset, .unset, .unset, .unset, .unset, .unset, .unset, .unset, .unset, .unset, .unset] [(.int ((p6 &&& (7 : Int32)) - (1 : Int32)))]))
  generalize htp : (p6 &&& (7 : Int32)) - (1 : Int32) = tp
  replace N := N.app (Fr.nil _)
  refine o_istore (Ls' := #[.val (.long p1), .second, .val (.long p2), .second, .val (.long p3), .second, .val (.long p4), .second, .val (.int p5), .val (.int p6), .val (.ref a), .val (.ref b), .val (.int dp), .val (.int x0), .val (.int x1), .val (.int y0), .val (.int y1), .val (.int tp), .unset, .unset, .unset, .unset, .unset, .unset, .unset, .unset, .unset, .unset, .unset, .unset]) (pc' := 160) X155 hx (hb hby at_158) rfl rfl ?_
  refine o_iload (pc' := 162) X155 hx (hb hby at_160) rfl rfl ?_
  refine o_iconst (v := (3 : Int32)) (pc' := 163) X155 hx (hb hby at_162) (by decide) rfl ?_
  refine o_iushr (pc' := 164) X155 hx (hb hby at_163) rfl ?_
  refine o_callS (W := 0) (pc' := 167) (rm := ({ frames := 0, cells := 0, slots := 0, locals := 0 } : Room)) (argsL := [(.int ((p6.toUInt32 >>> ((3 : Int32) &&& 31).toUInt32).toInt32))]) (rest := []) X155 hx hZ hown (hw _ (List.mem_of_getElem? (i := 27) rfl)) (hw _ (List.mem_of_getElem? (i := 28) rfl)) (hw _ (List.mem_of_getElem? (i := 29) rfl)) (hw _ (List.mem_of_getElem? (i := 30) rfl)) (by decide) e155 (rm4 l Z a0 hw ((p6.toUInt32 >>> ((3 : Int32) &&& 31).toUInt32).toInt32) h152) (by rw [hml]; rfl) pd_4 rfl rfl (hb hby at_164) rfl (by decide) rfl (by decide) (by decide) (by decide) ?_
  rintro _ T164 L164 ⟨rfl, rfl, e164⟩ X164
  show Ends p e below s (Q0 Z p1 p2 p3 p4 p5 p6 h0) room_1.cells room_1.slots (T164.setTop (mkF m 167 #[.val (.long p1), .second, .val (.long p2), .second, .val (.long p3), .second, .val (.long p4), .second, .val (.int p5), .val (.int p6), .val (.ref a), .val (.ref b), .val (.int dp), .val (.int x0), .val (.int x1), .val (.int y0), .val (.int y1), .val (.int tp), .unset, .unset, .unset, .unset, .unset, .unset, .unset, .unset, .unset, .unset, .unset, .unset] [(.int ((((p6.toUInt32 >>> ((3 : Int32) &&& 31).toUInt32).toInt32) &&& (7 : Int32)) - (1 : Int32)))]))
  generalize hup : (((p6.toUInt32 >>> ((3 : Int32) &&& 31).toUInt32).toInt32) &&& (7 : Int32)) - (1 : Int32) = up
  replace N := N.app (Fr.nil _)
  refine o_istore (Ls' := #[.val (.long p1), .second, .val (.long p2), .second, .val (.long p3), .second, .val (.long p4), .second, .val (.int p5), .val (.int p6), .val (.ref a), .val (.ref b), .val (.int dp), .val (.int x0), .val (.int x1), .val (.int y0), .val (.int y1), .val (.int tp), .val (.int up), .unset, .unset, .unset, .unset, .unset, .unset, .unset, .unset, .unset, .unset, .unset]) (pc' := 169) X164 hx (hb hby at_167) rfl rfl ?_
  refine o_aload (pc' := 171) X164 hx (hb hby at_169) rfl rfl rfl ?_
  refine o_iload (pc' := 173) X164 hx (hb hby at_171) rfl rfl ?_
  refine o_putF (pc' := 176) (ty := .int) X164 hx hZ hown (hw _ (List.mem_of_getElem? (i := 32) rfl)) Via.refl e164 H_a_topReturnAddress X_a (Or.inl (hw _ (List.mem_of_getElem? (i := 10) rfl))) (hw _ (List.mem_of_getElem? (i := 1) rfl)) (by decide) rfl rfl (hb hby at_173) rfl ?_
  intro T173 h173 e173 W173 X173
  replace N := Fr.snoc X173 N q_a
  replace X_a := X_a.wr W173
  replace H_a_topReturnAddress := H_a_topReturnAddress.same W173
  replace H_a_content := H_a_content.other W173 (Or.inr (slot_ne (C := "com/example/ubver/ubver/verifier/StackAndLocals$State") (t := .long) (t' := .int) (Or.inl (hw _ (List.mem_of_getElem? (i := 13) rfl))) (Or.inl (hw _ (List.mem_of_getElem? (i := 10) rfl))) (by decide) (by decide) (by decide)))
  replace H_a_written := H_a_written.other W173 (Or.inr (slot_ne (C := "com/example/ubver/ubver/verifier/StackAndLocals$State") (t := (.array .long)) (t' := .int) (Or.inr (hw _ (List.mem_of_getElem? (i := 16) rfl))) (Or.inl (hw _ (List.mem_of_getElem? (i := 10) rfl))) (by decide) (by decide) (by decide)))
  replace H_a_returnAddresses := H_a_returnAddresses.other W173 (Or.inr (slot_ne (C := "com/example/ubver/ubver/verifier/StackAndLocals$State") (t := (.array .int)) (t' := .int) (Or.inr (hw _ (List.mem_of_getElem? (i := 19) rfl))) (Or.inl (hw _ (List.mem_of_getElem? (i := 10) rfl))) (by decide) (by decide) (by decide)))
  replace H_a_depth := H_a_depth.other W173 (Or.inr (slot_ne (C := "com/example/ubver/ubver/verifier/StackAndLocals$State") (t := .int) (t' := .int) (Or.inl (hw _ (List.mem_of_getElem? (i := 25) rfl))) (Or.inl (hw _ (List.mem_of_getElem? (i := 10) rfl))) (by decide) (by decide) (by decide)))
  replace Aw := Aw.other W173 (Ne.symm n_a_w)
  replace Ar := Ar.other W173 (Ne.symm n_a_r)
  replace X_b := X_b.wr W173
  replace H_b_topReturnAddress := H_b_topReturnAddress.other W173 (Or.inl (Ne.symm n_a_b))
  replace H_b_content := H_b_content.other W173 (Or.inl (Ne.symm n_a_b))
  replace H_b_written := H_b_written.other W173 (Or.inl (Ne.symm n_a_b))
  replace H_b_returnAddresses := H_b_returnAddresses.other W173 (Or.inl (Ne.symm n_a_b))
  replace H_b_depth := H_b_depth.other W173 (Or.inl (Ne.symm n_a_b))
  replace Aw2 := Aw2.other W173 (Ne.symm n_a_w2)
  replace Ar2 := Ar2.other W173 (Ne.symm n_a_r2)
  refine o_aload (pc' := 178) X173 hx (hb hby at_176) rfl rfl rfl ?_
  refine o_iload (pc' := 180) X173 hx (hb hby at_178) rfl rfl ?_
  refine o_putF (pc' := 183) (ty := .int) X173 hx hZ hown (hw _ (List.mem_of_getElem? (i := 32) rfl)) Via.refl e173 H_b_topReturnAddress X_b (Or.inl (hw _ (List.mem_of_getElem? (i := 10) rfl))) (hw _ (List.mem_of_getElem? (i := 1) rfl)) (by decide) rfl rfl (hb hby at_180) rfl ?_
  intro T180 h180 e180 W180 X180
  replace N := Fr.snoc X180 N q_b
  replace X_a := X_a.wr W180
  replace H_a_topReturnAddress := H_a_topReturnAddress.other W180 (Or.inl n_a_b)
  replace H_a_content := H_a_content.other W180 (Or.inl n_a_b)
  replace H_a_written := H_a_written.other W180 (Or.inl n_a_b)
  replace H_a_returnAddresses := H_a_returnAddresses.other W180 (Or.inl n_a_b)
  replace H_a_depth := H_a_depth.other W180 (Or.inl n_a_b)
  replace Aw := Aw.other W180 n_w_b
  replace Ar := Ar.other W180 n_r_b
  replace X_b := X_b.wr W180
  replace H_b_topReturnAddress := H_b_topReturnAddress.same W180
  replace H_b_content := H_b_content.other W180 (Or.inr (slot_ne (C := "com/example/ubver/ubver/verifier/StackAndLocals$State") (t := .long) (t' := .int) (Or.inl (hw _ (List.mem_of_getElem? (i := 13) rfl))) (Or.inl (hw _ (List.mem_of_getElem? (i := 10) rfl))) (by decide) (by decide) (by decide)))
  replace H_b_written := H_b_written.other W180 (Or.inr (slot_ne (C := "com/example/ubver/ubver/verifier/StackAndLocals$State") (t := (.array .long)) (t' := .int) (Or.inr (hw _ (List.mem_of_getElem? (i := 16) rfl))) (Or.inl (hw _ (List.mem_of_getElem? (i := 10) rfl))) (by decide) (by decide) (by decide)))
  replace H_b_returnAddresses := H_b_returnAddresses.other W180 (Or.inr (slot_ne (C := "com/example/ubver/ubver/verifier/StackAndLocals$State") (t := (.array .int)) (t' := .int) (Or.inr (hw _ (List.mem_of_getElem? (i := 19) rfl))) (Or.inl (hw _ (List.mem_of_getElem? (i := 10) rfl))) (by decide) (by decide) (by decide)))
  replace H_b_depth := H_b_depth.other W180 (Or.inr (slot_ne (C := "com/example/ubver/ubver/verifier/StackAndLocals$State") (t := .int) (t' := .int) (Or.inl (hw _ (List.mem_of_getElem? (i := 25) rfl))) (Or.inl (hw _ (List.mem_of_getElem? (i := 10) rfl))) (by decide) (by decide) (by decide)))
  replace Aw2 := Aw2.other W180 (Ne.symm n_b_w2)
  replace Ar2 := Ar2.other W180 (Ne.symm n_b_r2)
  refine o_aload (pc' := 185) X180 hx (hb hby at_183) rfl rfl rfl ?_
  refine o_aload (pc' := 187) X180 hx (hb hby at_185) rfl rfl rfl ?_
  refine o_callV (W := 0) (pc' := 190) (rm := ({ frames := 0, cells := 0, slots := 0, locals := 0 } : Room)) (argsL := [(.ref b)]) (rest := []) X180 hx hZ hown (hw _ (List.mem_of_getElem? (i := 33) rfl)) (hw _ (List.mem_of_getElem? (i := 34) rfl)) (hw _ (List.mem_of_getElem? (i := 36) rfl)) (hw _ (List.mem_of_getElem? (i := 35) rfl)) (hw _ (List.mem_of_getElem? (i := 2) rfl)) (hw _ (List.mem_of_getElem? (i := 37) rfl)) (by decide) e180 X_a (rm5 l Z a0 hw a b w r w2 r2 h0.size p1 p2 p3 p4 x0 x1 y0 y1 tp up dp _ _ _ _ (-1 : Int64) h180 q_a (Nat.le_trans Zn_a zw) (Nat.le_trans Zn_a zr) X_a n_a_b n_a_w n_a_r n_a_w2 n_a_r2 (Ne.symm n_w_b) (Ne.symm n_r_b) n_b_w2 n_b_r2 n_w_r n_w_w2 n_w_r2 n_r_w2 n_r_r2 n_w2_r2 H_a_written H_a_returnAddresses H_a_topReturnAddress H_a_content H_a_depth H_b_written H_b_returnAddresses H_b_topReturnAddress Aw Cw Ar Cr Aw2 Cw2 Ar2 Cr2) (by rw [hml]; rfl) pd_5 rfl rfl (hb hby at_187) rfl (by decide) rfl (by decide) (by decide) (by decide) ?_
  rintro _ T187 L187 ⟨rfl, Nm, Km, M1, M2, M3, M4, cwn, crn, Awn, Cwn, Arn, Crn⟩ X187
  show Ends p e below s (Q0 Z p1 p2 p3 p4 p5 p6 h0) room_1.cells room_1.slots (T187.setTop (mkF m 190 #[.val (.long p1), .second, .val (.long p2), .second, .val (.long p3), .second, .val (.long p4), .second, .val (.int p5), .val (.int p6), .val (.ref a), .val (.ref b), .val (.int dp), .val (.int x0), .val (.int x1), .val (.int y0), .val (.int y1), .val (.int tp), .val (.int up), .unset, .unset, .unset, .unset, .unset, .unset, .unset, .unset, .unset, .unset, .unset] [(.int (fm p1 p2 p3 p4 x0 x1 y0 y1 tp up))]))
  replace N := N.app Nm
  replace X_a := X_a.keep Km
  replace X_b := X_b.keep Km
  replace H_b_topReturnAddress := H_b_topReturnAddress.keep Km (ninS (Ne.symm n_a_b) (ninS (Ne.symm n_w_b) (ninS (Ne.symm n_r_b) nin0)))
  replace H_b_content := H_b_content.keep Km (ninS (Ne.symm n_a_b) (ninS (Ne.symm n_w_b) (ninS (Ne.symm n_r_b) nin0)))
  replace H_b_written := H_b_written.keep Km (ninS (Ne.symm n_a_b) (ninS (Ne.symm n_w_b) (ninS (Ne.symm n_r_b) nin0)))
  replace H_b_returnAddresses := H_b_returnAddresses.keep Km (ninS (Ne.symm n_a_b) (ninS (Ne.symm n_w_b) (ninS (Ne.symm n_r_b) nin0)))
  replace H_b_depth := H_b_depth.keep Km (ninS (Ne.symm n_a_b) (ninS (Ne.symm n_w_b) (ninS (Ne.symm n_r_b) nin0)))
  replace Aw2 := own_arrK Aw2 Km (ninS (Ne.symm n_a_w2) (ninS (Ne.symm n_w_w2) (ninS (Ne.symm n_r_w2) nin0)))
  replace Ar2 := own_arrK Ar2 Km (ninS (Ne.symm n_a_r2) (ninS (Ne.symm n_w_r2) (ninS (Ne.symm n_r_r2) nin0)))
  generalize hch : fm p1 p2 p3 p4 x0 x1 y0 y1 tp up = ch
  refine o_istore (Ls' := #[.val (.long p1), .second, .val (.long p2), .second, .val (.long p3), .second, .val (.long p4), .second, .val (.int p5), .val (.int p6), .val (.ref a), .val (.ref b), .val (.int dp), .val (.int x0), .val (.int x1), .val (.int y0), .val (.int y1), .val (.int tp), .val (.int up), .val (.int ch), .unset, .unset, .unset, .unset, .unset, .unset, .unset, .unset, .unset, .unset]) (pc' := 192) X187 hx (hb hby at_190) rfl rfl ?_
  refine o_lloadN (pc' := 193) X187 hx (hb hby at_192) rfl rfl ?_
  refine o_lload (pc' := 195) X187 hx (hb hby at_193) rfl rfl ?_
  refine o_land (pc' := 196) X187 hx (hb hby at_195) rfl ?_
  generalize he0_ : p1 &&& p3 = e0_
  refine o_lstore (Ls' := #[.val (.long p1), .second, .val (.long p2), .second, .val (.long p3), .second, .val (.long p4), .second, .val (.int p5), .val (.int p6), .val (.ref a), .val (.ref b), .val (.int dp), .val (.int x0), .val (.int x1), .val (.int y0), .val (.int y1), .val (.int tp), .val (.int up), .val (.int ch), .val (.long e0_), .second, .unset, .unset, .unset, .unset, .unset, .unset, .unset, .unset]) (pc' := 198) X187 hx (hb hby at_196) rfl rfl ?_
  refine o_lloadN (pc' := 199) X187 hx (hb hby at_198) rfl rfl ?_
  refine o_lload (pc' := 201) X187 hx (hb hby at_199) rfl rfl ?_
  refine o_land (pc' := 202) X187 hx (hb hby at_201) rfl ?_
  generalize he1_ : p2 &&& p4 = e1_
  refine o_lstore (Ls' := #[.val (.long p1), .second, .val (.long p2), .second, .val (.long p3), .second, .val (.long p4), .second, .val (.int p5), .val (.int p6), .val (.ref a), .val (.ref b), .val (.int dp), .val (.int x0), .val (.int x1), .val (.int y0), .val (.int y1), .val (.int tp), .val (.int up), .val (.int ch), .val (.long e0_), .second, .val (.long e1_), .second, .unset, .unset, .unset, .unset, .unset, .unset]) (pc' := 204) X187 hx (hb hby at_202) rfl rfl ?_
  obtain ⟨er0, her0⟩ : ∃ z : Int32, z = (if x0 = y0 then x0 else (-1 : Int32)) := ⟨_, rfl⟩
  suffices J217 : Ends p e below s (Q0 Z p1 p2 p3 p4 p5 p6 h0) room_1.cells room_1.slots (T187.setTop (mkF m 217 #[.val (.long p1), .second, .val (.long p2), .second, .val (.long p3), .second, .val (.long p4), .second, .val (.int p5), .val (.int p6), .val (.ref a), .val (.ref b), .val (.int dp), .val (.int x0), .val (.int x1), .val (.int y0), .val (.int y1), .val (.int tp), .val (.int up), .val (.int ch), .val (.long e0_), .second, .val (.long e1_), .second, .unset, .unset, .unset, .unset, .unset, .unset] [(.int er0)])) by
    refine o_iload (pc' := 206) X187 hx (hb hby at_204) rfl rfl ?_
    refine o_iload (pc' := 208) X187 hx (hb hby at_206) rfl rfl ?_
    refine o_icmp_ne (p1 := 211) (p2 := 216) X187 hx (hb hby at_208) rfl (by decide) (by decide) (fun hc208 => ?_) (fun hc208 => ?_)
    · refine o_iconst (v := (-1 : Int32)) (pc' := 217) X187 hx (hb hby at_216) (by decide) rfl ?_
      simp only [her0, if_neg hc208] at J217; exact J217
    · refine o_iload (pc' := 213) X187 hx (hb hby at_211) rfl rfl ?_
      refine o_goto (pc' := 217) X187 hx (hb hby at_213) (by decide) (by decide) ?_
      simp only [her0, if_pos hc208] at J217; exact J217
  refine o_istore (Ls' := #[.val (.long p1), .second, .val (.long p2), .second, .val (.long p3), .second, .val (.long p4), .second, .val (.int p5), .val (.int p6), .val (.ref a), .val (.ref b), .val (.int dp), .val (.int x0), .val (.int x1), .val (.int y0), .val (.int y1), .val (.int tp), .val (.int up), .val (.int ch), .val (.long e0_), .second, .val (.long e1_), .second, .val (.int er0), .unset, .unset, .unset, .unset, .unset]) (pc' := 219) X187 hx (hb hby at_217) rfl rfl ?_
  refine o_iload (pc' := 221) X187 hx (hb hby at_219) rfl rfl ?_
  refine o_iload (pc' := 223) X187 hx (hb hby at_221) rfl rfl ?_
  obtain ⟨er1, her1⟩ : ∃ z : Int32, z = (if x1 = y1 then x1 else (-1 : Int32)) := ⟨_, rfl⟩
  suffices J232 : Ends p e below s (Q0 Z p1 p2 p3 p4 p5 p6 h0) room_1.cells room_1.slots (T187.setTop (mkF m 232 #[.val (.long p1), .second, .val (.long p2), .second, .val (.long p3), .second, .val (.long p4), .second, .val (.int p5), .val (.int p6), .val (.ref a), .val (.ref b), .val (.int dp), .val (.int x0), .val (.int x1), .val (.int y0), .val (.int y1), .val (.int tp), .val (.int up), .val (.int ch), .val (.long e0_), .second, .val (.long e1_), .second, .val (.int er0), .unset, .unset, .unset, .unset, .unset] [(.int er1)])) by
    refine o_icmp_ne (p1 := 226) (p2 := 231) X187 hx (hb hby at_223) rfl (by decide) (by decide) (fun hc223 => ?_) (fun hc223 => ?_)
    · refine o_iconst (v := (-1 : Int32)) (pc' := 232) X187 hx (hb hby at_231) (by decide) rfl ?_
      simp only [her1, if_neg hc223] at J232; exact J232
    · refine o_iload (pc' := 228) X187 hx (hb hby at_226) rfl rfl ?_
      refine o_goto (pc' := 232) X187 hx (hb hby at_228) (by decide) (by decide) ?_
      simp only [her1, if_pos hc223] at J232; exact J232
  refine o_istore (Ls' := #[.val (.long p1), .second, .val (.long p2), .second, .val (.long p3), .second, .val (.long p4), .second, .val (.int p5), .val (.int p6), .val (.ref a), .val (.ref b), .val (.int dp), .val (.int x0), .val (.int x1), .val (.int y0), .val (.int y1), .val (.int tp), .val (.int up), .val (.int ch), .val (.long e0_), .second, .val (.long e1_), .second, .val (.int er0), .val (.int er1), .unset, .unset, .unset, .unset]) (pc' := 234) X187 hx (hb hby at_232) rfl rfl ?_
  refine o_iload (pc' := 236) X187 hx (hb hby at_234) rfl rfl ?_
  refine o_iload (pc' := 238) X187 hx (hb hby at_236) rfl rfl ?_
  obtain ⟨et, het⟩ : ∃ z : Int32, z = (if tp = up then tp else (-1 : Int32)) := ⟨_, rfl⟩
  suffices J247 : Ends p e below s (Q0 Z p1 p2 p3 p4 p5 p6 h0) room_1.cells room_1.slots (T187.setTop (mkF m 247 #[.val (.long p1), .second, .val (.long p2), .second, .val (.long p3), .second, .val (.long p4), .second, .val (.int p5), .val (.int p6), .val (.ref a), .val (.ref b), .val (.int dp), .val (.int x0), .val (.int x1), .val (.int y0), .val (.int y1), .val (.int tp), .val (.int up), .val (.int ch), .val (.long e0_), .second, .val (.long e1_), .second, .val (.int er0), .val (.int er1), .unset, .unset, .unset, .unset] [(.int et)])) by
    refine o_icmp_ne (p1 := 241) (p2 := 246) X187 hx (hb hby at_238) rfl (by decide) (by decide) (fun hc238 => ?_) (fun hc238 => ?_)
    · refine o_iconst (v := (-1 : Int32)) (pc' := 247) X187 hx (hb hby at_246) (by decide) rfl ?_
      simp only [het, if_neg hc238] at J247; exact J247
    · refine o_iload (pc' := 243) X187 hx (hb hby at_241) rfl rfl ?_
      refine o_goto (pc' := 247) X187 hx (hb hby at_243) (by decide) (by decide) ?_
      simp only [het, if_pos hc238] at J247; exact J247
  refine o_istore (Ls' := #[.val (.long p1), .second, .val (.long p2), .second, .val (.long p3), .second, .val (.long p4), .second, .val (.int p5), .val (.int p6), .val (.ref a), .val (.ref b), .val (.int dp), .val (.int x0), .val (.int x1), .val (.int y0), .val (.int y1), .val (.int tp), .val (.int up), .val (.int ch), .val (.long e0_), .second, .val (.long e1_), .second, .val (.int er0), .val (.int er1), .val (.int et), .unset, .unset, .unset]) (pc' := 249) X187 hx (hb hby at_247) rfl rfl ?_
  refine o_lload (pc' := 251) X187 hx (hb hby at_249) rfl rfl ?_
  refine o_lloadN (pc' := 252) X187 hx (hb hby at_251) rfl rfl ?_
  obtain ⟨ec, hec⟩ : ∃ z : Int32, z = (if e0_ = p1 then (if e1_ = p2 then (if er0 = x0 then (if er1 = x1 then (if et = tp then (0 : Int32) else (1 : Int32)) else (1 : Int32)) else (1 : Int32)) else (1 : Int32)) else (1 : Int32)) := ⟨_, rfl⟩
  suffices J289 : Ends p e below s (Q0 Z p1 p2 p3 p4 p5 p6 h0) room_1.cells room_1.slots (T187.setTop (mkF m 289 #[.val (.long p1), .second, .val (.long p2), .second, .val (.long p3), .second, .val (.long p4), .second, .val (.int p5), .val (.int p6), .val (.ref a), .val (.ref b), .val (.int dp), .val (.int x0), .val (.int x1), .val (.int y0), .val (.int y1), .val (.int tp), .val (.int up), .val (.int ch), .val (.long e0_), .second, .val (.long e1_), .second, .val (.int er0), .val (.int er1), .val (.int et), .unset, .unset, .unset] [(.int ec)])) by
    refine o_lcmp_ne (p1 := 256) (p2 := 284) X187 hx (hb hby at_252) (hb hby at_253) rfl (by decide) (by decide) (fun hc252 => ?_) (fun hc252 => ?_)
    · refine o_iconst (v := (1 : Int32)) (pc' := 285) X187 hx (hb hby at_284) (by decide) rfl ?_
      refine o_goto (pc' := 289) X187 hx (hb hby at_285) (by decide) (by decide) ?_
      simp only [hec, if_neg hc252] at J289; exact J289
    · refine o_lload (pc' := 258) X187 hx (hb hby at_256) rfl rfl ?_
      refine o_lloadN (pc' := 259) X187 hx (hb hby at_258) rfl rfl ?_
      refine o_lcmp_ne (p1 := 263) (p2 := 284) X187 hx (hb hby at_259) (hb hby at_260) rfl (by decide) (by decide) (fun hc259 => ?_) (fun hc259 => ?_)
      · refine o_iconst (v := (1 : Int32)) (pc' := 285) X187 hx (hb hby at_284) (by decide) rfl ?_
        refine o_goto (pc' := 289) X187 hx (hb hby at_285) (by decide) (by decide) ?_
        simp only [hec, if_pos hc252, if_neg hc259] at J289; exact J289
      · refine o_iload (pc' := 265) X187 hx (hb hby at_263) rfl rfl ?_
        refine o_iload (pc' := 267) X187 hx (hb hby at_265) rfl rfl ?_
        refine o_icmp_ne (p1 := 270) (p2 := 284) X187 hx (hb hby at_267) rfl (by decide) (by decide) (fun hc267 => ?_) (fun hc267 => ?_)
        · refine o_iconst (v := (1 : Int32)) (pc' := 285) X187 hx (hb hby at_284) (by decide) rfl ?_
          refine o_goto (pc' := 289) X187 hx (hb hby at_285) (by decide) (by decide) ?_
          simp only [hec, if_pos hc252, if_pos hc259, if_neg hc267] at J289; exact J289
        · refine o_iload (pc' := 272) X187 hx (hb hby at_270) rfl rfl ?_
          refine o_iload (pc' := 274) X187 hx (hb hby at_272) rfl rfl ?_
          refine o_icmp_ne (p1 := 277) (p2 := 284) X187 hx (hb hby at_274) rfl (by decide) (by decide) (fun hc274 => ?_) (fun hc274 => ?_)
          · refine o_iconst (v := (1 : Int32)) (pc' := 285) X187 hx (hb hby at_284) (by decide) rfl ?_
            refine o_goto (pc' := 289) X187 hx (hb hby at_285) (by decide) (by decide) ?_
            simp only [hec, if_pos hc252, if_pos hc259, if_pos hc267, if_neg hc274] at J289; exact J289
          · refine o_iload (pc' := 279) X187 hx (hb hby at_277) rfl rfl ?_
            refine o_iload (pc' := 281) X187 hx (hb hby at_279) rfl rfl ?_
            refine o_icmp_eq (p1 := 284) (p2 := 288) X187 hx (hb hby at_281) rfl (by decide) (by decide) (fun hc281 => ?_) (fun hc281 => ?_)
            · refine o_iconst (v := (0 : Int32)) (pc' := 289) X187 hx (hb hby at_288) (by decide) rfl ?_
              simp only [hec, if_pos hc252, if_pos hc259, if_pos hc267, if_pos hc274, if_pos hc281] at J289; exact J289
            · refine o_iconst (v := (1 : Int32)) (pc' := 285) X187 hx (hb hby at_284) (by decide) rfl ?_
              refine o_goto (pc' := 289) X187 hx (hb hby at_285) (by decide) (by decide) ?_
              simp only [hec, if_pos hc252, if_pos hc259, if_pos hc267, if_pos hc274, if_neg hc281] at J289; exact J289
  refine o_istore (Ls' := #[.val (.long p1), .second, .val (.long p2), .second, .val (.long p3), .second, .val (.long p4), .second, .val (.int p5), .val (.int p6), .val (.ref a), .val (.ref b), .val (.int dp), .val (.int x0), .val (.int x1), .val (.int y0), .val (.int y1), .val (.int tp), .val (.int up), .val (.int ch), .val (.long e0_), .second, .val (.long e1_), .second, .val (.int er0), .val (.int er1), .val (.int et), .val (.int ec), .unset, .unset]) (pc' := 291) X187 hx (hb hby at_289) rfl rfl ?_
  have key := own_fin p1 p2 p3 p4 e0_ e1_ x0 x1 y0 y1 tp up er0 er1 et ec he0_ he1_ her0 her1 het hec
  refine o_aload (pc' := 293) X187 hx (hb hby at_291) rfl rfl rfl ?_
  refine o_getF (pc' := 296) X187 hx hZ hown (hw _ (List.mem_of_getElem? (i := 26) rfl)) Via.refl rfl M1 (hb hby at_293) rfl ?_
  intro T293 e293 X293
  refine o_iconst (v := (0 : Int32)) (pc' := 297) X293 hx (hb hby at_296) (by decide) rfl ?_
  refine o_laload (pc' := 298) (v := (.long (p1 &&& p3))) X293 hx hZ e293 Awn (Cwn.inb (by decide) (by decide)) ((Cwn.at (j := (0 : Int32)) (by decide) (by decide)).trans rfl) (hb hby at_297) rfl ?_
  refine o_lload (pc' := 300) X293 hx (hb hby at_298) rfl rfl ?_
  refine o_lcmp_ne (p1 := 304) (p2 := 385) X293 hx (hb hby at_300) (hb hby at_301) rfl (by decide) (by decide) (fun hc300 => absurd he0_ hc300) (fun hc300 => ?_)
  refine o_aload (pc' := 306) X293 hx (hb hby at_304) rfl rfl rfl ?_
  refine o_getF (pc' := 309) X293 hx hZ hown (hw _ (List.mem_of_getElem? (i := 26) rfl)) Via.refl e293 M1 (hb hby at_306) rfl ?_
  intro T306 e306 X306
  refine o_iconst (v := (1 : Int32)) (pc' := 310) X306 hx (hb hby at_309) (by decide) rfl ?_
  refine o_laload (pc' := 311) (v := (.long (p2 &&& p4))) X306 hx hZ e306 Awn (Cwn.inb (by decide) (by decide)) ((Cwn.at (j := (1 : Int32)) (by decide) (by decide)).trans rfl) (hb hby at_310) rfl ?_
  refine o_lload (pc' := 313) X306 hx (hb hby at_311) rfl rfl ?_
  refine o_lcmp_ne (p1 := 317) (p2 := 385) X306 hx (hb hby at_313) (hb hby at_314) rfl (by decide) (by decide) (fun hc313 => absurd he1_ hc313) (fun hc313 => ?_)
  refine o_aload (pc' := 319) X306 hx (hb hby at_317) rfl rfl rfl ?_
  refine o_getF (pc' := 322) X306 hx hZ hown (hw _ (List.mem_of_getElem? (i := 31) rfl)) Via.refl e306 M2 (hb hby at_319) rfl ?_
  intro T319 e319 X319
  refine o_iconst (v := (0 : Int32)) (pc' := 323) X319 hx (hb hby at_322) (by decide) rfl ?_
  refine o_iaload (pc' := 324) (v := (.int (fe x0 y0))) X319 hx hZ e319 Arn (Crn.inb (by decide) (by decide)) ((Crn.at (j := (0 : Int32)) (by decide) (by decide)).trans rfl) (hb hby at_323) rfl ?_
  refine o_iload (pc' := 326) X319 hx (hb hby at_324) rfl rfl ?_
  refine o_icmp_ne (p1 := 329) (p2 := 385) X319 hx (hb hby at_326) rfl (by decide) (by decide) (fun hc326 => absurd key.2.1 hc326) (fun hc326 => ?_)
  refine o_aload (pc' := 331) X319 hx (hb hby at_329) rfl rfl rfl ?_
  refine o_getF (pc' := 334) X319 hx hZ hown (hw _ (List.mem_of_getElem? (i := 31) rfl)) Via.refl e319 M2 (hb hby at_331) rfl ?_
  intro T331 e331 X331
  refine o_iconst (v := (1 : Int32)) (pc' := 335) X331 hx (hb hby at_334) (by decide) rfl ?_
  refine o_iaload (pc' := 336) (v := (.int (fe x1 y1))) X331 hx hZ e331 Arn (Crn.inb (by decide) (by decide)) ((Crn.at (j := (1 : Int32)) (by decide) (by decide)).trans rfl) (hb hby at_335) rfl ?_
  refine o_iload (pc' := 338) X331 hx (hb hby at_336) rfl rfl ?_
  refine o_icmp_ne (p1 := 341) (p2 := 385) X331 hx (hb hby at_338) rfl (by decide) (by decide) (fun hc338 => absurd key.2.2.1 hc338) (fun hc338 => ?_)
  refine o_aload (pc' := 343) X331 hx (hb hby at_341) rfl rfl rfl ?_
  refine o_getF (pc' := 346) X331 hx hZ hown (hw _ (List.mem_of_getElem? (i := 32) rfl)) Via.refl e331 M3 (hb hby at_343) rfl ?_
  intro T343 e343 X343
  refine o_iload (pc' := 348) X343 hx (hb hby at_346) rfl rfl ?_
  refine o_icmp_ne (p1 := 351) (p2 := 385) X343 hx (hb hby at_348) rfl (by decide) (by decide) (fun hc348 => absurd key.2.2.2 hc348) (fun hc348 => ?_)
  refine o_aload (pc' := 353) X343 hx (hb hby at_351) rfl rfl rfl ?_
  refine o_getF (pc' := 356) X343 hx hZ hown (hw _ (List.mem_of_getElem? (i := 24) rfl)) Via.refl e343 M4 (hb hby at_353) rfl ?_
  intro T353 e353 X353
  refine o_iload (pc' := 358) X353 hx (hb hby at_356) rfl rfl ?_
  refine o_icmp_ne (p1 := 361) (p2 := 385) X353 hx (hb hby at_358) rfl (by decide) (by decide) (fun hc358 => absurd rfl hc358) (fun hc358 => ?_)
  refine o_aload (pc' := 363) X353 hx (hb hby at_361) rfl rfl rfl ?_
  refine o_getF (pc' := 366) X353 hx hZ hown (hw _ (List.mem_of_getElem? (i := 26) rfl)) Via.refl e353 M1 (hb hby at_363) rfl ?_
  intro T363 e363 X363
  refine o_len (pc' := 367) (n := (2 : Int32)) X363 hx hZ e363 Awn (by rw [Cwn.1]; decide) (hb hby at_366) rfl ?_
  refine o_iconst (v := (2 : Int32)) (pc' := 368) X363 hx (hb hby at_367) (by decide) rfl ?_
  refine o_icmp_ne (p1 := 371) (p2 := 385) X363 hx (hb hby at_368) rfl (by decide) (by decide) (fun hc368 => absurd (by decide) hc368) (fun hc368 => ?_)
  refine o_aload (pc' := 373) X363 hx (hb hby at_371) rfl rfl rfl ?_
  refine o_getF (pc' := 376) X363 hx hZ hown (hw _ (List.mem_of_getElem? (i := 31) rfl)) Via.refl e363 M2 (hb hby at_373) rfl ?_
  intro T373 e373 X373
  refine o_len (pc' := 377) (n := (2 : Int32)) X373 hx hZ e373 Arn (by rw [Crn.1]; decide) (hb hby at_376) rfl ?_
  refine o_iconst (v := (2 : Int32)) (pc' := 378) X373 hx (hb hby at_377) (by decide) rfl ?_
  refine o_icmp_ne (p1 := 381) (p2 := 385) X373 hx (hb hby at_378) rfl (by decide) (by decide) (fun hc378 => absurd (by decide) hc378) (fun hc378 => ?_)
  refine o_iconst (v := (1 : Int32)) (pc' := 382) X373 hx (hb hby at_381) (by decide) rfl ?_
  refine o_goto (pc' := 386) X373 hx (hb hby at_382) (by decide) (by decide) ?_
  refine o_istore (Ls' := #[.val (.long p1), .second, .val (.long p2), .second, .val (.long p3), .second, .val (.long p4), .second, .val (.int p5), .val (.int p6), .val (.ref a), .val (.ref b), .val (.int dp), .val (.int x0), .val (.int x1), .val (.int y0), .val (.int y1), .val (.int tp), .val (.int up), .val (.int ch), .val (.long e0_), .second, .val (.long e1_), .second, .val (.int er0), .val (.int er1), .val (.int et), .val (.int ec), .val (.int (1 : Int32)), .unset]) (pc' := 388) X373 hx (hb hby at_386) rfl rfl ?_
  refine o_aload (pc' := 390) X373 hx (hb hby at_388) rfl rfl rfl ?_
  refine o_getF (pc' := 393) X373 hx hZ hown (hw _ (List.mem_of_getElem? (i := 26) rfl)) Via.refl e373 H_b_written (hb hby at_390) rfl ?_
  intro T390 e390 X390
  refine o_iconst (v := (0 : Int32)) (pc' := 394) X390 hx (hb hby at_393) (by decide) rfl ?_
  refine o_laload (pc' := 395) (v := (.long p3)) X390 hx hZ e390 Aw2 (Cw2.inb (by decide) (by decide)) ((Cw2.at (j := (0 : Int32)) (by decide) (by decide)).trans rfl) (hb hby at_394) rfl ?_
  refine o_lload (pc' := 397) X390 hx (hb hby at_395) rfl rfl ?_
  refine o_lcmp_ne (p1 := 401) (p2 := 462) X390 hx (hb hby at_397) (hb hby at_398) rfl (by decide) (by decide) (fun hc397 => absurd rfl hc397) (fun hc397 => ?_)
  refine o_aload (pc' := 403) X390 hx (hb hby at_401) rfl rfl rfl ?_
  refine o_getF (pc' := 406) X390 hx hZ hown (hw _ (List.mem_of_getElem? (i := 26) rfl)) Via.refl e390 H_b_written (hb hby at_403) rfl ?_
  intro T403 e403 X403
  refine o_iconst (v := (1 : Int32)) (pc' := 407) X403 hx (hb hby at_406) (by decide) rfl ?_
  refine o_laload (pc' := 408) (v := (.long p4)) X403 hx hZ e403 Aw2 (Cw2.inb (by decide) (by decide)) ((Cw2.at (j := (1 : Int32)) (by decide) (by decide)).trans rfl) (hb hby at_407) rfl ?_
  refine o_lload (pc' := 410) X403 hx (hb hby at_408) rfl rfl ?_
  refine o_lcmp_ne (p1 := 414) (p2 := 462) X403 hx (hb hby at_410) (hb hby at_411) rfl (by decide) (by decide) (fun hc410 => absurd rfl hc410) (fun hc410 => ?_)
  refine o_aload (pc' := 416) X403 hx (hb hby at_414) rfl rfl rfl ?_
  refine o_getF (pc' := 419) X403 hx hZ hown (hw _ (List.mem_of_getElem? (i := 31) rfl)) Via.refl e403 H_b_returnAddresses (hb hby at_416) rfl ?_
  intro T416 e416 X416
  refine o_iconst (v := (0 : Int32)) (pc' := 420) X416 hx (hb hby at_419) (by decide) rfl ?_
  refine o_iaload (pc' := 421) (v := (.int y0)) X416 hx hZ e416 Ar2 (Cr2.inb (by decide) (by decide)) ((Cr2.at (j := (0 : Int32)) (by decide) (by decide)).trans rfl) (hb hby at_420) rfl ?_
  refine o_iload (pc' := 423) X416 hx (hb hby at_421) rfl rfl ?_
  refine o_icmp_ne (p1 := 426) (p2 := 462) X416 hx (hb hby at_423) rfl (by decide) (by decide) (fun hc423 => absurd rfl hc423) (fun hc423 => ?_)
  refine o_aload (pc' := 428) X416 hx (hb hby at_426) rfl rfl rfl ?_
  refine o_getF (pc' := 431) X416 hx hZ hown (hw _ (List.mem_of_getElem? (i := 31) rfl)) Via.refl e416 H_b_returnAddresses (hb hby at_428) rfl ?_
  intro T428 e428 X428
  refine o_iconst (v := (1 : Int32)) (pc' := 432) X428 hx (hb hby at_431) (by decide) rfl ?_
  refine o_iaload (pc' := 433) (v := (.int y1)) X428 hx hZ e428 Ar2 (Cr2.inb (by decide) (by decide)) ((Cr2.at (j := (1 : Int32)) (by decide) (by decide)).trans rfl) (hb hby at_432) rfl ?_
  refine o_iload (pc' := 435) X428 hx (hb hby at_433) rfl rfl ?_
  refine o_icmp_ne (p1 := 438) (p2 := 462) X428 hx (hb hby at_435) rfl (by decide) (by decide) (fun hc435 => absurd rfl hc435) (fun hc435 => ?_)
  refine o_aload (pc' := 440) X428 hx (hb hby at_438) rfl rfl rfl ?_
  refine o_getF (pc' := 443) X428 hx hZ hown (hw _ (List.mem_of_getElem? (i := 32) rfl)) Via.refl e428 H_b_topReturnAddress (hb hby at_440) rfl ?_
  intro T440 e440 X440
  refine o_iload (pc' := 445) X440 hx (hb hby at_443) rfl rfl ?_
  refine o_icmp_ne (p1 := 448) (p2 := 462) X440 hx (hb hby at_445) rfl (by decide) (by decide) (fun hc445 => absurd rfl hc445) (fun hc445 => ?_)
  refine o_aload (pc' := 450) X440 hx (hb hby at_448) rfl rfl rfl ?_
  refine o_getF (pc' := 453) X440 hx hZ hown (hw _ (List.mem_of_getElem? (i := 24) rfl)) Via.refl e440 H_b_depth (hb hby at_450) rfl ?_
  intro T450 e450 X450
  refine o_iload (pc' := 455) X450 hx (hb hby at_453) rfl rfl ?_
  refine o_icmp_ne (p1 := 458) (p2 := 462) X450 hx (hb hby at_455) rfl (by decide) (by decide) (fun hc455 => absurd rfl hc455) (fun hc455 => ?_)
  refine o_iconst (v := (1 : Int32)) (pc' := 459) X450 hx (hb hby at_458) (by decide) rfl ?_
  refine o_goto (pc' := 463) X450 hx (hb hby at_459) (by decide) (by decide) ?_
  refine o_istore (Ls' := #[.val (.long p1), .second, .val (.long p2), .second, .val (.long p3), .second, .val (.long p4), .second, .val (.int p5), .val (.int p6), .val (.ref a), .val (.ref b), .val (.int dp), .val (.int x0), .val (.int x1), .val (.int y0), .val (.int y1), .val (.int tp), .val (.int up), .val (.int ch), .val (.long e0_), .second, .val (.long e1_), .second, .val (.int er0), .val (.int er1), .val (.int et), .val (.int ec), .val (.int (1 : Int32)), .val (.int (1 : Int32))]) (pc' := 465) X450 hx (hb hby at_463) rfl rfl ?_
  refine o_iload (pc' := 467) X450 hx (hb hby at_465) rfl rfl ?_
  refine o_iload (pc' := 469) X450 hx (hb hby at_467) rfl rfl ?_
  refine o_icmp_ne (p1 := 472) (p2 := 486) X450 hx (hb hby at_469) rfl (by decide) (by decide) (fun hc469 => absurd (hch ▸ key.1) hc469) (fun hc469 => ?_)
  refine o_iload (pc' := 474) X450 hx (hb hby at_472) rfl rfl ?_
  refine o_if_eq (p1 := 477) (p2 := 486) X450 hx (hb hby at_474) rfl (by decide) (by decide) (fun hc474 => absurd hc474 (by decide)) (fun hc474 => ?_)
  refine o_iload (pc' := 479) X450 hx (hb hby at_477) rfl rfl ?_
  refine o_if_eq (p1 := 482) (p2 := 486) X450 hx (hb hby at_479) rfl (by decide) (by decide) (fun hc479 => absurd hc479 (by decide)) (fun hc479 => ?_)
  refine o_iconst (v := (1 : Int32)) (pc' := 483) X450 hx (hb hby at_482) (by decide) rfl ?_
  refine o_goto (pc' := 487) X450 hx (hb hby at_483) (by decide) (by decide) ?_
  exact o_retZ X450 hx hlk hret (hb hby at_487) (by decide) ⟨rfl, by first | exact N | simpa using N⟩ (by decide) (by decide)
set_option maxRecDepth 65536 in
set_option maxHeartbeats 40000000 in
theorem comes_1 {Post : Tables → Env → Array Value → State → Outcome → State → Prop} (hpost : ∀ tb e args s v u, (limb_1_1.after args s (.returned v) u = true ∧ limb_1_2.after args s (.returned v) u = true ∧ True) → FrameEnd s (.returned v) u (Jvm.fieldLocs frame_1_writes args s ++ Jvm.arrayLocs frame_1_arrays args s ++ Jvm.staticLocs frame_1_statics s) 24 128 → Post tb e args s (.returned v) u) :
    ArmFor flags0 classFile x code maxLocals ret World_1 tables_1 room_1 Calls_1 rest_1 Pre_1 Post := by
  intro l hfl _ _ p e ha hc hk s m args below hf hA hF happ hP
  obtain ⟨hcalls, hrest, hpre⟩ := hP
  obtain ⟨-, -, -, hnamed, -, -, -, hat⟩ := (Spec.applies_iff hf).mp happ
  obtain ⟨hg, hn⟩ := and_e (Cond.before_iff.mp (show (Jvm.Cond.and given_1 narrow_1).before args s = true from hpre))
  obtain ⟨g0, gr0⟩ := and_e hg
  obtain ⟨g1, gr1⟩ := and_e gr0
  obtain ⟨g2, gr2⟩ := and_e gr1
  obtain ⟨g3, gr3⟩ := and_e gr2
  obtain ⟨g4, gr4⟩ := and_e gr3
  obtain ⟨g5, gr5⟩ := and_e gr4
  obtain ⟨w0, w1, w2, w3, w4, w5, rfl⟩ : ∃ w0 w1 w2 w3 w4 w5 : Value, args = #[w0, w1, w2, w3, w4, w5] := by
    have hs : args.size = 6 := by simpa [Cond.value, given_1] using g0
    obtain ⟨L⟩ := args
    match L, hs with
    | [w0, w1, w2, w3, w4, w5], _ => exact ⟨w0, w1, w2, w3, w4, w5, rfl⟩
  have hw := fun d (hd : d ∈ tables_1) => atoms_spec (ws := Jvm.Cond.code x code maxLocals ret :: tables_1) hat d (List.mem_cons_of_mem _ hd)
  have hfit : Fit s := fun {y c} hc i hi => by
    obtain ⟨ha, rfl⟩ := Array.getElem?_eq_some_iff.mp hc
    have q := List.all_eq_true.mp ((Array.all_eq_true_iff_forall_mem.mp hF) _ (Array.getElem_mem ha)) i (List.mem_range.mpr hi)
    simpa [Array.getElem?_eq_getElem hi] using q
  obtain ⟨i0, ei0⟩ := isL_v g1
  obtain rfl : w0 = (.long i0) := Option.some.inj ei0
  obtain ⟨i1, ei1⟩ := isL_v g2
  obtain rfl : w1 = (.long i1) := Option.some.inj ei1
  obtain ⟨i2, ei2⟩ := isL_v g3
  obtain rfl : w2 = (.long i2) := Option.some.inj ei2
  obtain ⟨i3, ei3⟩ := isL_v g4
  obtain rfl : w3 = (.long i3) := Option.some.inj ei3
  obtain ⟨i4, ei4⟩ := is_v g5
  obtain rfl : w4 = (.int i4) := Option.some.inj ei4
  obtain ⟨i5, ei5⟩ := is_v gr5
  obtain rfl : w5 = (.int i5) := Option.some.inj ei5
  obtain ⟨n, o, h1, h2, h3, _, L, rfl, ⟨rfl, N⟩, hq⟩ := rm0 l s _ hw i0 i1 i2 i3 i4 i5 s.heap tables_1 p e ha hc hk s m _ below hf ((Spec.applies_iff_loose hf).mp happ).1 ⟨rfl, State.Warmed39.refl s, rfl⟩ trivial
  refine ⟨n, _, h1, h2, h3, hpost _ _ _ _ _ _ ⟨Cond.after_iff.mpr rfl, Cond.after_iff.mpr (eq_i res_at (Term.int_eval (1)) rfl), trivial⟩ ⟨hq.1, hq.2.1, (hq.2.2.sift fun y hy => Or.inr (N y hy)).mono (by decide) (by decide)⟩⟩
theorem main_1_1 : Claimed_1_1 := comes_1 fun _ _ _ _ _ _ h hF => ⟨h.1, hF⟩
theorem main_1_2 : Claimed_1_2 := comes_1 fun _ _ _ _ _ _ h hF => ⟨h.2.1, hF⟩
end Jvm.Pilot.@@N@@
namespace Jvm.Pilot.@@N@@
open Jvm Jvm.ClassFile Sem Op Lib Jvm.Free Jvm.Stand Jvm.Pilot.@@N@@.Jvm.D
/-! MADE BY PROGRAM (witnessworld.py) out of the Statement's table words and the real class files: 13 classes; the members and pool entries that the words name. The judged class is class 1, her method 2. -/
namespace start1
open Jvm.ClassFile
def u (s : String) : CpInfo := .utf8 (stringToUtf16 s)
/-- a pool by its gaps: so many unusable entries, then the entry; so many at the end -/
def gap : Nat → List CpInfo → List CpInfo
  | 0, r => r
  | n + 1, r => .unusable :: gap n r
def poolList (es : List (Nat × CpInfo)) (last : Nat) : List CpInfo := es.foldr (fun e r => gap e.1 (e.2 :: r)) (gap last [])
def pool (es : List (Nat × CpInfo)) (last : Nat) : Array CpInfo := ⟨poolList es last⟩
def fileOf (pool : Array CpInfo) (this : Nat) (attrs : Array Attribute := #[]) (ms : Array MethodInfo := #[]) (fl : Nat := 33) (sup : Nat := 0) (ifs : Array Nat := #[]) (fds : Array FieldInfo := #[]) : ClassFile where
  minorVersion := 0
  majorVersion := 65
  constantPool := pool
  accessFlags := fl
  thisClass := this
  superClass := sup
  interfaces := ifs
  fields := fds
  methods := ms
  attributes := attrs
def plain (name : String) (sup : Option ClassId) : Class where
  name := name
  kind := .ordinary
  loader := none
  accessFlags := 33
  super := sup
  interfaces := #[]
  cf := none
  fields := #[]
  methods := #[]
  instanceTypes := #[]
  staticTypes := #[]
  resolved := #[]
  callSites := []
  init := .initialized
  statics := none
  mirror := none

def pool0 : Array CpInfo := pool [(5, u "<init>"), (0, u "()V"), (1, .class_ 10), (1, u "java/lang/Object")] 113

def k0c0 : Code := { maxStack := 0, maxLocals := 1, code := object_method_1_code, exceptionTable := #[], attributes := #[] }
def k0m0 : Method := { name := "<init>", desc := "()V", sig := { parameters := [], returnType := none }, accessFlags := 1, code := some k0c0 }
/-- java/lang/Object -/
def k0 : Class := { plain "java/lang/Object" none with
  accessFlags := 33
  interfaces := #[]
  cf := some (fileOf pool0 8 #[] #[{ accessFlags := 1, nameIndex := 5, descriptorIndex := 6, attributes := #[] }] 33 0 #[] #[])
  fields := #[]
  methods := #[k0m0]
  instanceTypes := #[]
  staticTypes := #[]
  resolved := Array.replicate 124 none
  statics := none }

def pool1 : Array CpInfo := pool [(2, .class_ 4), (1, u "java/lang/Object"), (0, u "<init>"), (0, u "()V"), (0, .class_ 8), (0, u "com/example/ubver/ubver/verifier/StackAndLocals$State"), (0, .methodref 7 10), (0, .nameAndType 5 11), (0, u "(II)V"), (0, .fieldref 7 13), (0, .nameAndType 14 15), (0, u "depth"), (0, u "I"), (0, .fieldref 7 17), (0, .nameAndType 18 19), (0, u "written"), (0, u "[J"), (0, .methodref 21 22), (0, .class_ 23), (0, .nameAndType 24 25), (0, u "com/example/ubver/ubver/verifier/StateMergePinLaw"), (0, u "addr"), (0, u "(I)I"), (0, .fieldref 7 27), (0, .nameAndType 28 29), (0, u "returnAddresses"), (0, u "[I"), (0, .fieldref 7 31), (0, .nameAndType 32 15), (0, u "topReturnAddress"), (0, .methodref 7 34), (0, .nameAndType 35 36), (0, u "merge"), (0, u "(Lcom/example/ubver/ubver/verifier/StackAndLocals$State;)Z"), (2, u "law"), (0, u "(JJJJII)Z")] 7

def k1m0 : Method := { name := "<init>", desc := "()V", sig := { parameters := [], returnType := none }, accessFlags := 1, code := none }
def k1c1 : Code := { maxStack := 2, maxLocals := 1, code := method_2_code, exceptionTable := #[], attributes := #[] }
def k1m1 : Method := { name := "addr", desc := "(I)I", sig := { parameters := [.int], returnType := some .int }, accessFlags := 10, code := some k1c1 }
def k1c2 : Code := { maxStack := 4, maxLocals := 30, code := code, exceptionTable := #[], attributes := #[] }
def k1m2 : Method := { name := "law", desc := "(JJJJII)Z", sig := { parameters := [.long, .long, .long, .long, .int, .int], returnType := some .boolean }, accessFlags := 9, code := some k1c2 }
/-- com/example/ubver/ubver/verifier/StateMergePinLaw -/
def k1 : Class := { plain "com/example/ubver/ubver/verifier/StateMergePinLaw" (some 0) with
  accessFlags := 49
  interfaces := #[]
  cf := some (fileOf pool1 21 #[] #[{ accessFlags := 1, nameIndex := 5, descriptorIndex := 6, attributes := #[] }, { accessFlags := 10, nameIndex := 24, descriptorIndex := 25, attributes := #[] }, { accessFlags := 9, nameIndex := 39, descriptorIndex := 40, attributes := #[] }] 49 2 #[] #[])
  fields := #[]
  methods := #[k1m0, k1m1, k1m2]
  instanceTypes := #[]
  staticTypes := #[]
  resolved := Array.replicate 48 none
  statics := none }

def pool2 : Array CpInfo := pool [(1, .class_ 2), (0, u "com/example/ubver/ubver/verifier/PathWalk$PathState"), (0, .class_ 4), (0, u "java/lang/Object"), (16, .class_ 22), (0, u "com/example/ubver/ubver/verifier/PathWalk")] 2

/-- com/example/ubver/ubver/verifier/PathWalk$PathState -/
def k2 : Class := { plain "com/example/ubver/ubver/verifier/PathWalk$PathState" (some 0) with
  accessFlags := 1536
  interfaces := #[]
  cf := some (fileOf pool2 1 #[.nestHost 21] #[] 1536 3 #[] #[])
  fields := #[]
  methods := #[]
  instanceTypes := #[]
  staticTypes := #[]
  resolved := Array.replicate 25 none
  statics := none }

def pool3 : Array CpInfo := pool [(1, .class_ 2), (0, u "com/example/ubver/ubver/verifier/StackAndLocals"), (0, .methodref 4 5), (0, .class_ 6), (0, .nameAndType 7 8), (0, u "java/lang/Object"), (0, u "<init>"), (0, u "()V"), (0, .fieldref 10 11), (0, .class_ 12), (0, .nameAndType 13 14), (0, u "com/example/ubver/ubver/verifier/StackAndLocals$State"), (0, u "topReturnAddress"), (0, u "I"), (0, .long 18446744073709551615), (1, .fieldref 10 18), (0, .nameAndType 19 20), (0, u "content"), (0, u "J"), (0, .fieldref 10 22), (0, .nameAndType 23 24), (0, u "written"), (0, u "[J"), (0, .fieldref 10 26), (0, .nameAndType 27 28), (0, u "returnAddresses"), (0, u "[I"), (0, .methodref 30 31), (0, .class_ 32), (0, .nameAndType 33 34), (0, u "java/util/Arrays"), (0, u "fill"), (0, u "([II)V"), (2, u "depth"), (28, u "overwrites"), (10, .class_ 78), (0, u "com/example/ubver/ubver/verifier/PathWalk$PathState"), (0, u "(II)V"), (10, u "merge"), (0, u "(Lcom/example/ubver/ubver/verifier/StackAndLocals$State;)Z")] 12

def k3c0 : Code := { maxStack := 3, maxLocals := 3, code := prog_107_method_1_code, exceptionTable := #[], attributes := #[] }
def k3m0 : Method := { name := "<init>", desc := "(II)V", sig := { parameters := [.int, .int], returnType := none }, accessFlags := 0, code := some k3c0 }
def k3c1 : Code := { maxStack := 5, maxLocals := 6, code := prog_107_method_12_code, exceptionTable := #[], attributes := #[] }
def k3m1 : Method := { name := "merge", desc := "(Lcom/example/ubver/ubver/verifier/StackAndLocals$State;)Z", sig := { parameters := [(.object "com/example/ubver/ubver/verifier/StackAndLocals$State")], returnType := some .boolean }, accessFlags := 0, code := some k3c1 }
/-- com/example/ubver/ubver/verifier/StackAndLocals$State -/
def k3 : Class := { plain "com/example/ubver/ubver/verifier/StackAndLocals$State" (some 0) with
  accessFlags := 32
  interfaces := #[2]
  cf := some (fileOf pool3 10 #[.nestHost 1] #[{ accessFlags := 0, nameIndex := 7, descriptorIndex := 79, attributes := #[] }, { accessFlags := 0, nameIndex := 90, descriptorIndex := 91, attributes := #[] }] 32 4 #[77] #[{ accessFlags := 0, nameIndex := 37, descriptorIndex := 14, attributes := #[] }, { accessFlags := 0, nameIndex := 13, descriptorIndex := 14, attributes := #[] }, { accessFlags := 16, nameIndex := 23, descriptorIndex := 24, attributes := #[] }, { accessFlags := 16, nameIndex := 27, descriptorIndex := 28, attributes := #[] }, { accessFlags := 2, nameIndex := 19, descriptorIndex := 20, attributes := #[] }, { accessFlags := 2, nameIndex := 66, descriptorIndex := 14, attributes := #[] }])
  fields := #[{ name := "depth", type := .int, accessFlags := 0, slot := 0, constantValue := 0 }, { name := "topReturnAddress", type := .int, accessFlags := 0, slot := 1, constantValue := 0 }, { name := "written", type := (.array .long), accessFlags := 16, slot := 2, constantValue := 0 }, { name := "returnAddresses", type := (.array .int), accessFlags := 16, slot := 3, constantValue := 0 }, { name := "content", type := .long, accessFlags := 2, slot := 4, constantValue := 0 }, { name := "overwrites", type := .int, accessFlags := 2, slot := 5, constantValue := 0 }]
  methods := #[k3m0, k3m1]
  instanceTypes := #[.int, .int, (.array .long), (.array .int), .long, .int]
  staticTypes := #[]
  resolved := Array.replicate 104 none
  statics := none }

def pool4 : Array CpInfo := pool [(2, .class_ 4), (1, u "java/lang/Object"), (0, u "<init>"), (0, u "()V"), (7, .class_ 16), (1, u "java/util/Arrays"), (57, .class_ 76), (1, u "java/util/Arrays$NaturalOrder"), (36, .class_ 115), (1, u "java/util/Arrays$LegacyMergeSort"), (1, u "Z"), (257, .class_ 376), (0, u "java/util/Arrays$ArrayList"), (68, u "$assertionsDisabled"), (269, u "MIN_ARRAY_SORT_GRAN"), (0, u "I"), (2, u "INSERTIONSORT_THRESHOLD"), (120, u "fill"), (4, u "([II)V"), (129, .class_ 976), (0, u "java/util/Arrays$ArrayItr")] 52

def k4m0 : Method := { name := "<init>", desc := "()V", sig := { parameters := [], returnType := none }, accessFlags := 2, code := none }
def k4c1 : Code := { maxStack := 3, maxLocals := 4, code := jdk_65_method_103_code, exceptionTable := #[], attributes := #[] }
def k4m1 : Method := { name := "fill", desc := "([II)V", sig := { parameters := [(.array .int), .int], returnType := none }, accessFlags := 9, code := some k4c1 }
/-- java/util/Arrays -/
def k4 : Class := { plain "java/util/Arrays" (some 0) with
  accessFlags := 49
  interfaces := #[]
  cf := some (fileOf pool4 14 #[.nestMembers #[975, 375, 113, 74]] #[{ accessFlags := 2, nameIndex := 5, descriptorIndex := 6, attributes := #[] }, { accessFlags := 9, nameIndex := 840, descriptorIndex := 845, attributes := #[] }] 49 2 #[] #[{ accessFlags := 26, nameIndex := 715, descriptorIndex := 716, attributes := #[] }, { accessFlags := 26, nameIndex := 719, descriptorIndex := 716, attributes := #[] }, { accessFlags := 4120, nameIndex := 445, descriptorIndex := 117, attributes := #[] }])
  fields := #[{ name := "MIN_ARRAY_SORT_GRAN", type := .int, accessFlags := 26, slot := 0, constantValue := 0 }, { name := "INSERTIONSORT_THRESHOLD", type := .int, accessFlags := 26, slot := 1, constantValue := 0 }, { name := "$assertionsDisabled", type := .boolean, accessFlags := 4120, slot := 2, constantValue := 0 }]
  methods := #[k4m0, k4m1]
  instanceTypes := #[]
  staticTypes := #[.int, .int, .boolean]
  resolved := Array.replicate 1029 none
  statics := none }

def pool5 : Array CpInfo := pool [(1, u "java/lang/Cloneable"), (0, .class_ 1), (0, u "java/lang/Object"), (0, .class_ 3)] 3

/-- java/lang/Cloneable -/
def k5 : Class := { plain "java/lang/Cloneable" (some 0) with
  accessFlags := 1537
  interfaces := #[]
  cf := some (fileOf pool5 2 #[] #[] 1537 4 #[] #[])
  fields := #[]
  methods := #[]
  instanceTypes := #[]
  staticTypes := #[]
  resolved := Array.replicate 8 none
  statics := none }

def pool6 : Array CpInfo := pool [(1, u "java/io/Serializable"), (0, .class_ 1), (0, u "java/lang/Object"), (0, .class_ 3)] 3

/-- java/io/Serializable -/
def k6 : Class := { plain "java/io/Serializable" (some 0) with
  accessFlags := 1537
  interfaces := #[]
  cf := some (fileOf pool6 2 #[] #[] 1537 4 #[] #[])
  fields := #[]
  methods := #[]
  instanceTypes := #[]
  staticTypes := #[]
  resolved := Array.replicate 8 none
  statics := none }

/-- the primitive byte -/
def k7 : Class := { plain "byte" none with kind := .primitive 'B', accessFlags := 0x411 }
/-- [B -/
def k8 : Class := { plain "[B" (some 0) with kind := .array 7 .byte, interfaces := #[5, 6], accessFlags := 1041 }

/-- the primitive int -/
def k9 : Class := { plain "int" none with kind := .primitive 'I', accessFlags := 0x411 }
/-- [I -/
def k10 : Class := { plain "[I" (some 0) with kind := .array 9 .int, interfaces := #[5, 6], accessFlags := 1041 }

/-- the primitive long -/
def k11 : Class := { plain "long" none with kind := .primitive 'J', accessFlags := 0x411 }
/-- [J -/
def k12 : Class := { plain "[J" (some 0) with kind := .array 11 .long, interfaces := #[5, 6], accessFlags := 1041 }

def heap : Heap := #[]
def classes : Array Class := #[k0, k1, k2, k3, k4, k5, k6, k7, k8, k9, k10, k11, k12]
def interned : List (Array UInt16 × Addr) := []
def slotsUsed : Nat := 0
def theMethod : MethodId := ⟨1, 2⟩
def args0 : Array Value := #[.long 5, .long 3, .long 65, .long 66, .int 4660, .int 77]
def aboutOver (below : List Frame) : State where
  vm := { classes := classes, interned := interned.toArray }
  heap := heap
  slotsUsed := slotsUsed
  threads := #[{ frames := .invoking theMethod args0 :: below }]
def below0 : List Frame := [.native { method := ⟨0, 0⟩, args := #[] }]
def about1 : State := aboutOver below0
def p0 : Program := .bare "" "" ""
def e0 : Env := launch0.env 0 0 0
theorem w_frames : about1.frames = Frame.invoking theMethod args0 :: below0 := rfl
set_option maxRecDepth 65536 in
theorem w_args : argsFit about1.vm theMethod args0 = true := by decide +kernel
set_option maxRecDepth 65536 in
theorem w_heap : heapFits about1 = true := by decide +kernel
set_option maxRecDepth 65536 in
theorem w_runnable : about1.curStatus? = some .runnable := by decide +kernel
set_option maxRecDepth 65536 in
theorem w_alone : about1.alone = true := by decide +kernel
set_option maxRecDepth 65536 in
theorem w_named : about1.methodNamed? x = some theMethod := by decide +kernel
set_option maxRecDepth 65536 in
theorem w_hears : about1.hears theMethod below0 = true := by decide +kernel
set_option maxRecDepth 65536 in
theorem w_ripe : about1.ripe theMethod args0 below0 = true := by decide +kernel
theorem w_running : about1.status = .running := rfl
set_option maxRecDepth 65536 in
theorem w_room : about1.hasRoom e0.platform room_1 = true :=
  launch0.hasRoom_least _ room_1 (by decide +kernel) (by decide +kernel) (by decide +kernel) (by decide +kernel) (by decide +kernel) (by decide +kernel)
theorem allAtoms_all (ts : List Jvm.Cond) (a : Array Jvm.Value) (st : Jvm.State) : (allAtoms ts).before a st = ts.all (fun c => c.before a st) := by
  induction ts with
  | nil => rfl
  | cons c t ih =>
    show (Jvm.Cond.and c (allAtoms t)).before a st = _
    rw [Jvm.Cond.before_and, ih, List.all_cons]
def words1 : List Jvm.Cond := Jvm.Cond.code x code maxLocals ret :: tables_1
/-- a 'code' word, met by the world's own term for the bytes: nothing is compared byte by byte -/
theorem code_word {y : MethodName} {bytes : ByteArray} {mx : Nat} {rt : Option FieldType} {a : Array Value} {s : State} {m : MethodId} {meth : Method} {c : Code} (h1 : s.methodNamed? y = some m) (h2 : s.vm.method? m = some meth) (h3 : meth.code = some c) (h4 : c.code = bytes)
    (h5 : (c.maxLocals == mx && c.exceptionTable.isEmpty && decide (c.maxStack ≤ mostOperands) && decide (meth.sig.returnType = rt) && !meth.locks && decide (parseMethodDescriptor y.desc = some meth.sig)) = true) : (Jvm.Cond.code y bytes mx rt).before a s = true := by
  simp only [Bool.and_eq_true, beq_iff_eq, Bool.not_eq_true', decide_eq_true_eq] at h5
  obtain ⟨⟨⟨⟨⟨g1, g2⟩, g3⟩, g4⟩, g5⟩, g6⟩ := h5
  simp [Cond.before, Cond.holds, Cond.value, h1, h2, h3, h4, g1, g2, g3, g4, g5, g6]
def isCode : Jvm.Cond → Bool
  | .code _ _ _ _ => true
  | _ => false
theorem all_split {L : List Jvm.Cond} {P : Jvm.Cond → Bool} (h1 : L.all (fun c => isCode c || P c) = true) (h2 : ∀ c ∈ L.filter isCode, P c = true) : L.all P = true := by
  refine List.all_eq_true.mpr fun c hc => ?_
  have h := List.all_eq_true.mp h1 c hc
  rcases Bool.eq_false_or_eq_true (isCode c) with hi | hi
  · exact h2 c (List.mem_filter.mpr ⟨hc, hi⟩)
  · simpa [hi] using h
set_option maxRecDepth 65536 in
theorem w_c0 : (Jvm.Cond.code x code maxLocals ret).before args0 about1 = true := code_word (m := ⟨1, 2⟩) (meth := k1m2) (c := k1c2) (by decide +kernel) rfl rfl rfl (by decide +kernel)
set_option maxRecDepth 65536 in
theorem w_c1 : (Jvm.Cond.code ({ cls := "com/example/ubver/ubver/verifier/StackAndLocals$State", name := "<init>", desc := "(II)V" } : Jvm.MethodName) prog_107_method_1_code (3 : Nat) (Option.none : Option Jvm.ClassFile.FieldType)).before args0 about1 = true := code_word (m := ⟨3, 0⟩) (meth := k3m0) (c := k3c0) (by decide +kernel) rfl rfl rfl (by decide +kernel)
set_option maxRecDepth 65536 in
theorem w_c2 : (Jvm.Cond.code ({ cls := "java/lang/Object", name := "<init>", desc := "()V" } : Jvm.MethodName) object_method_1_code (1 : Nat) (Option.none : Option Jvm.ClassFile.FieldType)).before args0 about1 = true := code_word (m := ⟨0, 0⟩) (meth := k0m0) (c := k0c0) (by decide +kernel) rfl rfl rfl (by decide +kernel)
set_option maxRecDepth 65536 in
theorem w_c3 : (Jvm.Cond.code ({ cls := "java/util/Arrays", name := "fill", desc := "([II)V" } : Jvm.MethodName) jdk_65_method_103_code (4 : Nat) (Option.none : Option Jvm.ClassFile.FieldType)).before args0 about1 = true := code_word (m := ⟨4, 1⟩) (meth := k4m1) (c := k4c1) (by decide +kernel) rfl rfl rfl (by decide +kernel)
set_option maxRecDepth 65536 in
theorem w_c4 : (Jvm.Cond.code ({ cls := "com/example/ubver/ubver/verifier/StateMergePinLaw", name := "addr", desc := "(I)I" } : Jvm.MethodName) method_2_code (1 : Nat) (Option.some Jvm.ClassFile.FieldType.int)).before args0 about1 = true := code_word (m := ⟨1, 1⟩) (meth := k1m1) (c := k1c1) (by decide +kernel) rfl rfl rfl (by decide +kernel)
set_option maxRecDepth 65536 in
theorem w_c5 : (Jvm.Cond.code ({ cls := "com/example/ubver/ubver/verifier/StackAndLocals$State", name := "merge", desc := "(Lcom/example/ubver/ubver/verifier/StackAndLocals$State;)Z" } : Jvm.MethodName) prog_107_method_12_code (6 : Nat) (Option.some Jvm.ClassFile.FieldType.boolean)).before args0 about1 = true := code_word (m := ⟨3, 1⟩) (meth := k3m1) (c := k3c1) (by decide +kernel) rfl rfl rfl (by decide +kernel)
def codes1 : List Jvm.Cond := [Jvm.Cond.code x code maxLocals ret, Jvm.Cond.code ({ cls := "com/example/ubver/ubver/verifier/StackAndLocals$State", name := "<init>", desc := "(II)V" } : Jvm.MethodName) prog_107_method_1_code (3 : Nat) (Option.none : Option Jvm.ClassFile.FieldType), Jvm.Cond.code ({ cls := "java/lang/Object", name := "<init>", desc := "()V" } : Jvm.MethodName) object_method_1_code (1 : Nat) (Option.none : Option Jvm.ClassFile.FieldType), Jvm.Cond.code ({ cls := "java/util/Arrays", name := "fill", desc := "([II)V" } : Jvm.MethodName) jdk_65_method_103_code (4 : Nat) (Option.none : Option Jvm.ClassFile.FieldType), Jvm.Cond.code ({ cls := "com/example/ubver/ubver/verifier/StateMergePinLaw", name := "addr", desc := "(I)I" } : Jvm.MethodName) method_2_code (1 : Nat) (Option.some Jvm.ClassFile.FieldType.int), Jvm.Cond.code ({ cls := "com/example/ubver/ubver/verifier/StackAndLocals$State", name := "merge", desc := "(Lcom/example/ubver/ubver/verifier/StackAndLocals$State;)Z" } : Jvm.MethodName) prog_107_method_12_code (6 : Nat) (Option.some Jvm.ClassFile.FieldType.boolean)]
set_option maxRecDepth 65536 in
theorem codes_eq : words1.filter isCode = codes1 := rfl
theorem w_codes : ∀ c ∈ words1.filter isCode, c.before args0 about1 = true := by
  rw [codes_eq]
  intro c hc
  simp only [codes1, List.mem_cons, List.not_mem_nil, or_false] at hc
  rcases hc with rfl | rfl | rfl | rfl | rfl | rfl
  · exact w_c0
  · exact w_c1
  · exact w_c2
  · exact w_c3
  · exact w_c4
  · exact w_c5
set_option maxRecDepth 65536 in
theorem w_t1 : (words1.take 24).all (fun c => isCode c || c.before args0 about1) = true := by decide +kernel
set_option maxRecDepth 65536 in
theorem w_t2 : (words1.drop 24).all (fun c => isCode c || c.before args0 about1) = true := by decide +kernel
theorem w_tables : (allAtoms (Jvm.Cond.code x code maxLocals ret :: tables_1)).before args0 about1 = true := by
  rw [allAtoms_all]
  show words1.all (fun c => c.before args0 about1) = true
  refine all_split ?_ w_codes
  rw [← List.take_append_drop 24 words1, List.all_append, w_t1, w_t2]
  rfl
set_option maxRecDepth 65536 in
theorem w_case : (Jvm.Cond.and given_1 narrow_1).before args0 about1 = true := by decide +kernel
theorem w_applies : (headSpec (Jvm.Cond.code x code maxLocals ret :: tables_1) room_1).applies x e0.platform about1 = true :=
  (Spec.applies_iff w_frames).mpr ⟨w_running, w_runnable, w_alone, w_named, w_hears, w_ripe, w_room, w_tables⟩
theorem atStart : AtStart classFile x code maxLocals ret World_1 tables_1 room_1 Calls_1 rest_1 Pre_1 launch0 p0 e0 about1 theMethod args0 below0 :=
  ⟨lists_1, trivial, launch0.admits_env _ _ _, launch0.least_env, fairChoices_fair.cas, fairChoices_fair.clock, w_frames, w_args, w_heap, w_applies, trivial, trivial, w_case⟩
end start1
theorem witness_1 : WitnessClaimed_1 := ⟨start1.p0, start1.e0, start1.about1, start1.theMethod, start1.args0, start1.below0, start1.atStart⟩
end Jvm.Pilot.@@N@@
