import JvmDerived
import JvmDerived.Pilot.@@N@@Statement
import JvmDerived.Pilot.@@N@@Code
set_option linter.unusedVariables false
set_option linter.unusedSimpArgs false

namespace Jvm.Pilot.@@N@@
open Jvm Jvm.ClassFile Sem Op Lib Jvm.Free Jvm.Stand Jvm.LawKit Jvm.RoadKit Bundle Jvm.Pilot.@@N@@.Jvm.D
/-- from the state S the invocation runs to its end and Q holds there -/
def Ends (p : Program) (e : Env) (below : List Frame) (s : State) (Q : Option Value → Heap → List Loc → Prop) (K N : Nat) (S : State) : Prop :=
  ∃ s₂ o, Steps p.tables e below S s₂ ∧ s₂.status = .running ∧ Ended s₂ below o ∧ ∃ v L, o = .returned v ∧ Q v s₂.heap L ∧ FrameEnd s o s₂ L K N
/-- a method's contract at given arguments and heap -/
def Con (l : Launch) (Z : State) (y : MethodName) (bytes : ByteArray) (maxL : Nat) (rt : Option FieldType) (rm : Room) (as' : Array Value) (h0 : Heap) (Q : Option Value → Heap → List Loc → Prop) : Prop :=
  ∀ ws, MetFree l y (head1 (Jvm.Cond.code y bytes maxL rt :: ws) rm) (fun a U => a = as' ∧ Z.Warmed39 U.vm ∧ U.heap = h0) (fun _ _ _ _ _ => True) (fun _ U o U' => ∃ v L, o = .returned v ∧ Q v U'.heap L ∧ FrameEnd U o U' L rm.cells rm.slots)
section Own
variable {p : Program} {l : Launch} {e : Env} {R : Room} {s : State} {m : MethodId} {args : Array Value} {below : List Frame} {meth : Method} {c : Code} {T : State} {locs : List Loc} {cells slots : Nat} {Q : Option Value → Heap → List Loc → Prop} {K N : Nat} {pc pc' : Nat} {Ls Ls' : Array Slot} {st : List Value} {Z : State} {a0 : Array Value} {h : Heap}
theorem Ends.go {S S' : State} (g : ∀ t, Steps p.tables e below S' t → Steps p.tables e below S t) (E : Ends p e below s Q K N S') : Ends p e below s Q K N S := by
  obtain ⟨s2, o, h1, r⟩ := E; exact ⟨s2, o, g _ h1, r⟩
theorem Con.ofP {y : MethodName} {bytes : ByteArray} {maxL : Nat} {rt : Option FieldType} {rm : Room} {as' : Array Value} {h0 : Heap} (hn : plainFor y = true)
    (body : ∀ (p : Program) (e : Env) (s : State) (m : MethodId) (below : List Frame) (meth : Method) (c : Code) (T : State), Stand p l e rm s m as' below meth c T [] 0 0 → p.tables.exec = Jvm.exec → c.code = bytes → c.maxLocals = maxL → meth.sig.returnType = rt → meth.locks = false → s.vm.findClass y.cls = some m.cls → meth.name = y.name → Z.Warmed39 s.vm → T.heap = h0 →
      Ends p e below s Q rm.cells rm.slots (T.setTop (entryFrame m as' maxL))) : Con l Z y bytes maxL rt rm as' h0 Q := by
  intro ws
  refine MetFree.of_bodySF hn hisR ?_
  intro p e s m args below meth c s₁ Bd hml0 hP hK
  obtain ⟨ha, hZ, hh⟩ := hP
  subst ha
  have X0 : Stand p l e rm s m _ below meth c s₁ [] 0 0 := Stand.of_body Bd
  have e0 : s₁.heap = h0 := by rw [← hh, Bd.state]; rfl
  exact body p e s m below meth c s₁ X0 Bd.exec Bd.bytes hml0 Bd.returns (BodyLoose.notSynchronized Bd) (findClass_of_methodNamed Bd.named) (name_of_methodNamed Bd.named Bd.method).1 hZ e0
theorem Con.of {y : MethodName} {bytes : ByteArray} {maxL : Nat} {rt : Option FieldType} {rm : Room} {as' : Array Value} {h0 : Heap} (hn : plainName y.cls = true)
    (body : ∀ (p : Program) (e : Env) (s : State) (m : MethodId) (below : List Frame) (meth : Method) (c : Code) (T : State), Stand p l e rm s m as' below meth c T [] 0 0 → p.tables.exec = Jvm.exec → c.code = bytes → c.maxLocals = maxL → meth.sig.returnType = rt → meth.locks = false → s.vm.findClass y.cls = some m.cls → meth.name = y.name → Z.Warmed39 s.vm → T.heap = h0 →
      Ends p e below s Q rm.cells rm.slots (T.setTop (entryFrame m as' maxL))) : Con l Z y bytes maxL rt rm as' h0 Q := Con.ofP (plainFor_of_name hn) body
theorem o_aloadN (X : Stand p l e R s m args below meth c T locs cells slots) (hx : p.tables.exec = Jvm.exec) {k : Fin 4} {v : Value} (hd : decode c.code pc = .ok (.aload_n k, 1)) (hl : Ls[k.val]? = some (.val v)) (hv : v.isRef = true) (hp : pc + 1 = pc') (E : Ends p e below s Q K N (T.setTop (mkF m pc' Ls (v :: st)))) : Ends p e below s Q K N (T.setTop (mkF m pc Ls st)) := by
  subst hp; exact Ends.go (fun t q => XS.aloadN X.here hx rfl hd hl hv q) E
theorem o_aload (X : Stand p l e R s m args below meth c T locs cells slots) (hx : p.tables.exec = Jvm.exec) {k : Nat} {v : Value} (hd : decode c.code pc = .ok (.aload k, 2)) (hl : Ls[k]? = some (.val v)) (hv : v.isRef = true) (hp : pc + 2 = pc') (E : Ends p e below s Q K N (T.setTop (mkF m pc' Ls (v :: st)))) : Ends p e below s Q K N (T.setTop (mkF m pc Ls st)) := by
  subst hp; exact Ends.go (fun t q => XS.aload X.here hx rfl hd hl hv q) E
theorem o_iload (X : Stand p l e R s m args below meth c T locs cells slots) (hx : p.tables.exec = Jvm.exec) {k : Nat} {v : Int32} (hd : decode c.code pc = .ok (.iload k, 2)) (hl : Ls[k]? = some (.val (.int v))) (hp : pc + 2 = pc') (E : Ends p e below s Q K N (T.setTop (mkF m pc' Ls (.int v :: st)))) : Ends p e below s Q K N (T.setTop (mkF m pc Ls st)) := by
  subst hp; exact Ends.go (fun t q => XS.iload X.here hx rfl hd hl q) E
theorem o_istore (X : Stand p l e R s m args below meth c T locs cells slots) (hx : p.tables.exec = Jvm.exec) {k : Nat} {v : Int32} (hd : decode c.code pc = .ok (.istore k, 2)) (hl : storeLocals Ls k (.int v) = some Ls') (hp : pc + 2 = pc') (E : Ends p e below s Q K N (T.setTop (mkF m pc' Ls' st))) : Ends p e below s Q K N (T.setTop (mkF m pc Ls (.int v :: st))) := by
  subst hp; exact Ends.go (fun t q => XS.istore X.here hx rfl hd rfl hl q) E
theorem o_lloadN (X : Stand p l e R s m args below meth c T locs cells slots) (hx : p.tables.exec = Jvm.exec) {k : Fin 4} {v : Int64} (hd : decode c.code pc = .ok (.lload_n k, 1)) (hl : Ls[k.val]? = some (.val (.long v))) (hp : pc + 1 = pc') (E : Ends p e below s Q K N (T.setTop (mkF m pc' Ls (.long v :: st)))) : Ends p e below s Q K N (T.setTop (mkF m pc Ls st)) := by
  subst hp; exact Ends.go (fun t q => XS.lloadN X.here hx rfl hd hl q) E
theorem o_lload (X : Stand p l e R s m args below meth c T locs cells slots) (hx : p.tables.exec = Jvm.exec) {k : Nat} {v : Int64} (hd : decode c.code pc = .ok (.lload k, 2)) (hl : Ls[k]? = some (.val (.long v))) (hp : pc + 2 = pc') (E : Ends p e below s Q K N (T.setTop (mkF m pc' Ls (.long v :: st)))) : Ends p e below s Q K N (T.setTop (mkF m pc Ls st)) := by
  subst hp; exact Ends.go (fun t q => XS.lload X.here hx rfl hd hl q) E
theorem o_lstoreN (X : Stand p l e R s m args below meth c T locs cells slots) (hx : p.tables.exec = Jvm.exec) {k : Fin 4} {v : Int64} (hd : decode c.code pc = .ok (.lstore_n k, 1)) (hl : storeLocals Ls k.val (.long v) = some Ls') (hp : pc + 1 = pc') (E : Ends p e below s Q K N (T.setTop (mkF m pc' Ls' st))) : Ends p e below s Q K N (T.setTop (mkF m pc Ls (.long v :: st))) := by
  subst hp; exact Ends.go (fun t q => XS.lstoreN X.here hx rfl hd rfl hl q) E
theorem o_lstore (X : Stand p l e R s m args below meth c T locs cells slots) (hx : p.tables.exec = Jvm.exec) {k : Nat} {v : Int64} (hd : decode c.code pc = .ok (.lstore k, 2)) (hl : storeLocals Ls k (.long v) = some Ls') (hp : pc + 2 = pc') (E : Ends p e below s Q K N (T.setTop (mkF m pc' Ls' st))) : Ends p e below s Q K N (T.setTop (mkF m pc Ls (.long v :: st))) := by
  subst hp; exact Ends.go (fun t q => XS.lstore X.here hx rfl hd rfl hl q) E
theorem o_astoreN (X : Stand p l e R s m args below meth c T locs cells slots) (hx : p.tables.exec = Jvm.exec) {k : Fin 4} {v : Value} (hd : decode c.code pc = .ok (.astore_n k, 1)) (hv : v.isRef = true) (hl : storeLocals Ls k.val v = some Ls') (hp : pc + 1 = pc') (E : Ends p e below s Q K N (T.setTop (mkF m pc' Ls' st))) : Ends p e below s Q K N (T.setTop (mkF m pc Ls (v :: st))) := by
  subst hp; exact Ends.go (fun t q => XS.astoreN X.here hx rfl hd rfl hv hl q) E
theorem o_astore (X : Stand p l e R s m args below meth c T locs cells slots) (hx : p.tables.exec = Jvm.exec) {k : Nat} {v : Value} (hd : decode c.code pc = .ok (.astore k, 2)) (hv : v.isRef = true) (hl : storeLocals Ls k v = some Ls') (hp : pc + 2 = pc') (E : Ends p e below s Q K N (T.setTop (mkF m pc' Ls' st))) : Ends p e below s Q K N (T.setTop (mkF m pc Ls (v :: st))) := by
  subst hp; exact Ends.go (fun t q => XS.astore X.here hx rfl hd rfl hv hl q) E
theorem o_iconst (X : Stand p l e R s m args below meth c T locs cells slots) (hx : p.tables.exec = Jvm.exec) {i : Int} {v : Int32} (hd : decode c.code pc = .ok (.iconst i, 1)) (hv : Int32.ofInt i = v) (hp : pc + 1 = pc') (E : Ends p e below s Q K N (T.setTop (mkF m pc' Ls (.int v :: st)))) : Ends p e below s Q K N (T.setTop (mkF m pc Ls st)) := by
  subst hp; exact Ends.go (fun t q => XS.iconst X.here hx rfl hd  (by rw [hv]; exact q)) E
theorem o_lconst (X : Stand p l e R s m args below meth c T locs cells slots) (hx : p.tables.exec = Jvm.exec) {k : Fin 2} {v : Int64} (hd : decode c.code pc = .ok (.lconst k, 1)) (hv : Int64.ofNat k = v) (hp : pc + 1 = pc') (E : Ends p e below s Q K N (T.setTop (mkF m pc' Ls (.long v :: st)))) : Ends p e below s Q K N (T.setTop (mkF m pc Ls st)) := by
  subst hp; exact Ends.go (fun t q => XS.lconst X.here hx rfl hd  (by rw [hv]; exact q)) E
theorem o_iand (X : Stand p l e R s m args below meth c T locs cells slots) (hx : p.tables.exec = Jvm.exec) {x y : Int32} (hd : decode c.code pc = .ok (.iand, 1))  (hp : pc + 1 = pc') (E : Ends p e below s Q K N (T.setTop (mkF m pc' Ls (.int (x &&& y) :: st)))) : Ends p e below s Q K N (T.setTop (mkF m pc Ls (.int y :: .int x :: st))) := by
  subst hp; exact Ends.go (fun t q => XS.iand X.here hx rfl hd rfl q) E
theorem o_irem (X : Stand p l e R s m args below meth c T locs cells slots) (hx : p.tables.exec = Jvm.exec) {x y : Int32} (hd : decode c.code pc = .ok (.irem, 1)) (hy : y ≠ 0) (hp : pc + 1 = pc') (E : Ends p e below s Q K N (T.setTop (mkF m pc' Ls (.int (x % y) :: st)))) : Ends p e below s Q K N (T.setTop (mkF m pc Ls (.int y :: .int x :: st))) := by
  subst hp; exact Ends.go (fun t q => iremM (g := mkF m pc Ls (.int y :: .int x :: st)) X hx rfl hd rfl hy q) E
theorem o_ladd (X : Stand p l e R s m args below meth c T locs cells slots) (hx : p.tables.exec = Jvm.exec) {x y : Int64} (hd : decode c.code pc = .ok (.ladd, 1))  (hp : pc + 1 = pc') (E : Ends p e below s Q K N (T.setTop (mkF m pc' Ls (.long (x + y) :: st)))) : Ends p e below s Q K N (T.setTop (mkF m pc Ls (.long y :: .long x :: st))) := by
  subst hp; exact Ends.go (fun t q => XS.ladd X.here hx rfl hd rfl q) E
theorem o_lsub (X : Stand p l e R s m args below meth c T locs cells slots) (hx : p.tables.exec = Jvm.exec) {x y : Int64} (hd : decode c.code pc = .ok (.lsub, 1))  (hp : pc + 1 = pc') (E : Ends p e below s Q K N (T.setTop (mkF m pc' Ls (.long (x - y) :: st)))) : Ends p e below s Q K N (T.setTop (mkF m pc Ls (.long y :: .long x :: st))) := by
  subst hp; exact Ends.go (fun t q => XS.lsub X.here hx rfl hd rfl q) E
theorem o_land (X : Stand p l e R s m args below meth c T locs cells slots) (hx : p.tables.exec = Jvm.exec) {x y : Int64} (hd : decode c.code pc = .ok (.land, 1))  (hp : pc + 1 = pc') (E : Ends p e below s Q K N (T.setTop (mkF m pc' Ls (.long (x &&& y) :: st)))) : Ends p e below s Q K N (T.setTop (mkF m pc Ls (.long y :: .long x :: st))) := by
  subst hp; exact Ends.go (fun t q => XS.land X.here hx rfl hd rfl q) E
theorem o_iinc (X : Stand p l e R s m args below meth c T locs cells slots) (hx : p.tables.exec = Jvm.exec) {k : Nat} {cst : Int} {v v' : Int32} (hd : decode c.code pc = .ok (.iinc k cst, 3)) (hl : Ls[k]? = some (.val (.int v))) (hv : v + Int32.ofInt cst = v') (hl' : storeLocals Ls k (.int v') = some Ls') (hp : pc + 3 = pc') (E : Ends p e below s Q K N (T.setTop (mkF m pc' Ls' st))) : Ends p e below s Q K N (T.setTop (mkF m pc Ls st)) := by
  subst hp; exact Ends.go (fun t q => XS.iinc X.here hx rfl hd hl (by rw [hv]; exact hl') q) E
theorem o_ldc (X : Stand p l e R s m args below meth c T locs cells slots) (hx : p.tables.exec = Jvm.exec) {own : String} {index : Nat} {v : Int32} (hd : decode c.code pc = .ok (.ldc index, 2)) (hZ : Z.Warmed39 s.vm) (hown : s.vm.findClass own = some m.cls) (w : (Jvm.Cond.constant own index v).before a0 Z = true) (hp : pc + 2 = pc') (E : Ends p e below s Q K N (T.setTop (mkF m pc' Ls (.int v :: st)))) : Ends p e below s Q K N (T.setTop (mkF m pc Ls st)) := by
  subst hp; exact Ends.go (fun t q => X.ldcInt hx hown (mvT hZ w) (g := mkF m pc Ls st) rfl hd t q) E
theorem o_ldc2 (X : Stand p l e R s m args below meth c T locs cells slots) (hx : p.tables.exec = Jvm.exec) {own : String} {index : Nat} {v : Int64} (hd : decode c.code pc = .ok (.ldc2_w index, 3)) (hZ : Z.Warmed39 s.vm) (hown : s.vm.findClass own = some m.cls) (w : (Jvm.Cond.constantLong own index v).before a0 Z = true) (hp : pc + 3 = pc') (E : Ends p e below s Q K N (T.setTop (mkF m pc' Ls (.long v :: st)))) : Ends p e below s Q K N (T.setTop (mkF m pc Ls st)) := by
  subst hp; exact Ends.go (fun t q => X.ldc2Long hx hown (mvT hZ w) (g := mkF m pc Ls st) rfl hd t q) E
theorem o_goto (X : Stand p l e R s m args below meth c T locs cells slots) (hx : p.tables.exec = Jvm.exec) {o : Int} (hd : decode c.code pc = .ok (.goto o, 3)) (ho : 0 ≤ (pc : Int) + o) (hp : ((pc : Int) + o).toNat = pc') (E : Ends p e below s Q K N (T.setTop (mkF m pc' Ls st))) : Ends p e below s Q K N (T.setTop (mkF m pc Ls st)) :=
  Ends.go (fun t q => XS.goto X.here hx rfl (pc0 := pc) rfl hd ho hp q) E
theorem o_icmp_lt (X : Stand p l e R s m args below meth c T locs cells slots) (hx : p.tables.exec = Jvm.exec) {x y : Int32} {o : Int} {p1 p2 : Nat} (hd : decode c.code pc = .ok (.if_icmp .lt o, 3)) (hp : pc + 3 = p1) (ho : 0 ≤ (pc : Int) + o) (hp2 : ((pc : Int) + o).toNat = p2) (E1 : x < y → Ends p e below s Q K N (T.setTop (mkF m p2 Ls st))) (E2 : ¬ x < y → Ends p e below s Q K N (T.setTop (mkF m p1 Ls st))) : Ends p e below s Q K N (T.setTop (mkF m pc Ls (.int y :: .int x :: st))) := by
  subst hp
  by_cases hc : x < y
  · exact Ends.go (fun t q => XS.icmpYes X.here hx rfl (pc0 := pc) rfl hd rfl ((tlt hc).1) ho hp2 q) (E1 hc)
  · exact Ends.go (fun t q => XS.icmpNo X.here hx rfl hd rfl ((flt hc).1) q) (E2 hc)
theorem o_icmp_ge (X : Stand p l e R s m args below meth c T locs cells slots) (hx : p.tables.exec = Jvm.exec) {x y : Int32} {o : Int} {p1 p2 : Nat} (hd : decode c.code pc = .ok (.if_icmp .ge o, 3)) (hp : pc + 3 = p1) (ho : 0 ≤ (pc : Int) + o) (hp2 : ((pc : Int) + o).toNat = p2) (E1 : ¬ x < y → Ends p e below s Q K N (T.setTop (mkF m p2 Ls st))) (E2 : x < y → Ends p e below s Q K N (T.setTop (mkF m p1 Ls st))) : Ends p e below s Q K N (T.setTop (mkF m pc Ls (.int y :: .int x :: st))) := by
  subst hp
  by_cases hc : x < y
  · exact Ends.go (fun t q => XS.icmpNo X.here hx rfl hd rfl ((tlt hc).2.1) q) (E2 hc)
  · exact Ends.go (fun t q => XS.icmpYes X.here hx rfl (pc0 := pc) rfl hd rfl ((flt hc).2.1) ho hp2 q) (E1 hc)
theorem o_if_ne (X : Stand p l e R s m args below meth c T locs cells slots) (hx : p.tables.exec = Jvm.exec) {x : Int32} {o : Int} {p1 p2 : Nat} (hd : decode c.code pc = .ok (.ifCond .ne o, 3)) (hp : pc + 3 = p1) (ho : 0 ≤ (pc : Int) + o) (hp2 : ((pc : Int) + o).toNat = p2) (E1 : ¬ x = 0 → Ends p e below s Q K N (T.setTop (mkF m p2 Ls st))) (E2 : x = 0 → Ends p e below s Q K N (T.setTop (mkF m p1 Ls st))) : Ends p e below s Q K N (T.setTop (mkF m pc Ls (.int x :: st))) := by
  subst hp
  by_cases hc : x = 0
  · exact Ends.go (fun t q => XS.ifNo X.here hx rfl hd rfl ((if0 _ _).trans ((teq hc).2)) q) (E2 hc)
  · exact Ends.go (fun t q => XS.ifYes X.here hx rfl (pc0 := pc) rfl hd rfl ((if0 _ _).trans ((feq hc).2)) ho hp2 q) (E1 hc)
theorem o_if_ge (X : Stand p l e R s m args below meth c T locs cells slots) (hx : p.tables.exec = Jvm.exec) {x : Int32} {o : Int} {p1 p2 : Nat} (hd : decode c.code pc = .ok (.ifCond .ge o, 3)) (hp : pc + 3 = p1) (ho : 0 ≤ (pc : Int) + o) (hp2 : ((pc : Int) + o).toNat = p2) (E1 : ¬ x < 0 → Ends p e below s Q K N (T.setTop (mkF m p2 Ls st))) (E2 : x < 0 → Ends p e below s Q K N (T.setTop (mkF m p1 Ls st))) : Ends p e below s Q K N (T.setTop (mkF m pc Ls (.int x :: st))) := by
  subst hp
  by_cases hc : x < 0
  · exact Ends.go (fun t q => XS.ifNo X.here hx rfl hd rfl ((if0 _ _).trans ((tlt hc).2.1)) q) (E2 hc)
  · exact Ends.go (fun t q => XS.ifYes X.here hx rfl (pc0 := pc) rfl hd rfl ((if0 _ _).trans ((flt hc).2.1)) ho hp2 q) (E1 hc)
theorem o_if_le (X : Stand p l e R s m args below meth c T locs cells slots) (hx : p.tables.exec = Jvm.exec) {x : Int32} {o : Int} {p1 p2 : Nat} (hd : decode c.code pc = .ok (.ifCond .le o, 3)) (hp : pc + 3 = p1) (ho : 0 ≤ (pc : Int) + o) (hp2 : ((pc : Int) + o).toNat = p2) (E1 : ¬ 0 < x → Ends p e below s Q K N (T.setTop (mkF m p2 Ls st))) (E2 : 0 < x → Ends p e below s Q K N (T.setTop (mkF m p1 Ls st))) : Ends p e below s Q K N (T.setTop (mkF m pc Ls (.int x :: st))) := by
  subst hp
  by_cases hc : 0 < x
  · exact Ends.go (fun t q => XS.ifNo X.here hx rfl hd rfl ((if0 _ _).trans ((tlt hc).2.2.2)) q) (E2 hc)
  · exact Ends.go (fun t q => XS.ifYes X.here hx rfl (pc0 := pc) rfl hd rfl ((if0 _ _).trans ((flt hc).2.2.2)) ho hp2 q) (E1 hc)
theorem o_lcmp_ne (X : Stand p l e R s m args below meth c T locs cells slots) (hx : p.tables.exec = Jvm.exec) {x y : Int64} {o : Int} {p1 p2 : Nat} (hd : decode c.code pc = .ok (.lcmp, 1)) (hd2 : decode c.code (pc + 1) = .ok (.ifCond .ne o, 3)) (hp : pc + 1 + 3 = p1) (ho : 0 ≤ ((pc + 1 : Nat) : Int) + o) (hp2 : (((pc + 1 : Nat) : Int) + o).toNat = p2) (E1 : ¬ x = y → Ends p e below s Q K N (T.setTop (mkF m p2 Ls st))) (E2 : x = y → Ends p e below s Q K N (T.setTop (mkF m p1 Ls st))) : Ends p e below s Q K N (T.setTop (mkF m pc Ls (.long y :: .long x :: st))) := by
  refine Ends.go (fun t q => XS.lcmp X.here hx rfl hd rfl q) ?_
  show Ends p e below s Q K N (T.setTop (mkF m (pc + 1) Ls (.int (lcmpW x y) :: st)))
  exact o_if_ne X hx hd2 hp ho hp2 (fun q => E1 (fun r => q ((lw_eq x y).mpr r))) (fun q => E2 ((lw_eq x y).mp q))
theorem o_lcmp_ge (X : Stand p l e R s m args below meth c T locs cells slots) (hx : p.tables.exec = Jvm.exec) {x y : Int64} {o : Int} {p1 p2 : Nat} (hd : decode c.code pc = .ok (.lcmp, 1)) (hd2 : decode c.code (pc + 1) = .ok (.ifCond .ge o, 3)) (hp : pc + 1 + 3 = p1) (ho : 0 ≤ ((pc + 1 : Nat) : Int) + o) (hp2 : (((pc + 1 : Nat) : Int) + o).toNat = p2) (E1 : ¬ x < y → Ends p e below s Q K N (T.setTop (mkF m p2 Ls st))) (E2 : x < y → Ends p e below s Q K N (T.setTop (mkF m p1 Ls st))) : Ends p e below s Q K N (T.setTop (mkF m pc Ls (.long y :: .long x :: st))) := by
  refine Ends.go (fun t q => XS.lcmp X.here hx rfl hd rfl q) ?_
  show Ends p e below s Q K N (T.setTop (mkF m (pc + 1) Ls (.int (lcmpW x y) :: st)))
  exact o_if_ge X hx hd2 hp ho hp2 (fun q => E1 (fun r => q ((lw_lt x y).mpr r))) (fun q => E2 ((lw_lt x y).mp q))
theorem o_lcmp_le (X : Stand p l e R s m args below meth c T locs cells slots) (hx : p.tables.exec = Jvm.exec) {x y : Int64} {o : Int} {p1 p2 : Nat} (hd : decode c.code pc = .ok (.lcmp, 1)) (hd2 : decode c.code (pc + 1) = .ok (.ifCond .le o, 3)) (hp : pc + 1 + 3 = p1) (ho : 0 ≤ ((pc + 1 : Nat) : Int) + o) (hp2 : (((pc + 1 : Nat) : Int) + o).toNat = p2) (E1 : ¬ y < x → Ends p e below s Q K N (T.setTop (mkF m p2 Ls st))) (E2 : y < x → Ends p e below s Q K N (T.setTop (mkF m p1 Ls st))) : Ends p e below s Q K N (T.setTop (mkF m pc Ls (.long y :: .long x :: st))) := by
  refine Ends.go (fun t q => XS.lcmp X.here hx rfl hd rfl q) ?_
  show Ends p e below s Q K N (T.setTop (mkF m (pc + 1) Ls (.int (lcmpW x y) :: st)))
  exact o_if_le X hx hd2 hp ho hp2 (fun q => E1 (fun r => q ((lw_gt x y).mpr r))) (fun q => E2 ((lw_gt x y).mp q))
theorem o_ret (X : Stand p l e R s m args below meth c T locs cells slots) (hx : p.tables.exec = Jvm.exec) {w : Value} {t : FieldType} {i : Instr} (hlk : meth.locks = false) (hret : meth.sig.returnType = some t) (hd : decode c.code pc = .ok (i, 1)) (hn : narrow t w = w)
    (hi : (i = .ireturn ∧ (t = .int ∨ t = .boolean ∨ t = .byte ∨ t = .char ∨ t = .short) ∧ ∃ z, w = .int z) ∨ (i = .lreturn ∧ t = .long ∧ ∃ z, w = .long z) ∨ (i = .dreturn ∧ t = .double ∧ ∃ z, w = .double z) ∨ (i = .freturn ∧ t = .float ∧ ∃ z, w = .float z) ∨ (i = .areturn ∧ t.isReference = true ∧ w.isRef = true))
    (hq : Q (some w) T.heap locs) (hk : cells ≤ K) (hs : slots ≤ N) : Ends p e below s Q K N (T.setTop (mkF m pc Ls (w :: st))) := by
  obtain ⟨fs, hr, hrun, hended, hW, hsame⟩ := X.leave (v := some w) (fun h => by rw [hret] at h; cases h) hlk
  exact ⟨_, _, retOut X hx hret hn hi hd hr, hrun, hended, _, _, rfl, hq, ⟨_, rfl⟩, hW, hsame.mono hk hs⟩
theorem o_retZ (X : Stand p l e R s m args below meth c T locs cells slots) (hx : p.tables.exec = Jvm.exec) {z : Int32} (hlk : meth.locks = false) (hret : meth.sig.returnType = some .boolean) (hd : decode c.code pc = .ok (.ireturn, 1)) (hz : z &&& 1 = z) (hq : Q (some (.int z)) T.heap locs) (hk : cells ≤ K) (hs : slots ≤ N) : Ends p e below s Q K N (T.setTop (mkF m pc Ls (.int z :: st))) :=
  o_ret X hx hlk hret hd (by show Value.int (z &&& 1) = _; rw [hz]) (Or.inl ⟨rfl, Or.inr (Or.inl rfl), _, rfl⟩) hq hk hs
theorem o_retJ (X : Stand p l e R s m args below meth c T locs cells slots) (hx : p.tables.exec = Jvm.exec) {z : Int64} (hlk : meth.locks = false) (hret : meth.sig.returnType = some .long) (hd : decode c.code pc = .ok (.lreturn, 1)) (hq : Q (some (.long z)) T.heap locs) (hk : cells ≤ K) (hs : slots ≤ N) : Ends p e below s Q K N (T.setTop (mkF m pc Ls (.long z :: st))) :=
  o_ret X hx hlk hret hd rfl (Or.inr (Or.inl ⟨rfl, rfl, _, rfl⟩)) hq hk hs
theorem o_callS (X : Stand p l e R s m args below meth c T locs cells slots) (hx : p.tables.exec = Jvm.exec) (hZ : Z.Warmed39 s.vm) {own : String} {index : Nat} {y : MethodName} {bytes : ByteArray} {maxL : Nat} {rt : Option FieldType} {rm : Room} {argsL rest : List Value} {Q' : Option Value → Heap → List Loc → Prop} {ps : List FieldType} {pr : Option FieldType} (hown : s.vm.findClass own = some m.cls) (w1 : (Jvm.Cond.methodLink own index y).before a0 Z = true) (w2 : (Jvm.Cond.static y).before a0 Z = true) (w3 : (Jvm.Cond.initialized y.cls).before a0 Z = true) (w4 : (Jvm.Cond.code y bytes maxL rt).before a0 Z = true)
    (hy : y.cls ≠ "java/lang/invoke/MethodHandle" ∧ y.cls ≠ "java/lang/invoke/VarHandle") (eT : T.heap = h) (hM : Con l Z y bytes maxL rt rm argsL.toArray h Q') (hsz : Ls.size = c.maxLocals) (hpd : parseMethodDescriptor y.desc = some ⟨ps, pr⟩) (hlen : argsL.length = ps.length) (hst : st = argsL.reverse ++ rest) (hd : decode c.code pc = .ok (.invokestatic index, 3)) (hp : pc + 3 = pc')
    {W : Nat} (hf : rm.frames + 1 ≤ R.frames) (hW : (rest.map fun v => v.category).sum = W) (hl : W + (maxL + 11) + rm.locals ≤ R.locals) (hc : cells + rm.cells ≤ R.cells) (hs : slots + rm.slots ≤ R.slots)
    (E : ∀ (v : Option Value) (T' : State) (L : List Loc), Q' v T'.heap L → Stand p l e R s m args below meth c T' (locs ++ L) (cells + rm.cells) (slots + rm.slots) → Ends p e below s Q K N (T'.setTop (mkF m pc' Ls (v.toList ++ rest)))) : Ends p e below s Q K N (T.setTop (mkF m pc Ls st)) := by
  subst hp hst
  obtain ⟨v, _, ⟨T2, L2, k2, n2⟩, -, X2, ⟨Lc2, hQ2, l2, y2, z2⟩, st2⟩ := Jvm.LawKit.callS X hx (y := y) hown (mvT hZ w1) (mvT hZ w2) (mvT hZ w3) (mvT hZ w4) hy (backOf (W := W) (hM []) hZ w4 w3 hf hl) (g := mkF m pc Ls (argsL.reverse ++ rest)) rfl hsz (argsL := argsL) (rest := rest) (lenOf hpd hlen) rfl (by show 2 * 0 + _ ≤ _; omega) hd (fun _ _ => ⟨rfl, eT, hc, hs⟩)
  dsimp only [Pt.U, Pt.locs, Pt.cells, Pt.slots] at X2 l2 y2 z2 st2 hQ2
  subst l2 y2 z2
  exact Ends.go st2 (E v T2 Lc2 hQ2 X2)
theorem o_newarr (X : Stand p l e R s m args below meth c T locs cells slots) (hx : p.tables.exec = Jvm.exec) (hZ : Z.Warmed39 s.vm) {aty : ArrayType} {n : Int32} {cap : Nat} (w : (Jvm.Cond.arrayClass (newarray.typeOf aty)).before a0 Z = true) (eT : T.heap = h) (hd : decode c.code pc = .ok (.newarray aty, 2)) (hp : pc + 2 = pc') (hn : ¬ n < 0) (hcap : n.toNatClampNeg ≤ cap) (hb : cap * 8 ≤ 536870912) (hc : cells + 1 ≤ R.cells) (hl : slots + cap ≤ R.slots)
    (E : ∀ T' h' cA a, a = h.size → T'.heap = h' → Ext h h' → Arr Z h' a (newA cA (newarray.typeOf aty) n) (newarray.typeOf aty) → Stand p l e R s m args below meth c T' locs (cells + 1) (slots + cap) → Ends p e below s Q K N (T'.setTop (mkF m pc' Ls (.ref a :: st)))) : Ends p e below s Q K N (T.setTop (mkF m pc Ls (.int n :: st))) := by
  subst hp
  obtain ⟨T1, h1, cA, X1, e1, E1, A1, s1⟩ := newP X hx hZ w eT (g := mkF m pc Ls (.int n :: st)) rfl hd rfl hn hcap hb hc hl
  exact Ends.go s1 (E T1 h1 cA _ rfl e1 E1 A1 X1)
theorem o_len (X : Stand p l e R s m args below meth c T locs cells slots) (hx : p.tables.exec = Jvm.exec) (hZ : Z.Warmed39 s.vm) {a : Addr} {cl : Cell} {ty : FieldType} {n : Int32} (eT : T.heap = h) (A : Arr Z h a cl ty) (hn : cl.slots.size.toInt32 = n) (hd : decode c.code pc = .ok (.arraylength, 1)) (hp : pc + 1 = pc') (E : Ends p e below s Q K N (T.setTop (mkF m pc' Ls (.int n :: st)))) : Ends p e below s Q K N (T.setTop (mkF m pc Ls (.ref a :: st))) := by
  subst hp hn
  exact Ends.go (fun t q => X.arraylength hx (by rw [eT]; exact A.1) (State.isArrayOf_alike hZ.alike A.2.1) (g := mkF m pc Ls (.ref a :: st)) rfl rfl hd _ q) E
theorem o_laload (X : Stand p l e R s m args below meth c T locs cells slots) (hx : p.tables.exec = Jvm.exec) (hZ : Z.Warmed39 s.vm) {a : Addr} {cl : Cell} {j : Int32} {v : Value} (eT : T.heap = h) (A : Arr Z h a cl .long) (hj : ¬ (j < 0 ∨ cl.slots.size ≤ j.toNatClampNeg)) (hv : cl.slots[j.toNatClampNeg]? = some v) (hd : decode c.code pc = .ok (.laload, 1)) (hp : pc + 1 = pc') (E : Ends p e below s Q K N (T.setTop (mkF m pc' Ls (v :: st)))) : Ends p e below s Q K N (T.setTop (mkF m pc Ls (.int j :: .ref a :: st))) := by
  subst hp
  exact Ends.go (fun t q => X.laload hx (by rw [eT]; exact A.1) (State.isArrayOf_alike hZ.alike A.2.1) A.2.2 hj hv (g := mkF m pc Ls (.int j :: .ref a :: st)) rfl rfl hd _ q) E
theorem o_lastore (X : Stand p l e R s m args below meth c T locs cells slots) (hx : p.tables.exec = Jvm.exec) (hZ : Z.Warmed39 s.vm) {a : Addr} {cl : Cell} {j : Int32} {v : Int64} (eT : T.heap = h) (A : Arr Z h a cl .long) (hj : ¬ (j < 0 ∨ cl.slots.size ≤ j.toNatClampNeg)) (hd : decode c.code pc = .ok (.lastore, 1)) (hp : pc + 1 = pc') (E : ∀ T' h', T'.heap = h' → Wr h h' a j.toNatClampNeg (.long v) → Stand p l e R s m args below meth c T' (locs ++ [⟨a, j.toNatClampNeg⟩]) cells slots → Ends p e below s Q K N (T'.setTop (mkF m pc' Ls st))) : Ends p e below s Q K N (T.setTop (mkF m pc Ls (.long v :: .int j :: .ref a :: st))) := by
  subst hp
  obtain ⟨T1, h1, X1, e1, W1, s1⟩ := stJ X hx hZ eT A hj (g := mkF m pc Ls (.long v :: .int j :: .ref a :: st)) rfl rfl hd
  exact Ends.go s1 (E T1 h1 e1 W1 X1)
def Cont (cl : Cell) (n : Nat) (g : Nat → Value) : Prop := cl.slots.size = n ∧ ∀ k, k < n → cl.slots[k]? = some (g k)
theorem Cont.new (cA : ClassId) (ty : FieldType) (z : Int32) (n : Nat) (hn : z.toNatClampNeg = n) : Cont (newA cA ty z) n (fun _ => defaultValue ty) := by
  subst hn; exact ⟨sz_new _ _ _, fun k hk => by simp [newA, hk]⟩
theorem Cont.put {cl : Cell} {n : Nat} {g : Nat → Value} (C : Cont cl n g) (j : Nat) (v : Value) : Cont (cl.setSlot j v) n (fun k => if k = j then v else g k) := by
  refine ⟨(sz_set _ _ _).trans C.1, fun k hk => ?_⟩
  by_cases q : k = j
  · subst q; simp [Cell.setSlot, C.1, hk]
  · show (cl.slots.setIfInBounds j v)[k]? = _
    rw [Array.getElem?_setIfInBounds_ne (fun r => q r.symm)]
    simp only [if_neg q]; exact C.2 k hk
theorem Cont.congr {cl : Cell} {n : Nat} {g g' : Nat → Value} (C : Cont cl n g) (q : ∀ k, k < n → g k = g' k) : Cont cl n g' := ⟨C.1, fun k hk => (C.2 k hk).trans (congrArg some (q k hk))⟩
theorem Cont.inb {cl : Cell} {n : Nat} {g : Nat → Value} (C : Cont cl n g) {j : Int32} (h0 : 0 ≤ j.toInt) (h1 : j.toInt < n) : ¬ (j < 0 ∨ cl.slots.size ≤ j.toNatClampNeg) := by
  rw [C.1]; simp only [Int32.lt_iff_toInt_lt, Int32.toNatClampNeg, Int32.reduceToInt]; omega
theorem Cont.at {cl : Cell} {n : Nat} {g : Nat → Value} (C : Cont cl n g) {j : Int32} (h0 : 0 ≤ j.toInt) (h1 : j.toInt < n) : cl.slots[j.toNatClampNeg]? = some (g j.toNatClampNeg) := C.2 _ (by simp only [Int32.toNatClampNeg]; omega)
end Own
end Jvm.Pilot.@@N@@
namespace Jvm.Pilot.@@N@@
open Jvm Jvm.ClassFile Sem Op Lib Jvm.Free Jvm.Stand Jvm.LawKit Jvm.RoadKit Bundle Jvm.Pilot.@@N@@.Jvm.D
theorem pn_0 : plainName "com/example/shiftwise/shiftwise/HeapBytesSumPinLaw" = true := by first | (simp [plainName, overriddenIn]; done) | decide +kernel
theorem pd_0 : parseMethodDescriptor "(JJJJI)Z" = some ⟨[.long, .long, .long, .long, .int], some .boolean⟩ := by decide +kernel
theorem d1_0 : decode method_3_code 0 = .ok (.lload_n 0, 1) := by decide +kernel
theorem d1_1 : decode method_3_code 1 = .ok (.lload_n 2, 1) := by decide +kernel
theorem d1_2 : decode method_3_code 2 = .ok (.ladd, 1) := by decide +kernel
theorem d1_3 : decode method_3_code 3 = .ok (.lstore 4, 2) := by decide +kernel
theorem d1_5 : decode method_3_code 5 = .ok (.lload 4, 2) := by decide +kernel
theorem d1_7 : decode method_3_code 7 = .ok (.lconst 0, 1) := by decide +kernel
theorem d1_8 : decode method_3_code 8 = .ok (.lcmp, 1) := by decide +kernel
theorem d1_9 : decode method_3_code 9 = .ok (.ifCond .ge 9, 3) := by decide +kernel
theorem d1_12 : decode method_3_code 12 = .ok (.ldc2_w 9, 3) := by decide +kernel
theorem d1_15 : decode method_3_code 15 = .ok (.goto 5, 3) := by decide +kernel
theorem d1_18 : decode method_3_code 18 = .ok (.lload 4, 2) := by decide +kernel
theorem d1_20 : decode method_3_code 20 = .ok (.lreturn, 1) := by decide +kernel
theorem pn_1 : plainName "com/example/shiftwise/shiftwise/HeapBytesSumPinLaw" = true := by first | (simp [plainName, overriddenIn]; done) | decide +kernel
theorem pd_1 : parseMethodDescriptor "(JJ)J" = some ⟨[.long, .long], some .long⟩ := by decide +kernel
theorem d2_0 : decode prog_11_method_10_code 0 = .ok (.lconst 0, 1) := by decide +kernel
theorem d2_1 : decode prog_11_method_10_code 1 = .ok (.lstore_n 1, 1) := by decide +kernel
theorem d2_2 : decode prog_11_method_10_code 2 = .ok (.aload_n 0, 1) := by decide +kernel
theorem d2_3 : decode prog_11_method_10_code 3 = .ok (.astore_n 3, 1) := by decide +kernel
theorem d2_4 : decode prog_11_method_10_code 4 = .ok (.aload_n 3, 1) := by decide +kernel
theorem d2_5 : decode prog_11_method_10_code 5 = .ok (.arraylength, 1) := by decide +kernel
theorem d2_6 : decode prog_11_method_10_code 6 = .ok (.istore 4, 2) := by decide +kernel
theorem d2_8 : decode prog_11_method_10_code 8 = .ok (.iconst 0, 1) := by decide +kernel
theorem d2_9 : decode prog_11_method_10_code 9 = .ok (.istore 5, 2) := by decide +kernel
theorem d2_11 : decode prog_11_method_10_code 11 = .ok (.iload 5, 2) := by decide +kernel
theorem d2_13 : decode prog_11_method_10_code 13 = .ok (.iload 4, 2) := by decide +kernel
theorem d2_15 : decode prog_11_method_10_code 15 = .ok (.if_icmp .ge 37, 3) := by decide +kernel
theorem d2_18 : decode prog_11_method_10_code 18 = .ok (.aload_n 3, 1) := by decide +kernel
theorem d2_19 : decode prog_11_method_10_code 19 = .ok (.iload 5, 2) := by decide +kernel
theorem d2_21 : decode prog_11_method_10_code 21 = .ok (.laload, 1) := by decide +kernel
theorem d2_22 : decode prog_11_method_10_code 22 = .ok (.lstore 6, 2) := by decide +kernel
theorem d2_24 : decode prog_11_method_10_code 24 = .ok (.lload 6, 2) := by decide +kernel
theorem d2_26 : decode prog_11_method_10_code 26 = .ok (.ldc2_w 55, 3) := by decide +kernel
theorem d2_29 : decode prog_11_method_10_code 29 = .ok (.lload_n 1, 1) := by decide +kernel
theorem d2_30 : decode prog_11_method_10_code 30 = .ok (.lsub, 1) := by decide +kernel
theorem d2_31 : decode prog_11_method_10_code 31 = .ok (.lcmp, 1) := by decide +kernel
theorem d2_32 : decode prog_11_method_10_code 32 = .ok (.ifCond .le 9, 3) := by decide +kernel
theorem d2_35 : decode prog_11_method_10_code 35 = .ok (.ldc2_w 55, 3) := by decide +kernel
theorem d2_38 : decode prog_11_method_10_code 38 = .ok (.goto 7, 3) := by decide +kernel
theorem d2_41 : decode prog_11_method_10_code 41 = .ok (.lload_n 1, 1) := by decide +kernel
theorem d2_42 : decode prog_11_method_10_code 42 = .ok (.lload 6, 2) := by decide +kernel
theorem d2_44 : decode prog_11_method_10_code 44 = .ok (.ladd, 1) := by decide +kernel
theorem d2_45 : decode prog_11_method_10_code 45 = .ok (.lstore_n 1, 1) := by decide +kernel
theorem d2_46 : decode prog_11_method_10_code 46 = .ok (.iinc 5 1, 3) := by decide +kernel
theorem d2_49 : decode prog_11_method_10_code 49 = .ok (.goto (-38), 3) := by decide +kernel
theorem d2_52 : decode prog_11_method_10_code 52 = .ok (.lload_n 1, 1) := by decide +kernel
theorem d2_53 : decode prog_11_method_10_code 53 = .ok (.lreturn, 1) := by decide +kernel
theorem pn_2 : plainName "com/example/shiftwise/shiftwise/HeapBytes" = true := by first | (simp [plainName, overriddenIn]; done) | decide +kernel
theorem pd_2 : parseMethodDescriptor "([J)J" = some ⟨[(.array .long)], some .long⟩ := by decide +kernel

theorem own_mask31 (x : Int32) : 0 ≤ (x &&& 2147483647).toInt := by
  have := c_mask x 2147483647 31 (by decide) (by decide)
  omega
theorem own_rem (x k : Int32) (n : Int) (hn : 0 < n) (hk : k.toInt = n) (hx : 0 ≤ x.toInt) : 0 ≤ (x % k).toInt ∧ (x % k).toInt < n := by
  have := (c_irem x k n hk).1 hx
  rw [this]
  exact ⟨Int.emod_nonneg _ (by omega), Int.emod_lt_of_pos _ hn⟩
theorem own_is {v : Int32} {k : Int} (h : v.toInt = k) : v = Int32.ofInt k := by rw [← h, Int32.ofInt_toInt]
theorem own_s5 (v : Int32) (h0 : 0 ≤ v.toInt) (h1 : v.toInt < 5) : v = (0 : Int32) ∨ v = (1 : Int32) ∨ v = (2 : Int32) ∨ v = (3 : Int32) ∨ v = (4 : Int32) := by
  have h : v.toInt = 0 ∨ v.toInt = 1 ∨ v.toInt = 2 ∨ v.toInt = 3 ∨ v.toInt = 4 := by omega
  rcases h with h | h | h | h | h
  · exact Or.inl (own_is h)
  · exact Or.inr (Or.inl (own_is h))
  · exact Or.inr (Or.inr (Or.inl (own_is h)))
  · exact Or.inr (Or.inr (Or.inr (Or.inl (own_is h))))
  · exact Or.inr (Or.inr (Or.inr (Or.inr (own_is h))))
def fsat (p1 p2 : Int64) : Int64 := (if (p1 + p2) < (0 : Int64) then (9223372036854775807 : Int64) else p1 + p2)
abbrev Q1 (Z : State) (p1 p2 : Int64) (h0 : Heap) (v : Option Value) (h : Heap) (L : List Loc) : Prop := v = some (.long (fsat p1 p2)) ∧ L = [] ∧ h = h0
set_option maxRecDepth 65536 in
set_option maxHeartbeats 40000000 in
theorem rm1 (l : Launch) (Z : State) (a0 : Array Value) (hw : ∀ d ∈ tables_1, d.before a0 Z = true) (p1 p2 : Int64) (h0 : Heap)  :
    Con l Z (⟨"com/example/shiftwise/shiftwise/HeapBytesSumPinLaw", "sat", "(JJ)J"⟩ : MethodName) method_3_code 6 (some .long) ({ frames := 0, cells := 0, slots := 0, locals := 0 } : Room) #[(.long p1), (.long p2)] h0 (Q1 Z p1 p2 h0) := by
  refine Con.of pn_1 (fun p e s m below meth c T0 X0 hx hby hml hret hlk hown hnm hZ e0 => ?_)
  replace hown : s.vm.findClass "com/example/shiftwise/shiftwise/HeapBytesSumPinLaw" = some m.cls := hown
  have ef : entryFrame m #[(.long p1), (.long p2)] 6 = mkF m 0 #[.val (.long p1), .second, .val (.long p2), .second, .unset, .unset] [] := by first | (simp [entryFrame, mkF, argsToLocals, Value.category]; done) | rfl
  rw [ef]
  refine o_lloadN (pc' := 1) X0 hx (hb hby d1_0) rfl rfl ?_
  refine o_lloadN (pc' := 2) X0 hx (hb hby d1_1) rfl rfl ?_
  refine o_ladd (pc' := 3) X0 hx (hb hby d1_2) rfl ?_
  refine o_lstore (Ls' := #[.val (.long p1), .second, .val (.long p2), .second, .val (.long (p1 + p2)), .second]) (pc' := 5) X0 hx (hb hby d1_3) rfl rfl ?_
  refine o_lload (pc' := 7) X0 hx (hb hby d1_5) rfl rfl ?_
  refine o_lconst (v := (0 : Int64)) (pc' := 8) X0 hx (hb hby d1_7) (by decide) rfl ?_
  refine o_lcmp_ge (p1 := 12) (p2 := 18) X0 hx (hb hby d1_8) (hb hby d1_9) rfl (by decide) (by decide) (fun hc8 => ?_) (fun hc8 => ?_)
  · refine o_lload (pc' := 20) X0 hx (hb hby d1_18) rfl rfl ?_
    exact o_retJ X0 hx hlk hret (hb hby d1_20) ⟨by simp only [fsat, if_neg hc8], rfl, e0⟩ (by decide) (by decide)
  · refine o_ldc2 (pc' := 15) (v := (9223372036854775807 : Int64)) X0 hx (hb hby d1_12) hZ hown (hw _ (List.mem_of_getElem? (i := 0) rfl)) rfl ?_
    refine o_goto (pc' := 20) X0 hx (hb hby d1_15) (by decide) (by decide) ?_
    exact o_retJ X0 hx hlk hret (hb hby d1_20) ⟨by simp only [fsat, if_pos hc8], rfl, e0⟩ (by decide) (by decide)

def stp (tot x : Int64) : Int64 := if (9223372036854775807 : Int64) - tot < x then (9223372036854775807 : Int64) else tot + x
def fsum (gl : Nat → Int64) : Nat → Int64
  | 0 => 0
  | k + 1 => stp (fsum gl k) (gl k)
theorem own_stp (tot x : Int64) (h0 : 0 ≤ tot.toInt) (h1 : 0 ≤ x.toInt) : stp tot x = fsat tot x ∧ 0 ≤ (fsat tot x).toInt := by
  have a1 := c_ladd tot x
  have a2 := c_lsub (9223372036854775807 : Int64) tot
  have r1 := rng64 (tot + x)
  have r2 := rng64 ((9223372036854775807 : Int64) - tot)
  have r3 := rng64 tot
  have r4 := rng64 x
  have em : ((9223372036854775807 : Int64)).toInt = 9223372036854775807 := by decide
  have e0 : (0 : Int64).toInt = 0 := by decide
  rw [em] at a2
  by_cases c1 : tot + x < (0 : Int64)
  · have d1 := Int64.lt_iff_toInt_lt.mp c1
    rw [e0] at d1
    have c2 : (9223372036854775807 : Int64) - tot < x := Int64.lt_iff_toInt_lt.mpr (by omega)
    rw [stp, fsat, if_pos c1, if_pos c2, em]
    exact ⟨rfl, by omega⟩
  · have d1 : ¬ (tot + x).toInt < (0 : Int64).toInt := fun q => c1 (Int64.lt_iff_toInt_lt.mpr q)
    rw [e0] at d1
    have c2 : ¬ (9223372036854775807 : Int64) - tot < x := fun q => by have := Int64.lt_iff_toInt_lt.mp q; omega
    rw [stp, fsat, if_neg c1, if_neg c2]
    exact ⟨rfl, by omega⟩
theorem own_mx (x v : Int64) (h : x &&& (9223372036854775807 : Int64) = v) : 0 ≤ v.toInt := by
  rw [← h, c_maskL x (9223372036854775807 : Int64) 63 (by decide) (by decide)]; omega
abbrev Q2 (Z : State) (t : Addr) (cl : Cell) (n : Nat) (nn : Int32) (gl : Nat → Int64) (h0 : Heap) (v : Option Value) (h : Heap) (L : List Loc) : Prop := v = some (.long (fsum gl n)) ∧ L = [] ∧ h = h0
set_option maxRecDepth 65536 in
set_option maxHeartbeats 40000000 in
theorem rm2 (l : Launch) (Z : State) (a0 : Array Value) (hw : ∀ d ∈ tables_1, d.before a0 Z = true) (t : Addr) (cl : Cell) (n : Nat) (nn : Int32) (gl : Nat → Int64) (h0 : Heap) (A : Arr Z h0 t cl .long) (C : Cont cl n (fun k => .long (gl k))) (hn : nn.toInt = n) :
    Con l Z (⟨"com/example/shiftwise/shiftwise/HeapBytes", "sum", "([J)J"⟩ : MethodName) prog_11_method_10_code 8 (some .long) ({ frames := 0, cells := 0, slots := 0, locals := 0 } : Room) #[(.ref t)] h0 (Q2 Z t cl n nn gl h0) := by
  refine Con.of pn_2 (fun p e s m below meth c T0 X0 hx hby hml hret hlk hown hnm hZ e0 => ?_)
  replace hown : s.vm.findClass "com/example/shiftwise/shiftwise/HeapBytes" = some m.cls := hown
  have ef : entryFrame m #[(.ref t)] 8 = mkF m 0 #[.val (.ref t), .unset, .unset, .unset, .unset, .unset, .unset, .unset] [] := by first | (simp [entryFrame, mkF, argsToLocals, Value.category]; done) | rfl
  rw [ef]
  refine o_lconst (v := (0 : Int64)) (pc' := 1) X0 hx (hb hby d2_0) (by decide) rfl ?_
  refine o_lstoreN (Ls' := #[.val (.ref t), .val (.long (0 : Int64)), .second, .unset, .unset, .unset, .unset, .unset]) (pc' := 2) X0 hx (hb hby d2_1) rfl rfl ?_
  refine o_aloadN (pc' := 3) X0 hx (hb hby d2_2) rfl rfl rfl ?_
  refine o_astoreN (Ls' := #[.val (.ref t), .val (.long (0 : Int64)), .second, .val (.ref t), .unset, .unset, .unset, .unset]) (pc' := 4) X0 hx (hb hby d2_3) rfl rfl rfl ?_
  refine o_aloadN (pc' := 5) X0 hx (hb hby d2_4) rfl rfl rfl ?_
  have hlen : cl.slots.size.toInt32 = nn := by rw [C.1]; exact Int32.toInt_inj.mp (by rw [len_toInt (by have := nn.toInt_lt; omega), hn])
  refine o_len (pc' := 6) (n := nn) X0 hx hZ e0 A hlen (hb hby d2_5) rfl ?_
  refine o_istore (Ls' := #[.val (.ref t), .val (.long (0 : Int64)), .second, .val (.ref t), .val (.int nn), .unset, .unset, .unset]) (pc' := 8) X0 hx (hb hby d2_6) rfl rfl ?_
  refine o_iconst (v := (0 : Int32)) (pc' := 9) X0 hx (hb hby d2_8) (by decide) rfl ?_
  refine o_istore (Ls' := #[.val (.ref t), .val (.long (0 : Int64)), .second, .val (.ref t), .val (.int nn), .val (.int (0 : Int32)), .unset, .unset]) (pc' := 11) X0 hx (hb hby d2_9) rfl rfl ?_
  suffices loop : ∀ (d j : Nat) (i : Int32) (o6 o7 : Slot), i.toInt = j → j + d = n → ((o6 = .unset ∧ o7 = .unset) ∨ ∃ y, o6 = .val (.long y) ∧ o7 = .second) → Ends p e below s (Q2 Z t cl n nn gl h0) ({ frames := 0, cells := 0, slots := 0, locals := 0 } : Room).cells ({ frames := 0, cells := 0, slots := 0, locals := 0 } : Room).slots (T0.setTop (mkF m 11 #[.val (.ref t), .val (.long (fsum gl j)), .second, .val (.ref t), .val (.int nn), .val (.int i), o6, o7] [])) from loop n 0 0 _ _ (by decide) (by omega) (Or.inl ⟨rfl, rfl⟩)
  intro d
  induction d with
  | zero =>
    intro j i o6 o7 hi hj ho
    obtain rfl : j = n := by omega
    refine o_iload (pc' := 13) X0 hx (hb hby d2_11) rfl rfl ?_
    refine o_iload (pc' := 15) X0 hx (hb hby d2_13) rfl rfl ?_
    refine o_icmp_ge (p1 := 18) (p2 := 52) X0 hx (hb hby d2_15) rfl (by decide) (by decide) (fun hc15 => ?_) (fun hc15 => absurd hc15 (fun q => by have := Int32.lt_iff_toInt_lt.mp q; omega))
    refine o_lloadN (pc' := 53) X0 hx (hb hby d2_52) rfl rfl ?_
    exact o_retJ X0 hx hlk hret (hb hby d2_53) ⟨rfl, rfl, e0⟩ (by decide) (by decide)
  | succ d ih =>
    intro j i o6 o7 hi hj ho
    have hij : i.toNatClampNeg = j := by simp only [Int32.toNatClampNeg]; omega
    have hin : (i + (1 : Int32)).toInt = ((j + 1 : Nat) : Int) := by have := c_iadd i 1; have := rng32 (i + 1); have := rng32 nn; have e1 : (1 : Int32).toInt = 1 := (by decide); omega
    rcases ho with ⟨rfl, rfl⟩ | ⟨y, rfl, rfl⟩
    · refine o_iload (pc' := 13) X0 hx (hb hby d2_11) rfl rfl ?_
      refine o_iload (pc' := 15) X0 hx (hb hby d2_13) rfl rfl ?_
      refine o_icmp_ge (p1 := 18) (p2 := 52) X0 hx (hb hby d2_15) rfl (by decide) (by decide) (fun hc15 => absurd (Int32.lt_iff_toInt_lt.mpr (by omega)) hc15) (fun hc15 => ?_)
      refine o_aloadN (pc' := 19) X0 hx (hb hby d2_18) rfl rfl rfl ?_
      refine o_iload (pc' := 21) X0 hx (hb hby d2_19) rfl rfl ?_
      refine o_laload (pc' := 22) X0 hx hZ e0 A (C.inb (by omega) (by omega)) (C.at (by omega) (by omega)) (hb hby d2_21) rfl ?_
      show Ends p e below s (Q2 Z t cl n nn gl h0) ({ frames := 0, cells := 0, slots := 0, locals := 0 } : Room).cells ({ frames := 0, cells := 0, slots := 0, locals := 0 } : Room).slots (T0.setTop (mkF m 22 #[.val (.ref t), .val (.long (fsum gl j)), .second, .val (.ref t), .val (.int nn), .val (.int i), .unset, .unset] [(.long (gl i.toNatClampNeg))]))
      rw [hij]
      refine o_lstore (Ls' := #[.val (.ref t), .val (.long (fsum gl j)), .second, .val (.ref t), .val (.int nn), .val (.int i), .val (.long (gl j)), .second]) (pc' := 24) X0 hx (hb hby d2_22) rfl rfl ?_
      refine o_lload (pc' := 26) X0 hx (hb hby d2_24) rfl rfl ?_
      refine o_ldc2 (pc' := 29) (v := (9223372036854775807 : Int64)) X0 hx (hb hby d2_26) hZ hown (hw _ (List.mem_of_getElem? (i := 11) rfl)) rfl ?_
      refine o_lloadN (pc' := 30) X0 hx (hb hby d2_29) rfl rfl ?_
      refine o_lsub (pc' := 31) X0 hx (hb hby d2_30) rfl ?_
      refine o_lcmp_le (p1 := 35) (p2 := 41) X0 hx (hb hby d2_31) (hb hby d2_32) rfl (by decide) (by decide) (fun hc31 => ?_) (fun hc31 => ?_)
      · refine o_lloadN (pc' := 42) X0 hx (hb hby d2_41) rfl rfl ?_
        refine o_lload (pc' := 44) X0 hx (hb hby d2_42) rfl rfl ?_
        refine o_ladd (pc' := 45) X0 hx (hb hby d2_44) rfl ?_
        refine o_lstoreN (Ls' := #[.val (.ref t), .val (.long ((fsum gl j) + (gl j))), .second, .val (.ref t), .val (.int nn), .val (.int i), .val (.long (gl j)), .second]) (pc' := 46) X0 hx (hb hby d2_45) rfl rfl ?_
        refine o_iinc (Ls' := #[.val (.ref t), .val (.long ((fsum gl j) + (gl j))), .second, .val (.ref t), .val (.int nn), .val (.int (i + (1 : Int32))), .val (.long (gl j)), .second]) (v' := i + (1 : Int32)) (pc' := 49) X0 hx (hb hby d2_46) rfl rfl rfl rfl ?_
        refine o_goto (pc' := 11) X0 hx (hb hby d2_49) (by decide) (by decide) ?_
        have hs : fsum gl (j + 1) = (fsum gl j) + (gl j) := by rw [fsum, stp, if_neg hc31]
        rw [← hs]
        exact ih (j + 1) (i + (1 : Int32)) _ _ hin (by omega) (Or.inr ⟨_, rfl, rfl⟩)
      · refine o_ldc2 (pc' := 38) (v := (9223372036854775807 : Int64)) X0 hx (hb hby d2_35) hZ hown (hw _ (List.mem_of_getElem? (i := 11) rfl)) rfl ?_
        refine o_goto (pc' := 45) X0 hx (hb hby d2_38) (by decide) (by decide) ?_
        refine o_lstoreN (Ls' := #[.val (.ref t), .val (.long (9223372036854775807 : Int64)), .second, .val (.ref t), .val (.int nn), .val (.int i), .val (.long (gl j)), .second]) (pc' := 46) X0 hx (hb hby d2_45) rfl rfl ?_
        refine o_iinc (Ls' := #[.val (.ref t), .val (.long (9223372036854775807 : Int64)), .second, .val (.ref t), .val (.int nn), .val (.int (i + (1 : Int32))), .val (.long (gl j)), .second]) (v' := i + (1 : Int32)) (pc' := 49) X0 hx (hb hby d2_46) rfl rfl rfl rfl ?_
        refine o_goto (pc' := 11) X0 hx (hb hby d2_49) (by decide) (by decide) ?_
        have hs : fsum gl (j + 1) = (9223372036854775807 : Int64) := by rw [fsum, stp, if_pos hc31]
        rw [← hs]
        exact ih (j + 1) (i + (1 : Int32)) _ _ hin (by omega) (Or.inr ⟨_, rfl, rfl⟩)
    · refine o_iload (pc' := 13) X0 hx (hb hby d2_11) rfl rfl ?_
      refine o_iload (pc' := 15) X0 hx (hb hby d2_13) rfl rfl ?_
      refine o_icmp_ge (p1 := 18) (p2 := 52) X0 hx (hb hby d2_15) rfl (by decide) (by decide) (fun hc15 => absurd (Int32.lt_iff_toInt_lt.mpr (by omega)) hc15) (fun hc15 => ?_)
      refine o_aloadN (pc' := 19) X0 hx (hb hby d2_18) rfl rfl rfl ?_
      refine o_iload (pc' := 21) X0 hx (hb hby d2_19) rfl rfl ?_
      refine o_laload (pc' := 22) X0 hx hZ e0 A (C.inb (by omega) (by omega)) (C.at (by omega) (by omega)) (hb hby d2_21) rfl ?_
      show Ends p e below s (Q2 Z t cl n nn gl h0) ({ frames := 0, cells := 0, slots := 0, locals := 0 } : Room).cells ({ frames := 0, cells := 0, slots := 0, locals := 0 } : Room).slots (T0.setTop (mkF m 22 #[.val (.ref t), .val (.long (fsum gl j)), .second, .val (.ref t), .val (.int nn), .val (.int i), .val (.long y), .second] [(.long (gl i.toNatClampNeg))]))
      rw [hij]
      refine o_lstore (Ls' := #[.val (.ref t), .val (.long (fsum gl j)), .second, .val (.ref t), .val (.int nn), .val (.int i), .val (.long (gl j)), .second]) (pc' := 24) X0 hx (hb hby d2_22) rfl rfl ?_
      refine o_lload (pc' := 26) X0 hx (hb hby d2_24) rfl rfl ?_
      refine o_ldc2 (pc' := 29) (v := (9223372036854775807 : Int64)) X0 hx (hb hby d2_26) hZ hown (hw _ (List.mem_of_getElem? (i := 11) rfl)) rfl ?_
      refine o_lloadN (pc' := 30) X0 hx (hb hby d2_29) rfl rfl ?_
      refine o_lsub (pc' := 31) X0 hx (hb hby d2_30) rfl ?_
      refine o_lcmp_le (p1 := 35) (p2 := 41) X0 hx (hb hby d2_31) (hb hby d2_32) rfl (by decide) (by decide) (fun hc31 => ?_) (fun hc31 => ?_)
      · refine o_lloadN (pc' := 42) X0 hx (hb hby d2_41) rfl rfl ?_
        refine o_lload (pc' := 44) X0 hx (hb hby d2_42) rfl rfl ?_
        refine o_ladd (pc' := 45) X0 hx (hb hby d2_44) rfl ?_
        refine o_lstoreN (Ls' := #[.val (.ref t), .val (.long ((fsum gl j) + (gl j))), .second, .val (.ref t), .val (.int nn), .val (.int i), .val (.long (gl j)), .second]) (pc' := 46) X0 hx (hb hby d2_45) rfl rfl ?_
        refine o_iinc (Ls' := #[.val (.ref t), .val (.long ((fsum gl j) + (gl j))), .second, .val (.ref t), .val (.int nn), .val (.int (i + (1 : Int32))), .val (.long (gl j)), .second]) (v' := i + (1 : Int32)) (pc' := 49) X0 hx (hb hby d2_46) rfl rfl rfl rfl ?_
        refine o_goto (pc' := 11) X0 hx (hb hby d2_49) (by decide) (by decide) ?_
        have hs : fsum gl (j + 1) = (fsum gl j) + (gl j) := by rw [fsum, stp, if_neg hc31]
        rw [← hs]
        exact ih (j + 1) (i + (1 : Int32)) _ _ hin (by omega) (Or.inr ⟨_, rfl, rfl⟩)
      · refine o_ldc2 (pc' := 38) (v := (9223372036854775807 : Int64)) X0 hx (hb hby d2_35) hZ hown (hw _ (List.mem_of_getElem? (i := 11) rfl)) rfl ?_
        refine o_goto (pc' := 45) X0 hx (hb hby d2_38) (by decide) (by decide) ?_
        refine o_lstoreN (Ls' := #[.val (.ref t), .val (.long (9223372036854775807 : Int64)), .second, .val (.ref t), .val (.int nn), .val (.int i), .val (.long (gl j)), .second]) (pc' := 46) X0 hx (hb hby d2_45) rfl rfl ?_
        refine o_iinc (Ls' := #[.val (.ref t), .val (.long (9223372036854775807 : Int64)), .second, .val (.ref t), .val (.int nn), .val (.int (i + (1 : Int32))), .val (.long (gl j)), .second]) (v' := i + (1 : Int32)) (pc' := 49) X0 hx (hb hby d2_46) rfl rfl rfl rfl ?_
        refine o_goto (pc' := 11) X0 hx (hb hby d2_49) (by decide) (by decide) ?_
        have hs : fsum gl (j + 1) = (9223372036854775807 : Int64) := by rw [fsum, stp, if_pos hc31]
        rw [← hs]
        exact ih (j + 1) (i + (1 : Int32)) _ _ hin (by omega) (Or.inr ⟨_, rfl, rfl⟩)
abbrev Q0 (Z : State) (p1 p2 p3 p4 : Int64) (p5 : Int32) (h0 : Heap) (v : Option Value) (h : Heap) (L : List Loc) : Prop := v = some (.int (1 : Int32)) ∧ Fr h0.size L
set_option maxRecDepth 65536 in
set_option maxHeartbeats 40000000 in
theorem rm0 (l : Launch) (Z : State) (a0 : Array Value) (hw : ∀ d ∈ tables_1, d.before a0 Z = true) (p1 p2 p3 p4 : Int64) (p5 : Int32) (h0 : Heap)  :
    Con l Z x code maxLocals ret room_1 #[(.long p1), (.long p2), (.long p3), (.long p4), (.int p5)] h0 (Q0 Z p1 p2 p3 p4 p5 h0) := by
  refine Con.of pn_0 (fun p e s m below meth c T0 X0 hx hby hml hret hlk hown hnm hZ e0 => ?_)
  replace hown : s.vm.findClass "com/example/shiftwise/shiftwise/HeapBytesSumPinLaw" = some m.cls := hown
  have ef : entryFrame m #[(.long p1), (.long p2), (.long p3), (.long p4), (.int p5)] maxLocals = mkF m 0 #[.val (.long p1), .second, .val (.long p2), .second, .val (.long p3), .second, .val (.long p4), .second, .val (.int p5), .unset, .unset, .unset, .unset, .unset, .unset, .unset, .unset, .unset, .unset, .unset, .unset] [] := by first | (simp [entryFrame, mkF, argsToLocals, Value.category, maxLocals]; done) | rfl
  rw [ef]
  refine o_lloadN (pc' := 1) X0 hx (hb hby at_0) rfl rfl ?_
  refine o_ldc2 (pc' := 4) (v := (9223372036854775807 : Int64)) X0 hx (hb hby at_1) hZ hown (hw _ (List.mem_of_getElem? (i := 0) rfl)) rfl ?_
  refine o_land (pc' := 5) X0 hx (hb hby at_4) rfl ?_
  generalize ha1 : p1 &&& (9223372036854775807 : Int64) = a1
  have ra := own_mx p1 a1 ha1
  refine o_lstore (Ls' := #[.val (.long p1), .second, .val (.long p2), .second, .val (.long p3), .second, .val (.long p4), .second, .val (.int p5), .val (.long a1), .second, .unset, .unset, .unset, .unset, .unset, .unset, .unset, .unset, .unset, .unset]) (pc' := 7) X0 hx (hb hby at_5) rfl rfl ?_
  refine o_lloadN (pc' := 8) X0 hx (hb hby at_7) rfl rfl ?_
  refine o_ldc2 (pc' := 11) (v := (9223372036854775807 : Int64)) X0 hx (hb hby at_8) hZ hown (hw _ (List.mem_of_getElem? (i := 0) rfl)) rfl ?_
  refine o_land (pc' := 12) X0 hx (hb hby at_11) rfl ?_
  generalize hb1 : p2 &&& (9223372036854775807 : Int64) = b1
  have rb := own_mx p2 b1 hb1
  refine o_lstore (Ls' := #[.val (.long p1), .second, .val (.long p2), .second, .val (.long p3), .second, .val (.long p4), .second, .val (.int p5), .val (.long a1), .second, .val (.long b1), .second, .unset, .unset, .unset, .unset, .unset, .unset, .unset, .unset]) (pc' := 14) X0 hx (hb hby at_12) rfl rfl ?_
  refine o_lload (pc' := 16) X0 hx (hb hby at_14) rfl rfl ?_
  refine o_ldc2 (pc' := 19) (v := (9223372036854775807 : Int64)) X0 hx (hb hby at_16) hZ hown (hw _ (List.mem_of_getElem? (i := 0) rfl)) rfl ?_
  refine o_land (pc' := 20) X0 hx (hb hby at_19) rfl ?_
  generalize hc1 : p3 &&& (9223372036854775807 : Int64) = c1
  have rc := own_mx p3 c1 hc1
  refine o_lstore (Ls' := #[.val (.long p1), .second, .val (.long p2), .second, .val (.long p3), .second, .val (.long p4), .second, .val (.int p5), .val (.long a1), .second, .val (.long b1), .second, .val (.long c1), .second, .unset, .unset, .unset, .unset, .unset, .unset]) (pc' := 22) X0 hx (hb hby at_20) rfl rfl ?_
  refine o_lload (pc' := 24) X0 hx (hb hby at_22) rfl rfl ?_
  refine o_ldc2 (pc' := 27) (v := (9223372036854775807 : Int64)) X0 hx (hb hby at_24) hZ hown (hw _ (List.mem_of_getElem? (i := 0) rfl)) rfl ?_
  refine o_land (pc' := 28) X0 hx (hb hby at_27) rfl ?_
  generalize hd1 : p4 &&& (9223372036854775807 : Int64) = d1
  have rd := own_mx p4 d1 hd1
  refine o_lstore (Ls' := #[.val (.long p1), .second, .val (.long p2), .second, .val (.long p3), .second, .val (.long p4), .second, .val (.int p5), .val (.long a1), .second, .val (.long b1), .second, .val (.long c1), .second, .val (.long d1), .second, .unset, .unset, .unset, .unset]) (pc' := 30) X0 hx (hb hby at_28) rfl rfl ?_
  refine o_iload (pc' := 32) X0 hx (hb hby at_30) rfl rfl ?_
  refine o_ldc (pc' := 34) (v := (2147483647 : Int32)) X0 hx (hb hby at_32) hZ hown (hw _ (List.mem_of_getElem? (i := 1) rfl)) rfl ?_
  refine o_iand (pc' := 35) X0 hx (hb hby at_34) rfl ?_
  refine o_iconst (v := (5 : Int32)) (pc' := 36) X0 hx (hb hby at_35) (by decide) rfl ?_
  refine o_irem (pc' := 37) X0 hx (hb hby at_36) (by decide) rfl ?_
  generalize hk : (p5 &&& (2147483647 : Int32)) % (5 : Int32) = k
  refine o_istore (Ls' := #[.val (.long p1), .second, .val (.long p2), .second, .val (.long p3), .second, .val (.long p4), .second, .val (.int p5), .val (.long a1), .second, .val (.long b1), .second, .val (.long c1), .second, .val (.long d1), .second, .val (.int k), .unset, .unset, .unset]) (pc' := 39) X0 hx (hb hby at_37) rfl rfl ?_
  refine o_iload (pc' := 41) X0 hx (hb hby at_39) rfl rfl ?_
  have rk := own_rem (p5 &&& 2147483647) 5 5 (by decide) (by decide) (own_mask31 p5)
  rw [hk] at rk
  rcases (own_s5 k rk.1 rk.2) with rfl | rfl | rfl | rfl | rfl
  · refine o_newarr (pc' := 43) (cap := 0) X0 hx hZ (hw _ (List.mem_of_getElem? (i := 2) rfl)) e0 (hb hby at_41) rfl (by decide) (by decide) (by decide) (by decide) (by decide) ?_
    intro T41 h41 cA41 t gt e41 E41 At X41
    have Ct := Cont.new cA41 .long (0 : Int32) 0 (by decide)
    have gt' : h0.size ≤ t := Nat.le_of_eq gt.symm
    have N41 := Fr.nil h0.size
    have r0 : 0 ≤ (0 : Int64).toInt := by decide
    refine o_astore (Ls' := #[.val (.long p1), .second, .val (.long p2), .second, .val (.long p3), .second, .val (.long p4), .second, .val (.int p5), .val (.long a1), .second, .val (.long b1), .second, .val (.long c1), .second, .val (.long d1), .second, .val (.int (0 : Int32)), .val (.ref t), .unset, .unset]) (pc' := 45) X41 hx (hb hby at_43) rfl rfl rfl ?_
    refine o_lconst (v := (0 : Int64)) (pc' := 46) X41 hx (hb hby at_45) (by decide) rfl ?_
    refine o_lstore (Ls' := #[.val (.long p1), .second, .val (.long p2), .second, .val (.long p3), .second, .val (.long p4), .second, .val (.int p5), .val (.long a1), .second, .val (.long b1), .second, .val (.long c1), .second, .val (.long d1), .second, .val (.int (0 : Int32)), .val (.ref t), .val (.long (0 : Int64)), .second]) (pc' := 48) X41 hx (hb hby at_46) rfl rfl ?_
    refine o_iload (pc' := 50) X41 hx (hb hby at_48) rfl rfl ?_
    refine o_iconst (v := (1 : Int32)) (pc' := 51) X41 hx (hb hby at_50) (by decide) rfl ?_
    refine o_icmp_lt (p1 := 54) (p2 := 69) X41 hx (hb hby at_51) rfl (by decide) (by decide) (fun hc51 => ?_) (fun hc51 => absurd (by decide) hc51)
    refine o_iload (pc' := 71) X41 hx (hb hby at_69) rfl rfl ?_
    refine o_iconst (v := (2 : Int32)) (pc' := 72) X41 hx (hb hby at_71) (by decide) rfl ?_
    refine o_icmp_lt (p1 := 75) (p2 := 90) X41 hx (hb hby at_72) rfl (by decide) (by decide) (fun hc72 => ?_) (fun hc72 => absurd (by decide) hc72)
    refine o_iload (pc' := 92) X41 hx (hb hby at_90) rfl rfl ?_
    refine o_iconst (v := (3 : Int32)) (pc' := 93) X41 hx (hb hby at_92) (by decide) rfl ?_
    refine o_icmp_lt (p1 := 96) (p2 := 111) X41 hx (hb hby at_93) rfl (by decide) (by decide) (fun hc93 => ?_) (fun hc93 => absurd (by decide) hc93)
    refine o_iload (pc' := 113) X41 hx (hb hby at_111) rfl rfl ?_
    refine o_iconst (v := (4 : Int32)) (pc' := 114) X41 hx (hb hby at_113) (by decide) rfl ?_
    refine o_icmp_lt (p1 := 117) (p2 := 132) X41 hx (hb hby at_114) rfl (by decide) (by decide) (fun hc114 => ?_) (fun hc114 => absurd (by decide) hc114)
    refine o_aload (pc' := 134) X41 hx (hb hby at_132) rfl rfl rfl ?_
    obtain ⟨gl, hgl⟩ : ∃ gl : Nat → Int64, gl = fun k => 0 := ⟨_, rfl⟩
    have Cg : Cont _ 0 (fun k => .long (gl k)) := Cont.congr Ct (fun k hk => by
      subst hgl
      exact absurd hk (Nat.not_lt_zero _))
    have hf : fsum gl 0 = (0 : Int64) := by
      subst hgl
      show (0 : Int64) = _
      rfl
    refine o_callS (W := 0) (pc' := 137) (rm := ({ frames := 0, cells := 0, slots := 0, locals := 0 } : Room)) (argsL := [(.ref t)]) (rest := []) X41 hx hZ hown (hw _ (List.mem_of_getElem? (i := 7) rfl)) (hw _ (List.mem_of_getElem? (i := 8) rfl)) (hw _ (List.mem_of_getElem? (i := 9) rfl)) (hw _ (List.mem_of_getElem? (i := 10) rfl)) (by decide) e41 (rm2 l Z a0 hw t _ 0 (0 : Int32) gl h41 At Cg (by decide)) (by rw [hml]; rfl) pd_2 rfl rfl (hb hby at_134) rfl (by decide) rfl (by decide) (by decide) (by decide) ?_
    rintro _ T134 L134 ⟨rfl, rfl, e134⟩ X134
    show Ends p e below s (Q0 Z p1 p2 p3 p4 p5 h0) room_1.cells room_1.slots (T134.setTop (mkF m 137 #[.val (.long p1), .second, .val (.long p2), .second, .val (.long p3), .second, .val (.long p4), .second, .val (.int p5), .val (.long a1), .second, .val (.long b1), .second, .val (.long c1), .second, .val (.long d1), .second, .val (.int (0 : Int32)), .val (.ref t), .val (.long (0 : Int64)), .second] [(.long (fsum gl 0))]))
    refine o_lload (pc' := 139) X134 hx (hb hby at_137) rfl rfl ?_
    refine o_lcmp_ne (p1 := 143) (p2 := 147) X134 hx (hb hby at_139) (hb hby at_140) rfl (by decide) (by decide) (fun hc139 => absurd hf hc139) (fun hc139 => ?_)
    refine o_iconst (v := (1 : Int32)) (pc' := 144) X134 hx (hb hby at_143) (by decide) rfl ?_
    refine o_goto (pc' := 148) X134 hx (hb hby at_144) (by decide) (by decide) ?_
    exact o_retZ X134 hx hlk hret (hb hby at_148) (by decide) ⟨rfl, by first | exact N41 | simpa using N41⟩ (by decide) (by decide)
  · refine o_newarr (pc' := 43) (cap := 1) X0 hx hZ (hw _ (List.mem_of_getElem? (i := 2) rfl)) e0 (hb hby at_41) rfl (by decide) (by decide) (by decide) (by decide) (by decide) ?_
    intro T41 h41 cA41 t gt e41 E41 At X41
    have Ct := Cont.new cA41 .long (1 : Int32) 1 (by decide)
    have gt' : h0.size ≤ t := Nat.le_of_eq gt.symm
    have N41 := Fr.nil h0.size
    have r0 : 0 ≤ (0 : Int64).toInt := by decide
    refine o_astore (Ls' := #[.val (.long p1), .second, .val (.long p2), .second, .val (.long p3), .second, .val (.long p4), .second, .val (.int p5), .val (.long a1), .second, .val (.long b1), .second, .val (.long c1), .second, .val (.long d1), .second, .val (.int (1 : Int32)), .val (.ref t), .unset, .unset]) (pc' := 45) X41 hx (hb hby at_43) rfl rfl rfl ?_
    refine o_lconst (v := (0 : Int64)) (pc' := 46) X41 hx (hb hby at_45) (by decide) rfl ?_
    refine o_lstore (Ls' := #[.val (.long p1), .second, .val (.long p2), .second, .val (.long p3), .second, .val (.long p4), .second, .val (.int p5), .val (.long a1), .second, .val (.long b1), .second, .val (.long c1), .second, .val (.long d1), .second, .val (.int (1 : Int32)), .val (.ref t), .val (.long (0 : Int64)), .second]) (pc' := 48) X41 hx (hb hby at_46) rfl rfl ?_
    refine o_iload (pc' := 50) X41 hx (hb hby at_48) rfl rfl ?_
    refine o_iconst (v := (1 : Int32)) (pc' := 51) X41 hx (hb hby at_50) (by decide) rfl ?_
    refine o_icmp_lt (p1 := 54) (p2 := 69) X41 hx (hb hby at_51) rfl (by decide) (by decide) (fun hc51 => absurd hc51 (by decide)) (fun hc51 => ?_)
    refine o_aload (pc' := 56) X41 hx (hb hby at_54) rfl rfl rfl ?_
    refine o_iconst (v := (0 : Int32)) (pc' := 57) X41 hx (hb hby at_56) (by decide) rfl ?_
    refine o_lload (pc' := 59) X41 hx (hb hby at_57) rfl rfl ?_
    refine o_lastore (pc' := 60) X41 hx hZ e41 At (Ct.inb (by decide) (by decide)) (hb hby at_59) rfl ?_
    intro T59 h59 e59 W59 X59
    have A59 := Arr.same W59 At
    have C59 := Ct.put (Int32.toNatClampNeg (0 : Int32)) (.long a1)
    have N59 := Fr.snoc X59 (N41) gt'
    refine o_lload (pc' := 62) X59 hx (hb hby at_60) rfl rfl ?_
    refine o_lload (pc' := 64) X59 hx (hb hby at_62) rfl rfl ?_
    refine o_callS (W := 0) (pc' := 67) (rm := ({ frames := 0, cells := 0, slots := 0, locals := 0 } : Room)) (argsL := [(.long (0 : Int64)), (.long a1)]) (rest := []) X59 hx hZ hown (hw _ (List.mem_of_getElem? (i := 3) rfl)) (hw _ (List.mem_of_getElem? (i := 4) rfl)) (hw _ (List.mem_of_getElem? (i := 5) rfl)) (hw _ (List.mem_of_getElem? (i := 6) rfl)) (by decide) e59 (rm1 l Z a0 hw (0 : Int64) a1 h59) (by rw [hml]; rfl) pd_1 rfl rfl (hb hby at_64) rfl (by decide) rfl (by decide) (by decide) (by decide) ?_
    rintro _ T64 L64 ⟨rfl, rfl, e64⟩ X64
    show Ends p e below s (Q0 Z p1 p2 p3 p4 p5 h0) room_1.cells room_1.slots (T64.setTop (mkF m 67 #[.val (.long p1), .second, .val (.long p2), .second, .val (.long p3), .second, .val (.long p4), .second, .val (.int p5), .val (.long a1), .second, .val (.long b1), .second, .val (.long c1), .second, .val (.long d1), .second, .val (.int (1 : Int32)), .val (.ref t), .val (.long (0 : Int64)), .second] [(.long (fsat (0 : Int64) a1))]))
    have s0 := own_stp (0 : Int64) a1 r0 ra
    refine o_lstore (Ls' := #[.val (.long p1), .second, .val (.long p2), .second, .val (.long p3), .second, .val (.long p4), .second, .val (.int p5), .val (.long a1), .second, .val (.long b1), .second, .val (.long c1), .second, .val (.long d1), .second, .val (.int (1 : Int32)), .val (.ref t), .val (.long (fsat (0 : Int64) a1)), .second]) (pc' := 69) X64 hx (hb hby at_67) rfl rfl ?_
    refine o_iload (pc' := 71) X64 hx (hb hby at_69) rfl rfl ?_
    refine o_iconst (v := (2 : Int32)) (pc' := 72) X64 hx (hb hby at_71) (by decide) rfl ?_
    refine o_icmp_lt (p1 := 75) (p2 := 90) X64 hx (hb hby at_72) rfl (by decide) (by decide) (fun hc72 => ?_) (fun hc72 => absurd (by decide) hc72)
    refine o_iload (pc' := 92) X64 hx (hb hby at_90) rfl rfl ?_
    refine o_iconst (v := (3 : Int32)) (pc' := 93) X64 hx (hb hby at_92) (by decide) rfl ?_
    refine o_icmp_lt (p1 := 96) (p2 := 111) X64 hx (hb hby at_93) rfl (by decide) (by decide) (fun hc93 => ?_) (fun hc93 => absurd (by decide) hc93)
    refine o_iload (pc' := 113) X64 hx (hb hby at_111) rfl rfl ?_
    refine o_iconst (v := (4 : Int32)) (pc' := 114) X64 hx (hb hby at_113) (by decide) rfl ?_
    refine o_icmp_lt (p1 := 117) (p2 := 132) X64 hx (hb hby at_114) rfl (by decide) (by decide) (fun hc114 => ?_) (fun hc114 => absurd (by decide) hc114)
    refine o_aload (pc' := 134) X64 hx (hb hby at_132) rfl rfl rfl ?_
    obtain ⟨gl, hgl⟩ : ∃ gl : Nat → Int64, gl = fun k => if k = 0 then a1 else 0 := ⟨_, rfl⟩
    have Cg : Cont _ 1 (fun k => .long (gl k)) := Cont.congr C59 (fun k hk => by
      subst hgl
      have hh : k = 0 := by omega
      rcases hh with rfl <;> rfl)
    have hf : fsum gl 1 = fsat (0 : Int64) a1 := by
      subst hgl
      show stp (0 : Int64) a1 = _
      rw [s0.1]
    refine o_callS (W := 0) (pc' := 137) (rm := ({ frames := 0, cells := 0, slots := 0, locals := 0 } : Room)) (argsL := [(.ref t)]) (rest := []) X64 hx hZ hown (hw _ (List.mem_of_getElem? (i := 7) rfl)) (hw _ (List.mem_of_getElem? (i := 8) rfl)) (hw _ (List.mem_of_getElem? (i := 9) rfl)) (hw _ (List.mem_of_getElem? (i := 10) rfl)) (by decide) e64 (rm2 l Z a0 hw t _ 1 (1 : Int32) gl h59 A59 Cg (by decide)) (by rw [hml]; rfl) pd_2 rfl rfl (hb hby at_134) rfl (by decide) rfl (by decide) (by decide) (by decide) ?_
    rintro _ T134 L134 ⟨rfl, rfl, e134⟩ X134
    show Ends p e below s (Q0 Z p1 p2 p3 p4 p5 h0) room_1.cells room_1.slots (T134.setTop (mkF m 137 #[.val (.long p1), .second, .val (.long p2), .second, .val (.long p3), .second, .val (.long p4), .second, .val (.int p5), .val (.long a1), .second, .val (.long b1), .second, .val (.long c1), .second, .val (.long d1), .second, .val (.int (1 : Int32)), .val (.ref t), .val (.long (fsat (0 : Int64) a1)), .second] [(.long (fsum gl 1))]))
    refine o_lload (pc' := 139) X134 hx (hb hby at_137) rfl rfl ?_
    refine o_lcmp_ne (p1 := 143) (p2 := 147) X134 hx (hb hby at_139) (hb hby at_140) rfl (by decide) (by decide) (fun hc139 => absurd hf hc139) (fun hc139 => ?_)
    refine o_iconst (v := (1 : Int32)) (pc' := 144) X134 hx (hb hby at_143) (by decide) rfl ?_
    refine o_goto (pc' := 148) X134 hx (hb hby at_144) (by decide) (by decide) ?_
    exact o_retZ X134 hx hlk hret (hb hby at_148) (by decide) ⟨rfl, by first | exact N59 | simpa using N59⟩ (by decide) (by decide)
  · refine o_newarr (pc' := 43) (cap := 2) X0 hx hZ (hw _ (List.mem_of_getElem? (i := 2) rfl)) e0 (hb hby at_41) rfl (by decide) (by decide) (by decide) (by decide) (by decide) ?_
    intro T41 h41 cA41 t gt e41 E41 At X41
    have Ct := Cont.new cA41 .long (2 : Int32) 2 (by decide)
    have gt' : h0.size ≤ t := Nat.le_of_eq gt.symm
    have N41 := Fr.nil h0.size
    have r0 : 0 ≤ (0 : Int64).toInt := by decide
    refine o_astore (Ls' := #[.val (.long p1), .second, .val (.long p2), .second, .val (.long p3), .second, .val (.long p4), .second, .val (.int p5), .val (.long a1), .second, .val (.long b1), .second, .val (.long c1), .second, .val (.long d1), .second, .val (.int (2 : Int32)), .val (.ref t), .unset, .unset]) (pc' := 45) X41 hx (hb hby at_43) rfl rfl rfl ?_
    refine o_lconst (v := (0 : Int64)) (pc' := 46) X41 hx (hb hby at_45) (by decide) rfl ?_
    refine o_lstore (Ls' := #[.val (.long p1), .second, .val (.long p2), .second, .val (.long p3), .second, .val (.long p4), .second, .val (.int p5), .val (.long a1), .second, .val (.long b1), .second, .val (.long c1), .second, .val (.long d1), .second, .val (.int (2 : Int32)), .val (.ref t), .val (.long (0 : Int64)), .second]) (pc' := 48) X41 hx (hb hby at_46) rfl rfl ?_
    refine o_iload (pc' := 50) X41 hx (hb hby at_48) rfl rfl ?_
    refine o_iconst (v := (1 : Int32)) (pc' := 51) X41 hx (hb hby at_50) (by decide) rfl ?_
    refine o_icmp_lt (p1 := 54) (p2 := 69) X41 hx (hb hby at_51) rfl (by decide) (by decide) (fun hc51 => absurd hc51 (by decide)) (fun hc51 => ?_)
    refine o_aload (pc' := 56) X41 hx (hb hby at_54) rfl rfl rfl ?_
    refine o_iconst (v := (0 : Int32)) (pc' := 57) X41 hx (hb hby at_56) (by decide) rfl ?_
    refine o_lload (pc' := 59) X41 hx (hb hby at_57) rfl rfl ?_
    refine o_lastore (pc' := 60) X41 hx hZ e41 At (Ct.inb (by decide) (by decide)) (hb hby at_59) rfl ?_
    intro T59 h59 e59 W59 X59
    have A59 := Arr.same W59 At
    have C59 := Ct.put (Int32.toNatClampNeg (0 : Int32)) (.long a1)
    have N59 := Fr.snoc X59 (N41) gt'
    refine o_lload (pc' := 62) X59 hx (hb hby at_60) rfl rfl ?_
    refine o_lload (pc' := 64) X59 hx (hb hby at_62) rfl rfl ?_
    refine o_callS (W := 0) (pc' := 67) (rm := ({ frames := 0, cells := 0, slots := 0, locals := 0 } : Room)) (argsL := [(.long (0 : Int64)), (.long a1)]) (rest := []) X59 hx hZ hown (hw _ (List.mem_of_getElem? (i := 3) rfl)) (hw _ (List.mem_of_getElem? (i := 4) rfl)) (hw _ (List.mem_of_getElem? (i := 5) rfl)) (hw _ (List.mem_of_getElem? (i := 6) rfl)) (by decide) e59 (rm1 l Z a0 hw (0 : Int64) a1 h59) (by rw [hml]; rfl) pd_1 rfl rfl (hb hby at_64) rfl (by decide) rfl (by decide) (by decide) (by decide) ?_
    rintro _ T64 L64 ⟨rfl, rfl, e64⟩ X64
    show Ends p e below s (Q0 Z p1 p2 p3 p4 p5 h0) room_1.cells room_1.slots (T64.setTop (mkF m 67 #[.val (.long p1), .second, .val (.long p2), .second, .val (.long p3), .second, .val (.long p4), .second, .val (.int p5), .val (.long a1), .second, .val (.long b1), .second, .val (.long c1), .second, .val (.long d1), .second, .val (.int (2 : Int32)), .val (.ref t), .val (.long (0 : Int64)), .second] [(.long (fsat (0 : Int64) a1))]))
    have s0 := own_stp (0 : Int64) a1 r0 ra
    refine o_lstore (Ls' := #[.val (.long p1), .second, .val (.long p2), .second, .val (.long p3), .second, .val (.long p4), .second, .val (.int p5), .val (.long a1), .second, .val (.long b1), .second, .val (.long c1), .second, .val (.long d1), .second, .val (.int (2 : Int32)), .val (.ref t), .val (.long (fsat (0 : Int64) a1)), .second]) (pc' := 69) X64 hx (hb hby at_67) rfl rfl ?_
    refine o_iload (pc' := 71) X64 hx (hb hby at_69) rfl rfl ?_
    refine o_iconst (v := (2 : Int32)) (pc' := 72) X64 hx (hb hby at_71) (by decide) rfl ?_
    refine o_icmp_lt (p1 := 75) (p2 := 90) X64 hx (hb hby at_72) rfl (by decide) (by decide) (fun hc72 => absurd hc72 (by decide)) (fun hc72 => ?_)
    refine o_aload (pc' := 77) X64 hx (hb hby at_75) rfl rfl rfl ?_
    refine o_iconst (v := (1 : Int32)) (pc' := 78) X64 hx (hb hby at_77) (by decide) rfl ?_
    refine o_lload (pc' := 80) X64 hx (hb hby at_78) rfl rfl ?_
    refine o_lastore (pc' := 81) X64 hx hZ e64 A59 (C59.inb (by decide) (by decide)) (hb hby at_80) rfl ?_
    intro T80 h80 e80 W80 X80
    have A80 := Arr.same W80 A59
    have C80 := C59.put (Int32.toNatClampNeg (1 : Int32)) (.long b1)
    have N80 := Fr.snoc X80 (N59.app (Fr.nil _)) gt'
    refine o_lload (pc' := 83) X80 hx (hb hby at_81) rfl rfl ?_
    refine o_lload (pc' := 85) X80 hx (hb hby at_83) rfl rfl ?_
    refine o_callS (W := 0) (pc' := 88) (rm := ({ frames := 0, cells := 0, slots := 0, locals := 0 } : Room)) (argsL := [(.long (fsat (0 : Int64) a1)), (.long b1)]) (rest := []) X80 hx hZ hown (hw _ (List.mem_of_getElem? (i := 3) rfl)) (hw _ (List.mem_of_getElem? (i := 4) rfl)) (hw _ (List.mem_of_getElem? (i := 5) rfl)) (hw _ (List.mem_of_getElem? (i := 6) rfl)) (by decide) e80 (rm1 l Z a0 hw (fsat (0 : Int64) a1) b1 h80) (by rw [hml]; rfl) pd_1 rfl rfl (hb hby at_85) rfl (by decide) rfl (by decide) (by decide) (by decide) ?_
    rintro _ T85 L85 ⟨rfl, rfl, e85⟩ X85
    show Ends p e below s (Q0 Z p1 p2 p3 p4 p5 h0) room_1.cells room_1.slots (T85.setTop (mkF m 88 #[.val (.long p1), .second, .val (.long p2), .second, .val (.long p3), .second, .val (.long p4), .second, .val (.int p5), .val (.long a1), .second, .val (.long b1), .second, .val (.long c1), .second, .val (.long d1), .second, .val (.int (2 : Int32)), .val (.ref t), .val (.long (fsat (0 : Int64) a1)), .second] [(.long (fsat (fsat (0 : Int64) a1) b1))]))
    have s1 := own_stp (fsat (0 : Int64) a1) b1 s0.2 rb
    refine o_lstore (Ls' := #[.val (.long p1), .second, .val (.long p2), .second, .val (.long p3), .second, .val (.long p4), .second, .val (.int p5), .val (.long a1), .second, .val (.long b1), .second, .val (.long c1), .second, .val (.long d1), .second, .val (.int (2 : Int32)), .val (.ref t), .val (.long (fsat (fsat (0 : Int64) a1) b1)), .second]) (pc' := 90) X85 hx (hb hby at_88) rfl rfl ?_
    refine o_iload (pc' := 92) X85 hx (hb hby at_90) rfl rfl ?_
    refine o_iconst (v := (3 : Int32)) (pc' := 93) X85 hx (hb hby at_92) (by decide) rfl ?_
    refine o_icmp_lt (p1 := 96) (p2 := 111) X85 hx (hb hby at_93) rfl (by decide) (by decide) (fun hc93 => ?_) (fun hc93 => absurd (by decide) hc93)
    refine o_iload (pc' := 113) X85 hx (hb hby at_111) rfl rfl ?_
    refine o_iconst (v := (4 : Int32)) (pc' := 114) X85 hx (hb hby at_113) (by decide) rfl ?_
    refine o_icmp_lt (p1 := 117) (p2 := 132) X85 hx (hb hby at_114) rfl (by decide) (by decide) (fun hc114 => ?_) (fun hc114 => absurd (by decide) hc114)
    refine o_aload (pc' := 134) X85 hx (hb hby at_132) rfl rfl rfl ?_
    obtain ⟨gl, hgl⟩ : ∃ gl : Nat → Int64, gl = fun k => if k = 1 then b1 else if k = 0 then a1 else 0 := ⟨_, rfl⟩
    have Cg : Cont _ 2 (fun k => .long (gl k)) := Cont.congr C80 (fun k hk => by
      subst hgl
      have hh : k = 0 ∨ k = 1 := by omega
      rcases hh with rfl | rfl <;> rfl)
    have hf : fsum gl 2 = fsat (fsat (0 : Int64) a1) b1 := by
      subst hgl
      show stp (stp (0 : Int64) a1) b1 = _
      rw [s0.1, s1.1]
    refine o_callS (W := 0) (pc' := 137) (rm := ({ frames := 0, cells := 0, slots := 0, locals := 0 } : Room)) (argsL := [(.ref t)]) (rest := []) X85 hx hZ hown (hw _ (List.mem_of_getElem? (i := 7) rfl)) (hw _ (List.mem_of_getElem? (i := 8) rfl)) (hw _ (List.mem_of_getElem? (i := 9) rfl)) (hw _ (List.mem_of_getElem? (i := 10) rfl)) (by decide) e85 (rm2 l Z a0 hw t _ 2 (2 : Int32) gl h80 A80 Cg (by decide)) (by rw [hml]; rfl) pd_2 rfl rfl (hb hby at_134) rfl (by decide) rfl (by decide) (by decide) (by decide) ?_
    rintro _ T134 L134 ⟨rfl, rfl, e134⟩ X134
    show Ends p e below s (Q0 Z p1 p2 p3 p4 p5 h0) room_1.cells room_1.slots (T134.setTop (mkF m 137 #[.val (.long p1), .second, .val (.long p2), .second, .val (.long p3), .second, .val (.long p4), .second, .val (.int p5), .val (.long a1), .second, .val (.long b1), .second, .val (.long c1), .second, .val (.long d1), .second, .val (.int (2 : Int32)), .val (.ref t), .val (.long (fsat (fsat (0 : Int64) a1) b1)), .second] [(.long (fsum gl 2))]))
    refine o_lload (pc' := 139) X134 hx (hb hby at_137) rfl rfl ?_
    refine o_lcmp_ne (p1 := 143) (p2 := 147) X134 hx (hb hby at_139) (hb hby at_140) rfl (by decide) (by decide) (fun hc139 => absurd hf hc139) (fun hc139 => ?_)
    refine o_iconst (v := (1 : Int32)) (pc' := 144) X134 hx (hb hby at_143) (by decide) rfl ?_
    refine o_goto (pc' := 148) X134 hx (hb hby at_144) (by decide) (by decide) ?_
    exact o_retZ X134 hx hlk hret (hb hby at_148) (by decide) ⟨rfl, by first | exact N80 | simpa using N80⟩ (by decide) (by decide)
  · refine o_newarr (pc' := 43) (cap := 3) X0 hx hZ (hw _ (List.mem_of_getElem? (i := 2) rfl)) e0 (hb hby at_41) rfl (by decide) (by decide) (by decide) (by decide) (by decide) ?_
    intro T41 h41 cA41 t gt e41 E41 At X41
    have Ct := Cont.new cA41 .long (3 : Int32) 3 (by decide)
    have gt' : h0.size ≤ t := Nat.le_of_eq gt.symm
    have N41 := Fr.nil h0.size
    have r0 : 0 ≤ (0 : Int64).toInt := by decide
    refine o_astore (Ls' := #[.val (.long p1), .second, .val (.long p2), .second, .val (.long p3), .second, .val (.long p4), .second, .val (.int p5), .val (.long a1), .second, .val (.long b1), .second, .val (.long c1), .second, .val (.long d1), .second, .val (.int (3 : Int32)), .val (.ref t), .unset, .unset]) (pc' := 45) X41 hx (hb hby at_43) rfl rfl rfl ?_
    refine o_lconst (v := (0 : Int64)) (pc' := 46) X41 hx (hb hby at_45) (by decide) rfl ?_
    refine o_lstore (Ls' := #[.val (.long p1), .second, .val (.long p2), .second, .val (.long p3), .second, .val (.long p4), .second, .val (.int p5), .val (.long a1), .second, .val (.long b1), .second, .val (.long c1), .second, .val (.long d1), .second, .val (.int (3 : Int32)), .val (.ref t), .val (.long (0 : Int64)), .second]) (pc' := 48) X41 hx (hb hby at_46) rfl rfl ?_
    refine o_iload (pc' := 50) X41 hx (hb hby at_48) rfl rfl ?_
    refine o_iconst (v := (1 : Int32)) (pc' := 51) X41 hx (hb hby at_50) (by decide) rfl ?_
    refine o_icmp_lt (p1 := 54) (p2 := 69) X41 hx (hb hby at_51) rfl (by decide) (by decide) (fun hc51 => absurd hc51 (by decide)) (fun hc51 => ?_)
    refine o_aload (pc' := 56) X41 hx (hb hby at_54) rfl rfl rfl ?_
    refine o_iconst (v := (0 : Int32)) (pc' := 57) X41 hx (hb hby at_56) (by decide) rfl ?_
    refine o_lload (pc' := 59) X41 hx (hb hby at_57) rfl rfl ?_
    refine o_lastore (pc' := 60) X41 hx hZ e41 At (Ct.inb (by decide) (by decide)) (hb hby at_59) rfl ?_
    intro T59 h59 e59 W59 X59
    have A59 := Arr.same W59 At
    have C59 := Ct.put (Int32.toNatClampNeg (0 : Int32)) (.long a1)
    have N59 := Fr.snoc X59 (N41) gt'
    refine o_lload (pc' := 62) X59 hx (hb hby at_60) rfl rfl ?_
    refine o_lload (pc' := 64) X59 hx (hb hby at_62) rfl rfl ?_
    refine o_callS (W := 0) (pc' := 67) (rm := ({ frames := 0, cells := 0, slots := 0, locals := 0 } : Room)) (argsL := [(.long (0 : Int64)), (.long a1)]) (rest := []) X59 hx hZ hown (hw _ (List.mem_of_getElem? (i := 3) rfl)) (hw _ (List.mem_of_getElem? (i := 4) rfl)) (hw _ (List.mem_of_getElem? (i := 5) rfl)) (hw _ (List.mem_of_getElem? (i := 6) rfl)) (by decide) e59 (rm1 l Z a0 hw (0 : Int64) a1 h59) (by rw [hml]; rfl) pd_1 rfl rfl (hb hby at_64) rfl (by decide) rfl (by decide) (by decide) (by decide) ?_
    rintro _ T64 L64 ⟨rfl, rfl, e64⟩ X64
    show Ends p e below s (Q0 Z p1 p2 p3 p4 p5 h0) room_1.cells room_1.slots (T64.setTop (mkF m 67 #[.val (.long p1), .second, .val (.long p2), .second, .val (.long p3), .second, .val (.long p4), .second, .val (.int p5), .val (.long a1), .second, .val (.long b1), .second, .val (.long c1), .second, .val (.long d1), .second, .val (.int (3 : Int32)), .val (.ref t), .val (.long (0 : Int64)), .second] [(.long (fsat (0 : Int64) a1))]))
    have s0 := own_stp (0 : Int64) a1 r0 ra
    refine o_lstore (Ls' := #[.val (.long p1), .second, .val (.long p2), .second, .val (.long p3), .second, .val (.long p4), .second, .val (.int p5), .val (.long a1), .second, .val (.long b1), .second, .val (.long c1), .second, .val (.long d1), .second, .val (.int (3 : Int32)), .val (.ref t), .val (.long (fsat (0 : Int64) a1)), .second]) (pc' := 69) X64 hx (hb hby at_67) rfl rfl ?_
    refine o_iload (pc' := 71) X64 hx (hb hby at_69) rfl rfl ?_
    refine o_iconst (v := (2 : Int32)) (pc' := 72) X64 hx (hb hby at_71) (by decide) rfl ?_
    refine o_icmp_lt (p1 := 75) (p2 := 90) X64 hx (hb hby at_72) rfl (by decide) (by decide) (fun hc72 => absurd hc72 (by decide)) (fun hc72 => ?_)
    refine o_aload (pc' := 77) X64 hx (hb hby at_75) rfl rfl rfl ?_
    refine o_iconst (v := (1 : Int32)) (pc' := 78) X64 hx (hb hby at_77) (by decide) rfl ?_
    refine o_lload (pc' := 80) X64 hx (hb hby at_78) rfl rfl ?_
    refine o_lastore (pc' := 81) X64 hx hZ e64 A59 (C59.inb (by decide) (by decide)) (hb hby at_80) rfl ?_
    intro T80 h80 e80 W80 X80
    have A80 := Arr.same W80 A59
    have C80 := C59.put (Int32.toNatClampNeg (1 : Int32)) (.long b1)
    have N80 := Fr.snoc X80 (N59.app (Fr.nil _)) gt'
    refine o_lload (pc' := 83) X80 hx (hb hby at_81) rfl rfl ?_
    refine o_lload (pc' := 85) X80 hx (hb hby at_83) rfl rfl ?_
    refine o_callS (W := 0) (pc' := 88) (rm := ({ frames := 0, cells := 0, slots := 0, locals := 0 } : Room)) (argsL := [(.long (fsat (0 : Int64) a1)), (.long b1)]) (rest := []) X80 hx hZ hown (hw _ (List.mem_of_getElem? (i := 3) rfl)) (hw _ (List.mem_of_getElem? (i := 4) rfl)) (hw _ (List.mem_of_getElem? (i := 5) rfl)) (hw _ (List.mem_of_getElem? (i := 6) rfl)) (by decide) e80 (rm1 l Z a0 hw (fsat (0 : Int64) a1) b1 h80) (by rw [hml]; rfl) pd_1 rfl rfl (hb hby at_85) rfl (by decide) rfl (by decide) (by decide) (by decide) ?_
    rintro _ T85 L85 ⟨rfl, rfl, e85⟩ X85
    show Ends p e below s (Q0 Z p1 p2 p3 p4 p5 h0) room_1.cells room_1.slots (T85.setTop (mkF m 88 #[.val (.long p1), .second, .val (.long p2), .second, .val (.long p3), .second, .val (.long p4), .second, .val (.int p5), .val (.long a1), .second, .val (.long b1), .second, .val (.long c1), .second, .val (.long d1), .second, .val (.int (3 : Int32)), .val (.ref t), .val (.long (fsat (0 : Int64) a1)), .second] [(.long (fsat (fsat (0 : Int64) a1) b1))]))
    have s1 := own_stp (fsat (0 : Int64) a1) b1 s0.2 rb
    refine o_lstore (Ls' := #[.val (.long p1), .second, .val (.long p2), .second, .val (.long p3), .second, .val (.long p4), .second, .val (.int p5), .val (.long a1), .second, .val (.long b1), .second, .val (.long c1), .second, .val (.long d1), .second, .val (.int (3 : Int32)), .val (.ref t), .val (.long (fsat (fsat (0 : Int64) a1) b1)), .second]) (pc' := 90) X85 hx (hb hby at_88) rfl rfl ?_
    refine o_iload (pc' := 92) X85 hx (hb hby at_90) rfl rfl ?_
    refine o_iconst (v := (3 : Int32)) (pc' := 93) X85 hx (hb hby at_92) (by decide) rfl ?_
    refine o_icmp_lt (p1 := 96) (p2 := 111) X85 hx (hb hby at_93) rfl (by decide) (by decide) (fun hc93 => absurd hc93 (by decide)) (fun hc93 => ?_)
    refine o_aload (pc' := 98) X85 hx (hb hby at_96) rfl rfl rfl ?_
    refine o_iconst (v := (2 : Int32)) (pc' := 99) X85 hx (hb hby at_98) (by decide) rfl ?_
    refine o_lload (pc' := 101) X85 hx (hb hby at_99) rfl rfl ?_
    refine o_lastore (pc' := 102) X85 hx hZ e85 A80 (C80.inb (by decide) (by decide)) (hb hby at_101) rfl ?_
    intro T101 h101 e101 W101 X101
    have A101 := Arr.same W101 A80
    have C101 := C80.put (Int32.toNatClampNeg (2 : Int32)) (.long c1)
    have N101 := Fr.snoc X101 (N80.app (Fr.nil _)) gt'
    refine o_lload (pc' := 104) X101 hx (hb hby at_102) rfl rfl ?_
    refine o_lload (pc' := 106) X101 hx (hb hby at_104) rfl rfl ?_
    refine o_callS (W := 0) (pc' := 109) (rm := ({ frames := 0, cells := 0, slots := 0, locals := 0 } : Room)) (argsL := [(.long (fsat (fsat (0 : Int64) a1) b1)), (.long c1)]) (rest := []) X101 hx hZ hown (hw _ (List.mem_of_getElem? (i := 3) rfl)) (hw _ (List.mem_of_getElem? (i := 4) rfl)) (hw _ (List.mem_of_getElem? (i := 5) rfl)) (hw _ (List.mem_of_getElem? (i := 6) rfl)) (by decide) e101 (rm1 l Z a0 hw (fsat (fsat (0 : Int64) a1) b1) c1 h101) (by rw [hml]; rfl) pd_1 rfl rfl (hb hby at_106) rfl (by decide) rfl (by decide) (by decide) (by decide) ?_
    rintro _ T106 L106 ⟨rfl, rfl, e106⟩ X106
    show Ends p e below s (Q0 Z p1 p2 p3 p4 p5 h0) room_1.cells room_1.slots (T106.setTop (mkF m 109 #[.val (.long p1), .second, .val (.long p2), .second, .val (.long p3), .second, .val (.long p4), .second, .val (.int p5), .val (.long a1), .second, .val (.long b1), .second, .val (.long c1), .second, .val (.long d1), .second, .val (.int (3 : Int32)), .val (.ref t), .val (.long (fsat (fsat (0 : Int64) a1) b1)), .second] [(.long (fsat (fsat (fsat (0 : Int64) a1) b1) c1))]))
    have s2 := own_stp (fsat (fsat (0 : Int64) a1) b1) c1 s1.2 rc
    refine o_lstore (Ls' := #[.val (.long p1), .second, .val (.long p2), .second, .val (.long p3), .second, .val (.long p4), .second, .val (.int p5), .val (.long a1), .second, .val (.long b1), .second, .val (.long c1), .second, .val (.long d1), .second, .val (.int (3 : Int32)), .val (.ref t), .val (.long (fsat (fsat (fsat (0 : Int64) a1) b1) c1)), .second]) (pc' := 111) X106 hx (hb hby at_109) rfl rfl ?_
    refine o_iload (pc' := 113) X106 hx (hb hby at_111) rfl rfl ?_
    refine o_iconst (v := (4 : Int32)) (pc' := 114) X106 hx (hb hby at_113) (by decide) rfl ?_
    refine o_icmp_lt (p1 := 117) (p2 := 132) X106 hx (hb hby at_114) rfl (by decide) (by decide) (fun hc114 => ?_) (fun hc114 => absurd (by decide) hc114)
    refine o_aload (pc' := 134) X106 hx (hb hby at_132) rfl rfl rfl ?_
    obtain ⟨gl, hgl⟩ : ∃ gl : Nat → Int64, gl = fun k => if k = 2 then c1 else if k = 1 then b1 else if k = 0 then a1 else 0 := ⟨_, rfl⟩
    have Cg : Cont _ 3 (fun k => .long (gl k)) := Cont.congr C101 (fun k hk => by
      subst hgl
      have hh : k = 0 ∨ k = 1 ∨ k = 2 := by omega
      rcases hh with rfl | rfl | rfl <;> rfl)
    have hf : fsum gl 3 = fsat (fsat (fsat (0 : Int64) a1) b1) c1 := by
      subst hgl
      show stp (stp (stp (0 : Int64) a1) b1) c1 = _
      rw [s0.1, s1.1, s2.1]
    refine o_callS (W := 0) (pc' := 137) (rm := ({ frames := 0, cells := 0, slots := 0, locals := 0 } : Room)) (argsL := [(.ref t)]) (rest := []) X106 hx hZ hown (hw _ (List.mem_of_getElem? (i := 7) rfl)) (hw _ (List.mem_of_getElem? (i := 8) rfl)) (hw _ (List.mem_of_getElem? (i := 9) rfl)) (hw _ (List.mem_of_getElem? (i := 10) rfl)) (by decide) e106 (rm2 l Z a0 hw t _ 3 (3 : Int32) gl h101 A101 Cg (by decide)) (by rw [hml]; rfl) pd_2 rfl rfl (hb hby at_134) rfl (by decide) rfl (by decide) (by decide) (by decide) ?_
    rintro _ T134 L134 ⟨rfl, rfl, e134⟩ X134
    show Ends p e below s (Q0 Z p1 p2 p3 p4 p5 h0) room_1.cells room_1.slots (T134.setTop (mkF m 137 #[.val (.long p1), .second, .val (.long p2), .second, .val (.long p3), .second, .val (.long p4), .second, .val (.int p5), .val (.long a1), .second, .val (.long b1), .second, .val (.long c1), .second, .val (.long d1), .second, .val (.int (3 : Int32)), .val (.ref t), .val (.long (fsat (fsat (fsat (0 : Int64) a1) b1) c1)), .second] [(.long (fsum gl 3))]))
    refine o_lload (pc' := 139) X134 hx (hb hby at_137) rfl rfl ?_
    refine o_lcmp_ne (p1 := 143) (p2 := 147) X134 hx (hb hby at_139) (hb hby at_140) rfl (by decide) (by decide) (fun hc139 => absurd hf hc139) (fun hc139 => ?_)
    refine o_iconst (v := (1 : Int32)) (pc' := 144) X134 hx (hb hby at_143) (by decide) rfl ?_
    refine o_goto (pc' := 148) X134 hx (hb hby at_144) (by decide) (by decide) ?_
    exact o_retZ X134 hx hlk hret (hb hby at_148) (by decide) ⟨rfl, by first | exact N101 | simpa using N101⟩ (by decide) (by decide)
  · refine o_newarr (pc' := 43) (cap := 4) X0 hx hZ (hw _ (List.mem_of_getElem? (i := 2) rfl)) e0 (hb hby at_41) rfl (by decide) (by decide) (by decide) (by decide) (by decide) ?_
    intro T41 h41 cA41 t gt e41 E41 At X41
    have Ct := Cont.new cA41 .long (4 : Int32) 4 (by decide)
    have gt' : h0.size ≤ t := Nat.le_of_eq gt.symm
    have N41 := Fr.nil h0.size
    have r0 : 0 ≤ (0 : Int64).toInt := by decide
    refine o_astore (Ls' := #[.val (.long p1), .second, .val (.long p2), .second, .val (.long p3), .second, .val (.long p4), .second, .val (.int p5), .val (.long a1), .second, .val (.long b1), .second, .val (.long c1), .second, .val (.long d1), .second, .val (.int (4 : Int32)), .val (.ref t), .unset, .unset]) (pc' := 45) X41 hx (hb hby at_43) rfl rfl rfl ?_
    refine o_lconst (v := (0 : Int64)) (pc' := 46) X41 hx (hb hby at_45) (by decide) rfl ?_
    refine o_lstore (Ls' := #[.val (.long p1), .second, .val (.long p2), .second, .val (.long p3), .second, .val (.long p4), .second, .val (.int p5), .val (.long a1), .second, .val (.long b1), .second, .val (.long c1), .second, .val (.long d1), .second, .val (.int (4 : Int32)), .val (.ref t), .val (.long (0 : Int64)), .second]) (pc' := 48) X41 hx (hb hby at_46) rfl rfl ?_
    refine o_iload (pc' := 50) X41 hx (hb hby at_48) rfl rfl ?_
    refine o_iconst (v := (1 : Int32)) (pc' := 51) X41 hx (hb hby at_50) (by decide) rfl ?_
    refine o_icmp_lt (p1 := 54) (p2 := 69) X41 hx (hb hby at_51) rfl (by decide) (by decide) (fun hc51 => absurd hc51 (by decide)) (fun hc51 => ?_)
    refine o_aload (pc' := 56) X41 hx (hb hby at_54) rfl rfl rfl ?_
    refine o_iconst (v := (0 : Int32)) (pc' := 57) X41 hx (hb hby at_56) (by decide) rfl ?_
    refine o_lload (pc' := 59) X41 hx (hb hby at_57) rfl rfl ?_
    refine o_lastore (pc' := 60) X41 hx hZ e41 At (Ct.inb (by decide) (by decide)) (hb hby at_59) rfl ?_
    intro T59 h59 e59 W59 X59
    have A59 := Arr.same W59 At
    have C59 := Ct.put (Int32.toNatClampNeg (0 : Int32)) (.long a1)
    have N59 := Fr.snoc X59 (N41) gt'
    refine o_lload (pc' := 62) X59 hx (hb hby at_60) rfl rfl ?_
    refine o_lload (pc' := 64) X59 hx (hb hby at_62) rfl rfl ?_
    refine o_callS (W := 0) (pc' := 67) (rm := ({ frames := 0, cells := 0, slots := 0, locals := 0 } : Room)) (argsL := [(.long (0 : Int64)), (.long a1)]) (rest := []) X59 hx hZ hown (hw _ (List.mem_of_getElem? (i := 3) rfl)) (hw _ (List.mem_of_getElem? (i := 4) rfl)) (hw _ (List.mem_of_getElem? (i := 5) rfl)) (hw _ (List.mem_of_getElem? (i := 6) rfl)) (by decide) e59 (rm1 l Z a0 hw (0 : Int64) a1 h59) (by rw [hml]; rfl) pd_1 rfl rfl (hb hby at_64) rfl (by decide) rfl (by decide) (by decide) (by decide) ?_
    rintro _ T64 L64 ⟨rfl, rfl, e64⟩ X64
    show Ends p e below s (Q0 Z p1 p2 p3 p4 p5 h0) room_1.cells room_1.slots (T64.setTop (mkF m 67 #[.val (.long p1), .second, .val (.long p2), .second, .val (.long p3), .second, .val (.long p4), .second, .val (.int p5), .val (.long a1), .second, .val (.long b1), .second, .val (.long c1), .second, .val (.long d1), .second, .val (.int (4 : Int32)), .val (.ref t), .val (.long (0 : Int64)), .second] [(.long (fsat (0 : Int64) a1))]))
    have s0 := own_stp (0 : Int64) a1 r0 ra
    refine o_lstore (Ls' := #[.val (.long p1), .second, .val (.long p2), .second, .val (.long p3), .second, .val (.long p4), .second, .val (.int p5), .val (.long a1), .second, .val (.long b1), .second, .val (.long c1), .second, .val (.long d1), .second, .val (.int (4 : Int32)), .val (.ref t), .val (.long (fsat (0 : Int64) a1)), .second]) (pc' := 69) X64 hx (hb hby at_67) rfl rfl ?_
    refine o_iload (pc' := 71) X64 hx (hb hby at_69) rfl rfl ?_
    refine o_iconst (v := (2 : Int32)) (pc' := 72) X64 hx (hb hby at_71) (by decide) rfl ?_
    refine o_icmp_lt (p1 := 75) (p2 := 90) X64 hx (hb hby at_72) rfl (by decide) (by decide) (fun hc72 => absurd hc72 (by decide)) (fun hc72 => ?_)
    refine o_aload (pc' := 77) X64 hx (hb hby at_75) rfl rfl rfl ?_
    refine o_iconst (v := (1 : Int32)) (pc' := 78) X64 hx (hb hby at_77) (by decide) rfl ?_
    refine o_lload (pc' := 80) X64 hx (hb hby at_78) rfl rfl ?_
    refine o_lastore (pc' := 81) X64 hx hZ e64 A59 (C59.inb (by decide) (by decide)) (hb hby at_80) rfl ?_
    intro T80 h80 e80 W80 X80
    have A80 := Arr.same W80 A59
    have C80 := C59.put (Int32.toNatClampNeg (1 : Int32)) (.long b1)
    have N80 := Fr.snoc X80 (N59.app (Fr.nil _)) gt'
    refine o_lload (pc' := 83) X80 hx (hb hby at_81) rfl rfl ?_
    refine o_lload (pc' := 85) X80 hx (hb hby at_83) rfl rfl ?_
    refine o_callS (W := 0) (pc' := 88) (rm := ({ frames := 0, cells := 0, slots := 0, locals := 0 } : Room)) (argsL := [(.long (fsat (0 : Int64) a1)), (.long b1)]) (rest := []) X80 hx hZ hown (hw _ (List.mem_of_getElem? (i := 3) rfl)) (hw _ (List.mem_of_getElem? (i := 4) rfl)) (hw _ (List.mem_of_getElem? (i := 5) rfl)) (hw _ (List.mem_of_getElem? (i := 6) rfl)) (by decide) e80 (rm1 l Z a0 hw (fsat (0 : Int64) a1) b1 h80) (by rw [hml]; rfl) pd_1 rfl rfl (hb hby at_85) rfl (by decide) rfl (by decide) (by decide) (by decide) ?_
    rintro _ T85 L85 ⟨rfl, rfl, e85⟩ X85
    show Ends p e below s (Q0 Z p1 p2 p3 p4 p5 h0) room_1.cells room_1.slots (T85.setTop (mkF m 88 #[.val (.long p1), .second, .val (.long p2), .second, .val (.long p3), .second, .val (.long p4), .second, .val (.int p5), .val (.long a1), .second, .val (.long b1), .second, .val (.long c1), .second, .val (.long d1), .second, .val (.int (4 : Int32)), .val (.ref t), .val (.long (fsat (0 : Int64) a1)), .second] [(.long (fsat (fsat (0 : Int64) a1) b1))]))
    have s1 := own_stp (fsat (0 : Int64) a1) b1 s0.2 rb
    refine o_lstore (Ls' := #[.val (.long p1), .second, .val (.long p2), .second, .val (.long p3), .second, .val (.long p4), .second, .val (.int p5), .val (.long a1), .second, .val (.long b1), .second, .val (.long c1), .second, .val (.long d1), .second, .val (.int (4 : Int32)), .val (.ref t), .val (.long (fsat (fsat (0 : Int64) a1) b1)), .second]) (pc' := 90) X85 hx (hb hby at_88) rfl rfl ?_
    refine o_iload (pc' := 92) X85 hx (hb hby at_90) rfl rfl ?_
    refine o_iconst (v := (3 : Int32)) (pc' := 93) X85 hx (hb hby at_92) (by decide) rfl ?_
    refine o_icmp_lt (p1 := 96) (p2 := 111) X85 hx (hb hby at_93) rfl (by decide) (by decide) (fun hc93 => absurd hc93 (by decide)) (fun hc93 => ?_)
    refine o_aload (pc' := 98) X85 hx (hb hby at_96) rfl rfl rfl ?_
    refine o_iconst (v := (2 : Int32)) (pc' := 99) X85 hx (hb hby at_98) (by decide) rfl ?_
    refine o_lload (pc' := 101) X85 hx (hb hby at_99) rfl rfl ?_
    refine o_lastore (pc' := 102) X85 hx hZ e85 A80 (C80.inb (by decide) (by decide)) (hb hby at_101) rfl ?_
    intro T101 h101 e101 W101 X101
    have A101 := Arr.same W101 A80
    have C101 := C80.put (Int32.toNatClampNeg (2 : Int32)) (.long c1)
    have N101 := Fr.snoc X101 (N80.app (Fr.nil _)) gt'
    refine o_lload (pc' := 104) X101 hx (hb hby at_102) rfl rfl ?_
    refine o_lload (pc' := 106) X101 hx (hb hby at_104) rfl rfl ?_
    refine o_callS (W := 0) (pc' := 109) (rm := ({ frames := 0, cells := 0, slots := 0, locals := 0 } : Room)) (argsL := [(.long (fsat (fsat (0 : Int64) a1) b1)), (.long c1)]) (rest := []) X101 hx hZ hown (hw _ (List.mem_of_getElem? (i := 3) rfl)) (hw _ (List.mem_of_getElem? (i := 4) rfl)) (hw _ (List.mem_of_getElem? (i := 5) rfl)) (hw _ (List.mem_of_getElem? (i := 6) rfl)) (by decide) e101 (rm1 l Z a0 hw (fsat (fsat (0 : Int64) a1) b1) c1 h101) (by rw [hml]; rfl) pd_1 rfl rfl (hb hby at_106) rfl (by decide) rfl (by decide) (by decide) (by decide) ?_
    rintro _ T106 L106 ⟨rfl, rfl, e106⟩ X106
    show Ends p e below s (Q0 Z p1 p2 p3 p4 p5 h0) room_1.cells room_1.slots (T106.setTop (mkF m 109 #[.val (.long p1), .second, .val (.long p2), .second, .val (.long p3), .second, .val (.long p4), .second, .val (.int p5), .val (.long a1), .second, .val (.long b1), .second, .val (.long c1), .second, .val (.long d1), .second, .val (.int (4 : Int32)), .val (.ref t), .val (.long (fsat (fsat (0 : Int64) a1) b1)), .second] [(.long (fsat (fsat (fsat (0 : Int64) a1) b1) c1))]))
    have s2 := own_stp (fsat (fsat (0 : Int64) a1) b1) c1 s1.2 rc
    refine o_lstore (Ls' := #[.val (.long p1), .second, .val (.long p2), .second, .val (.long p3), .second, .val (.long p4), .second, .val (.int p5), .val (.long a1), .second, .val (.long b1), .second, .val (.long c1), .second, .val (.long d1), .second, .val (.int (4 : Int32)), .val (.ref t), .val (.long (fsat (fsat (fsat (0 : Int64) a1) b1) c1)), .second]) (pc' := 111) X106 hx (hb hby at_109) rfl rfl ?_
    refine o_iload (pc' := 113) X106 hx (hb hby at_111) rfl rfl ?_
    refine o_iconst (v := (4 : Int32)) (pc' := 114) X106 hx (hb hby at_113) (by decide) rfl ?_
    refine o_icmp_lt (p1 := 117) (p2 := 132) X106 hx (hb hby at_114) rfl (by decide) (by decide) (fun hc114 => absurd hc114 (by decide)) (fun hc114 => ?_)
    refine o_aload (pc' := 119) X106 hx (hb hby at_117) rfl rfl rfl ?_
    refine o_iconst (v := (3 : Int32)) (pc' := 120) X106 hx (hb hby at_119) (by decide) rfl ?_
    refine o_lload (pc' := 122) X106 hx (hb hby at_120) rfl rfl ?_
    refine o_lastore (pc' := 123) X106 hx hZ e106 A101 (C101.inb (by decide) (by decide)) (hb hby at_122) rfl ?_
    intro T122 h122 e122 W122 X122
    have A122 := Arr.same W122 A101
    have C122 := C101.put (Int32.toNatClampNeg (3 : Int32)) (.long d1)
    have N122 := Fr.snoc X122 (N101.app (Fr.nil _)) gt'
    refine o_lload (pc' := 125) X122 hx (hb hby at_123) rfl rfl ?_
    refine o_lload (pc' := 127) X122 hx (hb hby at_125) rfl rfl ?_
    refine o_callS (W := 0) (pc' := 130) (rm := ({ frames := 0, cells := 0, slots := 0, locals := 0 } : Room)) (argsL := [(.long (fsat (fsat (fsat (0 : Int64) a1) b1) c1)), (.long d1)]) (rest := []) X122 hx hZ hown (hw _ (List.mem_of_getElem? (i := 3) rfl)) (hw _ (List.mem_of_getElem? (i := 4) rfl)) (hw _ (List.mem_of_getElem? (i := 5) rfl)) (hw _ (List.mem_of_getElem? (i := 6) rfl)) (by decide) e122 (rm1 l Z a0 hw (fsat (fsat (fsat (0 : Int64) a1) b1) c1) d1 h122) (by rw [hml]; rfl) pd_1 rfl rfl (hb hby at_127) rfl (by decide) rfl (by decide) (by decide) (by decide) ?_
    rintro _ T127 L127 ⟨rfl, rfl, e127⟩ X127
    show Ends p e below s (Q0 Z p1 p2 p3 p4 p5 h0) room_1.cells room_1.slots (T127.setTop (mkF m 130 #[.val (.long p1), .second, .val (.long p2), .second, .val (.long p3), .second, .val (.long p4), .second, .val (.int p5), .val (.long a1), .second, .val (.long b1), .second, .val (.long c1), .second, .val (.long d1), .second, .val (.int (4 : Int32)), .val (.ref t), .val (.long (fsat (fsat (fsat (0 : Int64) a1) b1) c1)), .second] [(.long (fsat (fsat (fsat (fsat (0 : Int64) a1) b1) c1) d1))]))
    have s3 := own_stp (fsat (fsat (fsat (0 : Int64) a1) b1) c1) d1 s2.2 rd
    refine o_lstore (Ls' := #[.val (.long p1), .second, .val (.long p2), .second, .val (.long p3), .second, .val (.long p4), .second, .val (.int p5), .val (.long a1), .second, .val (.long b1), .second, .val (.long c1), .second, .val (.long d1), .second, .val (.int (4 : Int32)), .val (.ref t), .val (.long (fsat (fsat (fsat (fsat (0 : Int64) a1) b1) c1) d1)), .second]) (pc' := 132) X127 hx (hb hby at_130) rfl rfl ?_
    refine o_aload (pc' := 134) X127 hx (hb hby at_132) rfl rfl rfl ?_
    obtain ⟨gl, hgl⟩ : ∃ gl : Nat → Int64, gl = fun k => if k = 3 then d1 else if k = 2 then c1 else if k = 1 then b1 else if k = 0 then a1 else 0 := ⟨_, rfl⟩
    have Cg : Cont _ 4 (fun k => .long (gl k)) := Cont.congr C122 (fun k hk => by
      subst hgl
      have hh : k = 0 ∨ k = 1 ∨ k = 2 ∨ k = 3 := by omega
      rcases hh with rfl | rfl | rfl | rfl <;> rfl)
    have hf : fsum gl 4 = fsat (fsat (fsat (fsat (0 : Int64) a1) b1) c1) d1 := by
      subst hgl
      show stp (stp (stp (stp (0 : Int64) a1) b1) c1) d1 = _
      rw [s0.1, s1.1, s2.1, s3.1]
    refine o_callS (W := 0) (pc' := 137) (rm := ({ frames := 0, cells := 0, slots := 0, locals := 0 } : Room)) (argsL := [(.ref t)]) (rest := []) X127 hx hZ hown (hw _ (List.mem_of_getElem? (i := 7) rfl)) (hw _ (List.mem_of_getElem? (i := 8) rfl)) (hw _ (List.mem_of_getElem? (i := 9) rfl)) (hw _ (List.mem_of_getElem? (i := 10) rfl)) (by decide) e127 (rm2 l Z a0 hw t _ 4 (4 : Int32) gl h122 A122 Cg (by decide)) (by rw [hml]; rfl) pd_2 rfl rfl (hb hby at_134) rfl (by decide) rfl (by decide) (by decide) (by decide) ?_
    rintro _ T134 L134 ⟨rfl, rfl, e134⟩ X134
    show Ends p e below s (Q0 Z p1 p2 p3 p4 p5 h0) room_1.cells room_1.slots (T134.setTop (mkF m 137 #[.val (.long p1), .second, .val (.long p2), .second, .val (.long p3), .second, .val (.long p4), .second, .val (.int p5), .val (.long a1), .second, .val (.long b1), .second, .val (.long c1), .second, .val (.long d1), .second, .val (.int (4 : Int32)), .val (.ref t), .val (.long (fsat (fsat (fsat (fsat (0 : Int64) a1) b1) c1) d1)), .second] [(.long (fsum gl 4))]))
    refine o_lload (pc' := 139) X134 hx (hb hby at_137) rfl rfl ?_
    refine o_lcmp_ne (p1 := 143) (p2 := 147) X134 hx (hb hby at_139) (hb hby at_140) rfl (by decide) (by decide) (fun hc139 => absurd hf hc139) (fun hc139 => ?_)
    refine o_iconst (v := (1 : Int32)) (pc' := 144) X134 hx (hb hby at_143) (by decide) rfl ?_
    refine o_goto (pc' := 148) X134 hx (hb hby at_144) (by decide) (by decide) ?_
    exact o_retZ X134 hx hlk hret (hb hby at_148) (by decide) ⟨rfl, by first | exact N122 | simpa using N122⟩ (by decide) (by decide)
set_option maxRecDepth 65536 in
set_option maxHeartbeats 40000000 in
theorem comes_1 {Post : Tables → Env → Array Value → State → Outcome → State → Prop} (hpost : ∀ tb e args s v u, (limb_1_1.after args s (.returned v) u = true ∧ limb_1_2.after args s (.returned v) u = true ∧ True) → FrameEnd s (.returned v) u (Jvm.fieldLocs frame_1_writes args s ++ Jvm.arrayLocs frame_1_arrays args s ++ Jvm.staticLocs frame_1_statics s) 16 128 → Post tb e args s (.returned v) u) :
    ArmFor flags0 classFile x code maxLocals ret World_1 tables_1 room_1 Calls_1 rest_1 Pre_1 Post := by
  intro l hfl _ _ p e ha hc hk s m args below hf hA hF happ hP
  obtain ⟨hcalls, hrest, hpre⟩ := hP
  obtain ⟨-, -, -, hnamed, -, -, -, hat⟩ := (Spec.applies_iff hf).mp happ
  obtain ⟨hg, hn⟩ := and_e (Cond.before_iff.mp (show (Jvm.Cond.and given_1 narrow_1).before args s = true from hpre))
  obtain ⟨g0, gr0⟩ := and_e hg
  obtain ⟨g1, gr1⟩ := and_e gr0
  obtain ⟨g2, gr2⟩ := and_e gr1
  obtain ⟨g3, gr3⟩ := and_e gr2
  obtain ⟨g4, gr4⟩ := and_e gr3
  obtain ⟨w0, w1, w2, w3, w4, rfl⟩ : ∃ w0 w1 w2 w3 w4 : Value, args = #[w0, w1, w2, w3, w4] := by
    have hs : args.size = 5 := by simpa [Cond.value, given_1] using g0
    obtain ⟨L⟩ := args
    match L, hs with
    | [w0, w1, w2, w3, w4], _ => exact ⟨w0, w1, w2, w3, w4, rfl⟩
  have hw := fun d (hd : d ∈ tables_1) => atoms_spec (ws := Jvm.Cond.code x code maxLocals ret :: tables_1) hat d (List.mem_cons_of_mem _ hd)
  have hfit : Fit s := fun {y c} hc i hi => by
    obtain ⟨ha, rfl⟩ := Array.getElem?_eq_some_iff.mp hc
    have q := List.all_eq_true.mp ((Array.all_eq_true_iff_forall_mem.mp hF) _ (Array.getElem_mem ha)) i (List.mem_range.mpr hi)
    simpa [Array.getElem?_eq_getElem hi] using q
  obtain ⟨i0, ei0⟩ := isL_v g1
  obtain rfl : w0 = (.long i0) := Option.some.inj ei0
  obtain ⟨i1, ei1⟩ := isL_v g2
  obtain rfl : w1 = (.long i1) := Option.some.inj ei1
  obtain ⟨i2, ei2⟩ := isL_v g3
  obtain rfl : w2 = (.long i2) := Option.some.inj ei2
  obtain ⟨i3, ei3⟩ := isL_v g4
  obtain rfl : w3 = (.long i3) := Option.some.inj ei3
  obtain ⟨i4, ei4⟩ := is_v gr4
  obtain rfl : w4 = (.int i4) := Option.some.inj ei4
  obtain ⟨n, o, h1, h2, h3, _, L, rfl, ⟨rfl, N⟩, hq⟩ := rm0 l s _ hw i0 i1 i2 i3 i4 s.heap tables_1 p e ha hc hk s m _ below hf ((Spec.applies_iff_loose hf).mp happ).1 ⟨rfl, State.Warmed39.refl s, rfl⟩ trivial
  refine ⟨n, _, h1, h2, h3, hpost _ _ _ _ _ _ ⟨Cond.after_iff.mpr rfl, Cond.after_iff.mpr (eq_i res_at (Term.int_eval (1)) rfl), trivial⟩ ⟨hq.1, hq.2.1, (hq.2.2.sift fun y hy => Or.inr (N y hy)).mono (by decide) (by decide)⟩⟩
theorem main_1_1 : Claimed_1_1 := comes_1 fun _ _ _ _ _ _ h hF => ⟨h.1, hF⟩
theorem main_1_2 : Claimed_1_2 := comes_1 fun _ _ _ _ _ _ h hF => ⟨h.2.1, hF⟩
end Jvm.Pilot.@@N@@
namespace Jvm.Pilot.@@N@@
open Jvm Jvm.ClassFile Sem Op Lib Jvm.Free Jvm.Stand Jvm.Pilot.@@N@@.Jvm.D
/-! MADE BY PROGRAM (witnessworld.py) out of the Statement's table words and the real class files: 11 classes; the members and pool entries that the words name. The judged class is class 1, her method 1. -/
namespace start1
open Jvm.ClassFile
def u (s : String) : CpInfo := .utf8 (stringToUtf16 s)
/-- a pool by its gaps: so many unusable entries, then the entry; so many at the end -/
def gap : Nat → List CpInfo → List CpInfo
  | 0, r => r
  | n + 1, r => .unusable :: gap n r
def poolList (es : List (Nat × CpInfo)) (last : Nat) : List CpInfo := es.foldr (fun e r => gap e.1 (e.2 :: r)) (gap last [])
def pool (es : List (Nat × CpInfo)) (last : Nat) : Array CpInfo := ⟨poolList es last⟩
def fileOf (pool : Array CpInfo) (this : Nat) (attrs : Array Attribute := #[]) (ms : Array MethodInfo := #[]) (fl : Nat := 33) (sup : Nat := 0) (ifs : Array Nat := #[]) (fds : Array FieldInfo := #[]) : ClassFile where
  minorVersion := 0
  majorVersion := 65
  constantPool := pool
  accessFlags := fl
  thisClass := this
  superClass := sup
  interfaces := ifs
  fields := fds
  methods := ms
  attributes := attrs
def plain (name : String) (sup : Option ClassId) : Class where
  name := name
  kind := .ordinary
  loader := none
  accessFlags := 33
  super := sup
  interfaces := #[]
  cf := none
  fields := #[]
  methods := #[]
  instanceTypes := #[]
  staticTypes := #[]
  resolved := #[]
  callSites := []
  init := .initialized
  statics := none
  mirror := none

def pool0 : Array CpInfo := pool [(5, u "<init>"), (0, u "()V"), (1, .class_ 10), (1, u "java/lang/Object")] 113

def k0m0 : Method := { name := "<init>", desc := "()V", sig := { parameters := [], returnType := none }, accessFlags := 1, code := none }
/-- java/lang/Object -/
def k0 : Class := { plain "java/lang/Object" none with
  accessFlags := 33
  interfaces := #[]
  cf := some (fileOf pool0 8 #[] #[{ accessFlags := 1, nameIndex := 5, descriptorIndex := 6, attributes := #[] }] 33 0 #[] #[])
  fields := #[]
  methods := #[k0m0]
  instanceTypes := #[]
  staticTypes := #[]
  resolved := Array.replicate 124 none
  statics := none }

def pool1 : Array CpInfo := pool [(2, .class_ 4), (1, u "java/lang/Object"), (0, u "<init>"), (0, u "()V"), (2, .long 9223372036854775807), (1, .integer 2147483647), (0, .methodref 13 14), (0, .class_ 15), (0, .nameAndType 16 17), (0, u "com/example/shiftwise/shiftwise/HeapBytesSumPinLaw"), (0, u "sat"), (0, u "(JJ)J"), (0, .methodref 19 20), (0, .class_ 21), (0, .nameAndType 22 23), (0, u "com/example/shiftwise/shiftwise/HeapBytes"), (0, u "sum"), (0, u "([J)J"), (2, u "law"), (0, u "(JJJJI)Z")] 5

def k1m0 : Method := { name := "<init>", desc := "()V", sig := { parameters := [], returnType := none }, accessFlags := 2, code := none }
def k1c1 : Code := { maxStack := 4, maxLocals := 21, code := code, exceptionTable := #[], attributes := #[] }
def k1m1 : Method := { name := "law", desc := "(JJJJI)Z", sig := { parameters := [.long, .long, .long, .long, .int], returnType := some .boolean }, accessFlags := 9, code := some k1c1 }
def k1c2 : Code := { maxStack := 4, maxLocals := 6, code := method_3_code, exceptionTable := #[], attributes := #[] }
def k1m2 : Method := { name := "sat", desc := "(JJ)J", sig := { parameters := [.long, .long], returnType := some .long }, accessFlags := 10, code := some k1c2 }
/-- com/example/shiftwise/shiftwise/HeapBytesSumPinLaw -/
def k1 : Class := { plain "com/example/shiftwise/shiftwise/HeapBytesSumPinLaw" (some 0) with
  accessFlags := 49
  interfaces := #[]
  cf := some (fileOf pool1 13 #[] #[{ accessFlags := 2, nameIndex := 5, descriptorIndex := 6, attributes := #[] }, { accessFlags := 9, nameIndex := 26, descriptorIndex := 27, attributes := #[] }, { accessFlags := 10, nameIndex := 16, descriptorIndex := 17, attributes := #[] }] 49 2 #[] #[])
  fields := #[]
  methods := #[k1m0, k1m1, k1m2]
  instanceTypes := #[]
  staticTypes := #[]
  resolved := Array.replicate 33 none
  statics := none }

def pool2 : Array CpInfo := pool [(4, .class_ 6), (1, u "java/lang/Object"), (0, u "<init>"), (0, u "()V"), (5, .class_ 16), (1, u "com/example/shiftwise/shiftwise/HeapBytes"), (9, .class_ 28), (1, u "com/example/shiftwise/shiftwise/HeapBytes$Layout"), (4, u "J"), (5, u "sum"), (0, u "([J)J"), (14, .long 9223372036854775807), (7, u "ARRAY_LENGTH")] 15

def k2m0 : Method := { name := "<init>", desc := "()V", sig := { parameters := [], returnType := none }, accessFlags := 2, code := none }
def k2c1 : Code := { maxStack := 6, maxLocals := 8, code := prog_11_method_10_code, exceptionTable := #[], attributes := #[] }
def k2m1 : Method := { name := "sum", desc := "([J)J", sig := { parameters := [(.array .long)], returnType := some .long }, accessFlags := 136, code := some k2c1 }
/-- com/example/shiftwise/shiftwise/HeapBytes -/
def k2 : Class := { plain "com/example/shiftwise/shiftwise/HeapBytes" (some 0) with
  accessFlags := 48
  interfaces := #[]
  cf := some (fileOf pool2 14 #[.nestMembers #[26]] #[{ accessFlags := 2, nameIndex := 7, descriptorIndex := 8, attributes := #[] }, { accessFlags := 136, nameIndex := 39, descriptorIndex := 40, attributes := #[] }] 48 4 #[] #[{ accessFlags := 26, nameIndex := 63, descriptorIndex := 33, attributes := #[] }])
  fields := #[{ name := "ARRAY_LENGTH", type := .long, accessFlags := 26, slot := 0, constantValue := 0 }]
  methods := #[k2m0, k2m1]
  instanceTypes := #[]
  staticTypes := #[.long]
  resolved := Array.replicate 79 none
  statics := none }

def pool3 : Array CpInfo := pool [(1, u "java/lang/Cloneable"), (0, .class_ 1), (0, u "java/lang/Object"), (0, .class_ 3)] 3

/-- java/lang/Cloneable -/
def k3 : Class := { plain "java/lang/Cloneable" (some 0) with
  accessFlags := 1537
  interfaces := #[]
  cf := some (fileOf pool3 2 #[] #[] 1537 4 #[] #[])
  fields := #[]
  methods := #[]
  instanceTypes := #[]
  staticTypes := #[]
  resolved := Array.replicate 8 none
  statics := none }

def pool4 : Array CpInfo := pool [(1, u "java/io/Serializable"), (0, .class_ 1), (0, u "java/lang/Object"), (0, .class_ 3)] 3

/-- java/io/Serializable -/
def k4 : Class := { plain "java/io/Serializable" (some 0) with
  accessFlags := 1537
  interfaces := #[]
  cf := some (fileOf pool4 2 #[] #[] 1537 4 #[] #[])
  fields := #[]
  methods := #[]
  instanceTypes := #[]
  staticTypes := #[]
  resolved := Array.replicate 8 none
  statics := none }

/-- the primitive byte -/
def k5 : Class := { plain "byte" none with kind := .primitive 'B', accessFlags := 0x411 }
/-- [B -/
def k6 : Class := { plain "[B" (some 0) with kind := .array 5 .byte, interfaces := #[3, 4], accessFlags := 1041 }

/-- the primitive int -/
def k7 : Class := { plain "int" none with kind := .primitive 'I', accessFlags := 0x411 }
/-- [I -/
def k8 : Class := { plain "[I" (some 0) with kind := .array 7 .int, interfaces := #[3, 4], accessFlags := 1041 }

/-- the primitive long -/
def k9 : Class := { plain "long" none with kind := .primitive 'J', accessFlags := 0x411 }
/-- [J -/
def k10 : Class := { plain "[J" (some 0) with kind := .array 9 .long, interfaces := #[3, 4], accessFlags := 1041 }

def heap : Heap := #[]
def classes : Array Class := #[k0, k1, k2, k3, k4, k5, k6, k7, k8, k9, k10]
def interned : List (Array UInt16 × Addr) := []
def slotsUsed : Nat := 0
def theMethod : MethodId := ⟨1, 1⟩
def args0 : Array Value := #[.long 5, .long 3, .long 65, .long 66, .int 3]
def aboutOver (below : List Frame) : State where
  vm := { classes := classes, interned := interned.toArray }
  heap := heap
  slotsUsed := slotsUsed
  threads := #[{ frames := .invoking theMethod args0 :: below }]
def below0 : List Frame := [.native { method := ⟨0, 0⟩, args := #[] }]
def about1 : State := aboutOver below0
def p0 : Program := .bare "" "" ""
def e0 : Env := launch0.env 0 0 0
theorem w_frames : about1.frames = Frame.invoking theMethod args0 :: below0 := rfl
set_option maxRecDepth 65536 in
theorem w_args : argsFit about1.vm theMethod args0 = true := by decide +kernel
set_option maxRecDepth 65536 in
theorem w_heap : heapFits about1 = true := by decide +kernel
set_option maxRecDepth 65536 in
theorem w_runnable : about1.curStatus? = some .runnable := by decide +kernel
set_option maxRecDepth 65536 in
theorem w_alone : about1.alone = true := by decide +kernel
set_option maxRecDepth 65536 in
theorem w_named : about1.methodNamed? x = some theMethod := by decide +kernel
set_option maxRecDepth 65536 in
theorem w_hears : about1.hears theMethod below0 = true := by decide +kernel
set_option maxRecDepth 65536 in
theorem w_ripe : about1.ripe theMethod args0 below0 = true := by decide +kernel
theorem w_running : about1.status = .running := rfl
set_option maxRecDepth 65536 in
theorem w_room : about1.hasRoom e0.platform room_1 = true :=
  launch0.hasRoom_least _ room_1 (by decide +kernel) (by decide +kernel) (by decide +kernel) (by decide +kernel) (by decide +kernel) (by decide +kernel)
theorem allAtoms_all (ts : List Jvm.Cond) (a : Array Jvm.Value) (st : Jvm.State) : (allAtoms ts).before a st = ts.all (fun c => c.before a st) := by
  induction ts with
  | nil => rfl
  | cons c t ih =>
    show (Jvm.Cond.and c (allAtoms t)).before a st = _
    rw [Jvm.Cond.before_and, ih, List.all_cons]
def words1 : List Jvm.Cond := Jvm.Cond.code x code maxLocals ret :: tables_1
/-- a 'code' word, met by the world's own term for the bytes: nothing is compared byte by byte -/
theorem code_word {y : MethodName} {bytes : ByteArray} {mx : Nat} {rt : Option FieldType} {a : Array Value} {s : State} {m : MethodId} {meth : Method} {c : Code} (h1 : s.methodNamed? y = some m) (h2 : s.vm.method? m = some meth) (h3 : meth.code = some c) (h4 : c.code = bytes)
    (h5 : (c.maxLocals == mx && c.exceptionTable.isEmpty && decide (c.maxStack ≤ mostOperands) && decide (meth.sig.returnType = rt) && !meth.locks && decide (parseMethodDescriptor y.desc = some meth.sig)) = true) : (Jvm.Cond.code y bytes mx rt).before a s = true := by
  simp only [Bool.and_eq_true, beq_iff_eq, Bool.not_eq_true', decide_eq_true_eq] at h5
  obtain ⟨⟨⟨⟨⟨g1, g2⟩, g3⟩, g4⟩, g5⟩, g6⟩ := h5
  simp [Cond.before, Cond.holds, Cond.value, h1, h2, h3, h4, g1, g2, g3, g4, g5, g6]
def isCode : Jvm.Cond → Bool
  | .code _ _ _ _ => true
  | _ => false
theorem all_split {L : List Jvm.Cond} {P : Jvm.Cond → Bool} (h1 : L.all (fun c => isCode c || P c) = true) (h2 : ∀ c ∈ L.filter isCode, P c = true) : L.all P = true := by
  refine List.all_eq_true.mpr fun c hc => ?_
  have h := List.all_eq_true.mp h1 c hc
  rcases Bool.eq_false_or_eq_true (isCode c) with hi | hi
  · exact h2 c (List.mem_filter.mpr ⟨hc, hi⟩)
  · simpa [hi] using h
set_option maxRecDepth 65536 in
theorem w_c0 : (Jvm.Cond.code x code maxLocals ret).before args0 about1 = true := code_word (m := ⟨1, 1⟩) (meth := k1m1) (c := k1c1) (by decide +kernel) rfl rfl rfl (by decide +kernel)
set_option maxRecDepth 65536 in
theorem w_c1 : (Jvm.Cond.code ({ cls := "com/example/shiftwise/shiftwise/HeapBytesSumPinLaw", name := "sat", desc := "(JJ)J" } : Jvm.MethodName) method_3_code (6 : Nat) (Option.some Jvm.ClassFile.FieldType.long)).before args0 about1 = true := code_word (m := ⟨1, 2⟩) (meth := k1m2) (c := k1c2) (by decide +kernel) rfl rfl rfl (by decide +kernel)
set_option maxRecDepth 65536 in
theorem w_c2 : (Jvm.Cond.code ({ cls := "com/example/shiftwise/shiftwise/HeapBytes", name := "sum", desc := "([J)J" } : Jvm.MethodName) prog_11_method_10_code (8 : Nat) (Option.some Jvm.ClassFile.FieldType.long)).before args0 about1 = true := code_word (m := ⟨2, 1⟩) (meth := k2m1) (c := k2c1) (by decide +kernel) rfl rfl rfl (by decide +kernel)
def codes1 : List Jvm.Cond := [Jvm.Cond.code x code maxLocals ret, Jvm.Cond.code ({ cls := "com/example/shiftwise/shiftwise/HeapBytesSumPinLaw", name := "sat", desc := "(JJ)J" } : Jvm.MethodName) method_3_code (6 : Nat) (Option.some Jvm.ClassFile.FieldType.long), Jvm.Cond.code ({ cls := "com/example/shiftwise/shiftwise/HeapBytes", name := "sum", desc := "([J)J" } : Jvm.MethodName) prog_11_method_10_code (8 : Nat) (Option.some Jvm.ClassFile.FieldType.long)]
set_option maxRecDepth 65536 in
theorem codes_eq : words1.filter isCode = codes1 := rfl
theorem w_codes : ∀ c ∈ words1.filter isCode, c.before args0 about1 = true := by
  rw [codes_eq]
  intro c hc
  simp only [codes1, List.mem_cons, List.not_mem_nil, or_false] at hc
  rcases hc with rfl | rfl | rfl
  · exact w_c0
  · exact w_c1
  · exact w_c2
set_option maxRecDepth 65536 in
theorem w_t1 : words1.all (fun c => isCode c || c.before args0 about1) = true := by decide +kernel
theorem w_tables : (allAtoms (Jvm.Cond.code x code maxLocals ret :: tables_1)).before args0 about1 = true := by
  rw [allAtoms_all]
  show words1.all (fun c => c.before args0 about1) = true
  refine all_split ?_ w_codes
  rw [w_t1]
set_option maxRecDepth 65536 in
theorem w_case : (Jvm.Cond.and given_1 narrow_1).before args0 about1 = true := by decide +kernel
theorem w_applies : (headSpec (Jvm.Cond.code x code maxLocals ret :: tables_1) room_1).applies x e0.platform about1 = true :=
  (Spec.applies_iff w_frames).mpr ⟨w_running, w_runnable, w_alone, w_named, w_hears, w_ripe, w_room, w_tables⟩
theorem atStart : AtStart classFile x code maxLocals ret World_1 tables_1 room_1 Calls_1 rest_1 Pre_1 launch0 p0 e0 about1 theMethod args0 below0 :=
  ⟨lists_1, trivial, launch0.admits_env _ _ _, launch0.least_env, fairChoices_fair.cas, fairChoices_fair.clock, w_frames, w_args, w_heap, w_applies, trivial, trivial, w_case⟩
end start1
theorem witness_1 : WitnessClaimed_1 := ⟨start1.p0, start1.e0, start1.about1, start1.theMethod, start1.args0, start1.below0, start1.atStart⟩
end Jvm.Pilot.@@N@@
