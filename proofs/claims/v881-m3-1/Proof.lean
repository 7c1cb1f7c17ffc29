import JvmDerived
import JvmDerived.Pilot.@@N@@Statement
import JvmDerived.Pilot.@@N@@Code
set_option linter.unusedVariables false
set_option linter.unusedSimpArgs false

namespace Jvm.Pilot.@@N@@
open Jvm Jvm.ClassFile Sem Op Lib Jvm.Free Jvm.Stand Jvm.LawKit Jvm.RoadKit Bundle Jvm.Pilot.@@N@@.Jvm.D
/-- from the state S the invocation runs to its end and Q holds there -/
def Ends (p : Program) (e : Env) (below : List Frame) (s : State) (Q : Option Value → Heap → List Loc → Prop) (K N : Nat) (S : State) : Prop :=
  ∃ s₂ o, Steps p.tables e below S s₂ ∧ s₂.status = .running ∧ Ended s₂ below o ∧ ∃ v L, o = .returned v ∧ Q v s₂.heap L ∧ FrameEnd s o s₂ L K N
/-- a method's contract at given arguments and heap -/
def Con (l : Launch) (Z : State) (y : MethodName) (bytes : ByteArray) (maxL : Nat) (rt : Option FieldType) (rm : Room) (as' : Array Value) (h0 : Heap) (Q : Option Value → Heap → List Loc → Prop) : Prop :=
  ∀ ws, MetFree l y (head1 (Jvm.Cond.code y bytes maxL rt :: ws) rm) (fun a U => a = as' ∧ Z.Warmed39 U.vm ∧ U.heap = h0) (fun _ _ _ _ _ => True) (fun _ U o U' => ∃ v L, o = .returned v ∧ Q v U'.heap L ∧ FrameEnd U o U' L rm.cells rm.slots)
section Own
variable {p : Program} {l : Launch} {e : Env} {R : Room} {s : State} {m : MethodId} {args : Array Value} {below : List Frame} {meth : Method} {c : Code} {T : State} {locs : List Loc} {cells slots : Nat} {Q : Option Value → Heap → List Loc → Prop} {K N : Nat} {pc pc' : Nat} {Ls Ls' : Array Slot} {st : List Value} {Z : State} {a0 : Array Value} {h : Heap}
theorem Ends.go {S S' : State} (g : ∀ t, Steps p.tables e below S' t → Steps p.tables e below S t) (E : Ends p e below s Q K N S') : Ends p e below s Q K N S := by
  obtain ⟨s2, o, h1, r⟩ := E; exact ⟨s2, o, g _ h1, r⟩
theorem Con.ofP {y : MethodName} {bytes : ByteArray} {maxL : Nat} {rt : Option FieldType} {rm : Room} {as' : Array Value} {h0 : Heap} (hn : plainFor y = true)
    (body : ∀ (p : Program) (e : Env) (s : State) (m : MethodId) (below : List Frame) (meth : Method) (c : Code) (T : State), Stand p l e rm s m as' below meth c T [] 0 0 → p.tables.exec = Jvm.exec → c.code = bytes → c.maxLocals = maxL → meth.sig.returnType = rt → meth.locks = false → s.vm.findClass y.cls = some m.cls → meth.name = y.name → Z.Warmed39 s.vm → T.heap = h0 →
      Ends p e below s Q rm.cells rm.slots (T.setTop (entryFrame m as' maxL))) : Con l Z y bytes maxL rt rm as' h0 Q := by
  intro ws
  refine MetFree.of_bodySF hn hisR ?_
  intro p e s m args below meth c s₁ Bd hml0 hP hK
  obtain ⟨ha, hZ, hh⟩ := hP
  subst ha
  have X0 : Stand p l e rm s m _ below meth c s₁ [] 0 0 := Stand.of_body Bd
  have e0 : s₁.heap = h0 := by rw [← hh, Bd.state]; rfl
  exact body p e s m below meth c s₁ X0 Bd.exec Bd.bytes hml0 Bd.returns (BodyLoose.notSynchronized Bd) (findClass_of_methodNamed Bd.named) (name_of_methodNamed Bd.named Bd.method).1 hZ e0
theorem Con.of {y : MethodName} {bytes : ByteArray} {maxL : Nat} {rt : Option FieldType} {rm : Room} {as' : Array Value} {h0 : Heap} (hn : plainName y.cls = true)
    (body : ∀ (p : Program) (e : Env) (s : State) (m : MethodId) (below : List Frame) (meth : Method) (c : Code) (T : State), Stand p l e rm s m as' below meth c T [] 0 0 → p.tables.exec = Jvm.exec → c.code = bytes → c.maxLocals = maxL → meth.sig.returnType = rt → meth.locks = false → s.vm.findClass y.cls = some m.cls → meth.name = y.name → Z.Warmed39 s.vm → T.heap = h0 →
      Ends p e below s Q rm.cells rm.slots (T.setTop (entryFrame m as' maxL))) : Con l Z y bytes maxL rt rm as' h0 Q := Con.ofP (plainFor_of_name hn) body
theorem o_aloadN (X : Stand p l e R s m args below meth c T locs cells slots) (hx : p.tables.exec = Jvm.exec) {k : Fin 4} {v : Value} (hd : decode c.code pc = .ok (.aload_n k, 1)) (hl : Ls[k.val]? = some (.val v)) (hv : v.isRef = true) (hp : pc + 1 = pc') (E : Ends p e below s Q K N (T.setTop (mkF m pc' Ls (v :: st)))) : Ends p e below s Q K N (T.setTop (mkF m pc Ls st)) := by
  subst hp; exact Ends.go (fun t q => XS.aloadN X.here hx rfl hd hl hv q) E
theorem o_aload (X : Stand p l e R s m args below meth c T locs cells slots) (hx : p.tables.exec = Jvm.exec) {k : Nat} {v : Value} (hd : decode c.code pc = .ok (.aload k, 2)) (hl : Ls[k]? = some (.val v)) (hv : v.isRef = true) (hp : pc + 2 = pc') (E : Ends p e below s Q K N (T.setTop (mkF m pc' Ls (v :: st)))) : Ends p e below s Q K N (T.setTop (mkF m pc Ls st)) := by
  subst hp; exact Ends.go (fun t q => XS.aload X.here hx rfl hd hl hv q) E
theorem o_iloadN (X : Stand p l e R s m args below meth c T locs cells slots) (hx : p.tables.exec = Jvm.exec) {k : Fin 4} {v : Int32} (hd : decode c.code pc = .ok (.iload_n k, 1)) (hl : Ls[k.val]? = some (.val (.int v))) (hp : pc + 1 = pc') (E : Ends p e below s Q K N (T.setTop (mkF m pc' Ls (.int v :: st)))) : Ends p e below s Q K N (T.setTop (mkF m pc Ls st)) := by
  subst hp; exact Ends.go (fun t q => XS.iloadN X.here hx rfl hd hl q) E
theorem o_iload (X : Stand p l e R s m args below meth c T locs cells slots) (hx : p.tables.exec = Jvm.exec) {k : Nat} {v : Int32} (hd : decode c.code pc = .ok (.iload k, 2)) (hl : Ls[k]? = some (.val (.int v))) (hp : pc + 2 = pc') (E : Ends p e below s Q K N (T.setTop (mkF m pc' Ls (.int v :: st)))) : Ends p e below s Q K N (T.setTop (mkF m pc Ls st)) := by
  subst hp; exact Ends.go (fun t q => XS.iload X.here hx rfl hd hl q) E
theorem o_istore (X : Stand p l e R s m args below meth c T locs cells slots) (hx : p.tables.exec = Jvm.exec) {k : Nat} {v : Int32} (hd : decode c.code pc = .ok (.istore k, 2)) (hl : storeLocals Ls k (.int v) = some Ls') (hp : pc + 2 = pc') (E : Ends p e below s Q K N (T.setTop (mkF m pc' Ls' st))) : Ends p e below s Q K N (T.setTop (mkF m pc Ls (.int v :: st))) := by
  subst hp; exact Ends.go (fun t q => XS.istore X.here hx rfl hd rfl hl q) E
theorem o_lloadN (X : Stand p l e R s m args below meth c T locs cells slots) (hx : p.tables.exec = Jvm.exec) {k : Fin 4} {v : Int64} (hd : decode c.code pc = .ok (.lload_n k, 1)) (hl : Ls[k.val]? = some (.val (.long v))) (hp : pc + 1 = pc') (E : Ends p e below s Q K N (T.setTop (mkF m pc' Ls (.long v :: st)))) : Ends p e below s Q K N (T.setTop (mkF m pc Ls st)) := by
  subst hp; exact Ends.go (fun t q => XS.lloadN X.here hx rfl hd hl q) E
theorem o_lload (X : Stand p l e R s m args below meth c T locs cells slots) (hx : p.tables.exec = Jvm.exec) {k : Nat} {v : Int64} (hd : decode c.code pc = .ok (.lload k, 2)) (hl : Ls[k]? = some (.val (.long v))) (hp : pc + 2 = pc') (E : Ends p e below s Q K N (T.setTop (mkF m pc' Ls (.long v :: st)))) : Ends p e below s Q K N (T.setTop (mkF m pc Ls st)) := by
  subst hp; exact Ends.go (fun t q => XS.lload X.here hx rfl hd hl q) E
theorem o_lstore (X : Stand p l e R s m args below meth c T locs cells slots) (hx : p.tables.exec = Jvm.exec) {k : Nat} {v : Int64} (hd : decode c.code pc = .ok (.lstore k, 2)) (hl : storeLocals Ls k (.long v) = some Ls') (hp : pc + 2 = pc') (E : Ends p e below s Q K N (T.setTop (mkF m pc' Ls' st))) : Ends p e below s Q K N (T.setTop (mkF m pc Ls (.long v :: st))) := by
  subst hp; exact Ends.go (fun t q => XS.lstore X.here hx rfl hd rfl hl q) E
theorem o_dloadN (X : Stand p l e R s m args below meth c T locs cells slots) (hx : p.tables.exec = Jvm.exec) {k : Fin 4} {v : UInt64} (hd : decode c.code pc = .ok (.dload_n k, 1)) (hl : Ls[k.val]? = some (.val (.double v))) (hp : pc + 1 = pc') (E : Ends p e below s Q K N (T.setTop (mkF m pc' Ls (.double v :: st)))) : Ends p e below s Q K N (T.setTop (mkF m pc Ls st)) := by
  subst hp; exact Ends.go (fun t q => XS.dloadN X.here hx rfl hd hl q) E
theorem o_dload (X : Stand p l e R s m args below meth c T locs cells slots) (hx : p.tables.exec = Jvm.exec) {k : Nat} {v : UInt64} (hd : decode c.code pc = .ok (.dload k, 2)) (hl : Ls[k]? = some (.val (.double v))) (hp : pc + 2 = pc') (E : Ends p e below s Q K N (T.setTop (mkF m pc' Ls (.double v :: st)))) : Ends p e below s Q K N (T.setTop (mkF m pc Ls st)) := by
  subst hp; exact Ends.go (fun t q => XS.dload X.here hx rfl hd hl q) E
theorem o_dstoreN (X : Stand p l e R s m args below meth c T locs cells slots) (hx : p.tables.exec = Jvm.exec) {k : Fin 4} {v : UInt64} (hd : decode c.code pc = .ok (.dstore_n k, 1)) (hl : storeLocals Ls k.val (.double v) = some Ls') (hp : pc + 1 = pc') (E : Ends p e below s Q K N (T.setTop (mkF m pc' Ls' st))) : Ends p e below s Q K N (T.setTop (mkF m pc Ls (.double v :: st))) := by
  subst hp; exact Ends.go (fun t q => XS.dstoreN X.here hx rfl hd rfl hl q) E
theorem o_dstore (X : Stand p l e R s m args below meth c T locs cells slots) (hx : p.tables.exec = Jvm.exec) {k : Nat} {v : UInt64} (hd : decode c.code pc = .ok (.dstore k, 2)) (hl : storeLocals Ls k (.double v) = some Ls') (hp : pc + 2 = pc') (E : Ends p e below s Q K N (T.setTop (mkF m pc' Ls' st))) : Ends p e below s Q K N (T.setTop (mkF m pc Ls (.double v :: st))) := by
  subst hp; exact Ends.go (fun t q => XS.dstore X.here hx rfl hd rfl hl q) E
theorem o_astore (X : Stand p l e R s m args below meth c T locs cells slots) (hx : p.tables.exec = Jvm.exec) {k : Nat} {v : Value} (hd : decode c.code pc = .ok (.astore k, 2)) (hv : v.isRef = true) (hl : storeLocals Ls k v = some Ls') (hp : pc + 2 = pc') (E : Ends p e below s Q K N (T.setTop (mkF m pc' Ls' st))) : Ends p e below s Q K N (T.setTop (mkF m pc Ls (v :: st))) := by
  subst hp; exact Ends.go (fun t q => XS.astore X.here hx rfl hd rfl hv hl q) E
theorem o_iconst (X : Stand p l e R s m args below meth c T locs cells slots) (hx : p.tables.exec = Jvm.exec) {i : Int} {v : Int32} (hd : decode c.code pc = .ok (.iconst i, 1)) (hv : Int32.ofInt i = v) (hp : pc + 1 = pc') (E : Ends p e below s Q K N (T.setTop (mkF m pc' Ls (.int v :: st)))) : Ends p e below s Q K N (T.setTop (mkF m pc Ls st)) := by
  subst hp; exact Ends.go (fun t q => XS.iconst X.here hx rfl hd  (by rw [hv]; exact q)) E
theorem o_bipush (X : Stand p l e R s m args below meth c T locs cells slots) (hx : p.tables.exec = Jvm.exec) {i : Int} {v : Int32} (hd : decode c.code pc = .ok (.bipush i, 2)) (hv : (Int8.ofInt i).toInt32 = v) (hp : pc + 2 = pc') (E : Ends p e below s Q K N (T.setTop (mkF m pc' Ls (.int v :: st)))) : Ends p e below s Q K N (T.setTop (mkF m pc Ls st)) := by
  subst hp; exact Ends.go (fun t q => XS.bipush X.here hx rfl hd  (by rw [hv]; exact q)) E
theorem o_lconst (X : Stand p l e R s m args below meth c T locs cells slots) (hx : p.tables.exec = Jvm.exec) {k : Fin 2} {v : Int64} (hd : decode c.code pc = .ok (.lconst k, 1)) (hv : Int64.ofNat k = v) (hp : pc + 1 = pc') (E : Ends p e below s Q K N (T.setTop (mkF m pc' Ls (.long v :: st)))) : Ends p e below s Q K N (T.setTop (mkF m pc Ls st)) := by
  subst hp; exact Ends.go (fun t q => XS.lconst X.here hx rfl hd  (by rw [hv]; exact q)) E
theorem o_imul (X : Stand p l e R s m args below meth c T locs cells slots) (hx : p.tables.exec = Jvm.exec) {x y : Int32} (hd : decode c.code pc = .ok (.imul, 1))  (hp : pc + 1 = pc') (E : Ends p e below s Q K N (T.setTop (mkF m pc' Ls (.int (x * y) :: st)))) : Ends p e below s Q K N (T.setTop (mkF m pc Ls (.int y :: .int x :: st))) := by
  subst hp; exact Ends.go (fun t q => XS.imul X.here hx rfl hd rfl q) E
theorem o_iand (X : Stand p l e R s m args below meth c T locs cells slots) (hx : p.tables.exec = Jvm.exec) {x y : Int32} (hd : decode c.code pc = .ok (.iand, 1))  (hp : pc + 1 = pc') (E : Ends p e below s Q K N (T.setTop (mkF m pc' Ls (.int (x &&& y) :: st)))) : Ends p e below s Q K N (T.setTop (mkF m pc Ls (.int y :: .int x :: st))) := by
  subst hp; exact Ends.go (fun t q => XS.iand X.here hx rfl hd rfl q) E
theorem o_irem (X : Stand p l e R s m args below meth c T locs cells slots) (hx : p.tables.exec = Jvm.exec) {x y : Int32} (hd : decode c.code pc = .ok (.irem, 1)) (hy : y ≠ 0) (hp : pc + 1 = pc') (E : Ends p e below s Q K N (T.setTop (mkF m pc' Ls (.int (x % y) :: st)))) : Ends p e below s Q K N (T.setTop (mkF m pc Ls (.int y :: .int x :: st))) := by
  subst hp; exact Ends.go (fun t q => iremM (g := mkF m pc Ls (.int y :: .int x :: st)) X hx rfl hd rfl hy q) E
theorem o_ladd (X : Stand p l e R s m args below meth c T locs cells slots) (hx : p.tables.exec = Jvm.exec) {x y : Int64} (hd : decode c.code pc = .ok (.ladd, 1))  (hp : pc + 1 = pc') (E : Ends p e below s Q K N (T.setTop (mkF m pc' Ls (.long (x + y) :: st)))) : Ends p e below s Q K N (T.setTop (mkF m pc Ls (.long y :: .long x :: st))) := by
  subst hp; exact Ends.go (fun t q => XS.ladd X.here hx rfl hd rfl q) E
theorem o_lsub (X : Stand p l e R s m args below meth c T locs cells slots) (hx : p.tables.exec = Jvm.exec) {x y : Int64} (hd : decode c.code pc = .ok (.lsub, 1))  (hp : pc + 1 = pc') (E : Ends p e below s Q K N (T.setTop (mkF m pc' Ls (.long (x - y) :: st)))) : Ends p e below s Q K N (T.setTop (mkF m pc Ls (.long y :: .long x :: st))) := by
  subst hp; exact Ends.go (fun t q => XS.lsub X.here hx rfl hd rfl q) E
theorem o_lmul (X : Stand p l e R s m args below meth c T locs cells slots) (hx : p.tables.exec = Jvm.exec) {x y : Int64} (hd : decode c.code pc = .ok (.lmul, 1))  (hp : pc + 1 = pc') (E : Ends p e below s Q K N (T.setTop (mkF m pc' Ls (.long (x * y) :: st)))) : Ends p e below s Q K N (T.setTop (mkF m pc Ls (.long y :: .long x :: st))) := by
  subst hp; exact Ends.go (fun t q => XS.lmul X.here hx rfl hd rfl q) E
theorem o_lshr (X : Stand p l e R s m args below meth c T locs cells slots) (hx : p.tables.exec = Jvm.exec) {x : Int64} {y : Int32} (hd : decode c.code pc = .ok (.lshr, 1))  (hp : pc + 1 = pc') (E : Ends p e below s Q K N (T.setTop (mkF m pc' Ls (.long (x >>> (y &&& 0x3f).toInt64) :: st)))) : Ends p e below s Q K N (T.setTop (mkF m pc Ls (.int y :: .long x :: st))) := by
  subst hp; exact Ends.go (fun t q => XS.lshr X.here hx rfl hd rfl q) E
theorem o_i2s (X : Stand p l e R s m args below meth c T locs cells slots) (hx : p.tables.exec = Jvm.exec) {v : Int32} (hd : decode c.code pc = .ok (.i2s, 1))  (hp : pc + 1 = pc') (E : Ends p e below s Q K N (T.setTop (mkF m pc' Ls (.int (v.toInt16.toInt32) :: st)))) : Ends p e below s Q K N (T.setTop (mkF m pc Ls (.int v :: st))) := by
  subst hp; exact Ends.go (fun t q => XS.i2s X.here hx rfl hd rfl q) E
theorem o_i2l (X : Stand p l e R s m args below meth c T locs cells slots) (hx : p.tables.exec = Jvm.exec) {v : Int32} (hd : decode c.code pc = .ok (.i2l, 1))  (hp : pc + 1 = pc') (E : Ends p e below s Q K N (T.setTop (mkF m pc' Ls (.long (v.toInt64) :: st)))) : Ends p e below s Q K N (T.setTop (mkF m pc Ls (.int v :: st))) := by
  subst hp; exact Ends.go (fun t q => XS.i2l X.here hx rfl hd rfl q) E
theorem o_l2i (X : Stand p l e R s m args below meth c T locs cells slots) (hx : p.tables.exec = Jvm.exec) {v : Int64} (hd : decode c.code pc = .ok (.l2i, 1))  (hp : pc + 1 = pc') (E : Ends p e below s Q K N (T.setTop (mkF m pc' Ls (.int (v.toInt32) :: st)))) : Ends p e below s Q K N (T.setTop (mkF m pc Ls (.long v :: st))) := by
  subst hp; exact Ends.go (fun t q => XS.l2i X.here hx rfl hd rfl q) E
theorem o_iinc (X : Stand p l e R s m args below meth c T locs cells slots) (hx : p.tables.exec = Jvm.exec) {k : Nat} {cst : Int} {v v' : Int32} (hd : decode c.code pc = .ok (.iinc k cst, 3)) (hl : Ls[k]? = some (.val (.int v))) (hv : v + Int32.ofInt cst = v') (hl' : storeLocals Ls k (.int v') = some Ls') (hp : pc + 3 = pc') (E : Ends p e below s Q K N (T.setTop (mkF m pc' Ls' st))) : Ends p e below s Q K N (T.setTop (mkF m pc Ls st)) := by
  subst hp; exact Ends.go (fun t q => XS.iinc X.here hx rfl hd hl (by rw [hv]; exact hl') q) E
theorem o_dconst0 (X : Stand p l e R s m args below meth c T locs cells slots) (hx : p.tables.exec = Jvm.exec) {v : UInt64} (hd : decode c.code pc = .ok (.dconst 0, 1)) (hv : FP.dconst0 = v) (hp : pc + 1 = pc') (E : Ends p e below s Q K N (T.setTop (mkF m pc' Ls (.double v :: st)))) : Ends p e below s Q K N (T.setTop (mkF m pc Ls st)) := by
  subst hp; exact Ends.go (fun t q => XS.dconst0 X.here hx rfl hd hv q) E
theorem o_l2d (X : Stand p l e R s m args below meth c T locs cells slots) (hx : p.tables.exec = Jvm.exec) {x : Int64} {v : UInt64} (hd : decode c.code pc = .ok (.l2d, 1)) (hv : FP.l2d x = v) (hp : pc + 1 = pc') (E : Ends p e below s Q K N (T.setTop (mkF m pc' Ls (.double v :: st)))) : Ends p e below s Q K N (T.setTop (mkF m pc Ls (.long x :: st))) := by
  subst hp; exact Ends.go (fun t q => XS.l2dS X.here hx rfl hd rfl hv q) E
theorem o_dadd (X : Stand p l e R s m args below meth c T locs cells slots) (hx : p.tables.exec = Jvm.exec) {x y v : UInt64} (hd : decode c.code pc = .ok (.dadd, 1)) (hv : FP.dadd x y = v) (hnn : Jvm.Free.Fl.NoNaN64 v) (hp : pc + 1 = pc') (E : Ends p e below s Q K N (T.setTop (mkF m pc' Ls (.double v :: st)))) : Ends p e below s Q K N (T.setTop (mkF m pc Ls (.double y :: .double x :: st))) := by
  subst hp; exact Ends.go (fun t q => XS.daddS X.here hx rfl hd rfl (hv ▸ hnn) hv q) E
theorem o_dsub (X : Stand p l e R s m args below meth c T locs cells slots) (hx : p.tables.exec = Jvm.exec) {x y v : UInt64} (hd : decode c.code pc = .ok (.dsub, 1)) (hv : FP.dsub x y = v) (hnn : Jvm.Free.Fl.NoNaN64 v) (hp : pc + 1 = pc') (E : Ends p e below s Q K N (T.setTop (mkF m pc' Ls (.double v :: st)))) : Ends p e below s Q K N (T.setTop (mkF m pc Ls (.double y :: .double x :: st))) := by
  subst hp; exact Ends.go (fun t q => XS.dsubS X.here hx rfl hd rfl (hv ▸ hnn) hv q) E
theorem o_dmul (X : Stand p l e R s m args below meth c T locs cells slots) (hx : p.tables.exec = Jvm.exec) {x y v : UInt64} (hd : decode c.code pc = .ok (.dmul, 1)) (hv : FP.dmul x y = v) (hnn : Jvm.Free.Fl.NoNaN64 v) (hp : pc + 1 = pc') (E : Ends p e below s Q K N (T.setTop (mkF m pc' Ls (.double v :: st)))) : Ends p e below s Q K N (T.setTop (mkF m pc Ls (.double y :: .double x :: st))) := by
  subst hp; exact Ends.go (fun t q => XS.dmulS X.here hx rfl hd rfl (hv ▸ hnn) hv q) E
theorem o_dcmp (X : Stand p l e R s m args below meth c T locs cells slots) (hx : p.tables.exec = Jvm.exec) {o : CmpOp} {x y : UInt64} {v : Int32} (hd : decode c.code pc = .ok (.dcmp o, 1)) (hv : cmpValue (FP.dcmp x y) o = v) (hp : pc + 1 = pc') (E : Ends p e below s Q K N (T.setTop (mkF m pc' Ls (.int v :: st)))) : Ends p e below s Q K N (T.setTop (mkF m pc Ls (.double y :: .double x :: st))) := by
  subst hp; exact Ends.go (fun t q => XS.dcmpS X.here hx rfl hd rfl hv q) E
theorem o_ldc (X : Stand p l e R s m args below meth c T locs cells slots) (hx : p.tables.exec = Jvm.exec) {own : String} {index : Nat} {v : Int32} (hd : decode c.code pc = .ok (.ldc index, 2)) (hZ : Z.Warmed39 s.vm) (hown : s.vm.findClass own = some m.cls) (w : (Jvm.Cond.constant own index v).before a0 Z = true) (hp : pc + 2 = pc') (E : Ends p e below s Q K N (T.setTop (mkF m pc' Ls (.int v :: st)))) : Ends p e below s Q K N (T.setTop (mkF m pc Ls st)) := by
  subst hp; exact Ends.go (fun t q => X.ldcInt hx hown (mvT hZ w) (g := mkF m pc Ls st) rfl hd t q) E
theorem o_goto (X : Stand p l e R s m args below meth c T locs cells slots) (hx : p.tables.exec = Jvm.exec) {o : Int} (hd : decode c.code pc = .ok (.goto o, 3)) (ho : 0 ≤ (pc : Int) + o) (hp : ((pc : Int) + o).toNat = pc') (E : Ends p e below s Q K N (T.setTop (mkF m pc' Ls st))) : Ends p e below s Q K N (T.setTop (mkF m pc Ls st)) :=
  Ends.go (fun t q => XS.goto X.here hx rfl (pc0 := pc) rfl hd ho hp q) E
theorem o_icmp_lt (X : Stand p l e R s m args below meth c T locs cells slots) (hx : p.tables.exec = Jvm.exec) {x y : Int32} {o : Int} {p1 p2 : Nat} (hd : decode c.code pc = .ok (.if_icmp .lt o, 3)) (hp : pc + 3 = p1) (ho : 0 ≤ (pc : Int) + o) (hp2 : ((pc : Int) + o).toNat = p2) (E1 : x < y → Ends p e below s Q K N (T.setTop (mkF m p2 Ls st))) (E2 : ¬ x < y → Ends p e below s Q K N (T.setTop (mkF m p1 Ls st))) : Ends p e below s Q K N (T.setTop (mkF m pc Ls (.int y :: .int x :: st))) := by
  subst hp
  by_cases hc : x < y
  · exact Ends.go (fun t q => XS.icmpYes X.here hx rfl (pc0 := pc) rfl hd rfl ((tlt hc).1) ho hp2 q) (E1 hc)
  · exact Ends.go (fun t q => XS.icmpNo X.here hx rfl hd rfl ((flt hc).1) q) (E2 hc)
theorem o_icmp_ge (X : Stand p l e R s m args below meth c T locs cells slots) (hx : p.tables.exec = Jvm.exec) {x y : Int32} {o : Int} {p1 p2 : Nat} (hd : decode c.code pc = .ok (.if_icmp .ge o, 3)) (hp : pc + 3 = p1) (ho : 0 ≤ (pc : Int) + o) (hp2 : ((pc : Int) + o).toNat = p2) (E1 : ¬ x < y → Ends p e below s Q K N (T.setTop (mkF m p2 Ls st))) (E2 : x < y → Ends p e below s Q K N (T.setTop (mkF m p1 Ls st))) : Ends p e below s Q K N (T.setTop (mkF m pc Ls (.int y :: .int x :: st))) := by
  subst hp
  by_cases hc : x < y
  · exact Ends.go (fun t q => XS.icmpNo X.here hx rfl hd rfl ((tlt hc).2.1) q) (E2 hc)
  · exact Ends.go (fun t q => XS.icmpYes X.here hx rfl (pc0 := pc) rfl hd rfl ((flt hc).2.1) ho hp2 q) (E1 hc)
theorem o_icmp_le (X : Stand p l e R s m args below meth c T locs cells slots) (hx : p.tables.exec = Jvm.exec) {x y : Int32} {o : Int} {p1 p2 : Nat} (hd : decode c.code pc = .ok (.if_icmp .le o, 3)) (hp : pc + 3 = p1) (ho : 0 ≤ (pc : Int) + o) (hp2 : ((pc : Int) + o).toNat = p2) (E1 : ¬ y < x → Ends p e below s Q K N (T.setTop (mkF m p2 Ls st))) (E2 : y < x → Ends p e below s Q K N (T.setTop (mkF m p1 Ls st))) : Ends p e below s Q K N (T.setTop (mkF m pc Ls (.int y :: .int x :: st))) := by
  subst hp
  by_cases hc : y < x
  · exact Ends.go (fun t q => XS.icmpNo X.here hx rfl hd rfl ((tlt hc).2.2.2) q) (E2 hc)
  · exact Ends.go (fun t q => XS.icmpYes X.here hx rfl (pc0 := pc) rfl hd rfl ((flt hc).2.2.2) ho hp2 q) (E1 hc)
theorem o_if_ne (X : Stand p l e R s m args below meth c T locs cells slots) (hx : p.tables.exec = Jvm.exec) {x : Int32} {o : Int} {p1 p2 : Nat} (hd : decode c.code pc = .ok (.ifCond .ne o, 3)) (hp : pc + 3 = p1) (ho : 0 ≤ (pc : Int) + o) (hp2 : ((pc : Int) + o).toNat = p2) (E1 : ¬ x = 0 → Ends p e below s Q K N (T.setTop (mkF m p2 Ls st))) (E2 : x = 0 → Ends p e below s Q K N (T.setTop (mkF m p1 Ls st))) : Ends p e below s Q K N (T.setTop (mkF m pc Ls (.int x :: st))) := by
  subst hp
  by_cases hc : x = 0
  · exact Ends.go (fun t q => XS.ifNo X.here hx rfl hd rfl ((if0 _ _).trans ((teq hc).2)) q) (E2 hc)
  · exact Ends.go (fun t q => XS.ifYes X.here hx rfl (pc0 := pc) rfl hd rfl ((if0 _ _).trans ((feq hc).2)) ho hp2 q) (E1 hc)
theorem o_if_le (X : Stand p l e R s m args below meth c T locs cells slots) (hx : p.tables.exec = Jvm.exec) {x : Int32} {o : Int} {p1 p2 : Nat} (hd : decode c.code pc = .ok (.ifCond .le o, 3)) (hp : pc + 3 = p1) (ho : 0 ≤ (pc : Int) + o) (hp2 : ((pc : Int) + o).toNat = p2) (E1 : ¬ 0 < x → Ends p e below s Q K N (T.setTop (mkF m p2 Ls st))) (E2 : 0 < x → Ends p e below s Q K N (T.setTop (mkF m p1 Ls st))) : Ends p e below s Q K N (T.setTop (mkF m pc Ls (.int x :: st))) := by
  subst hp
  by_cases hc : 0 < x
  · exact Ends.go (fun t q => XS.ifNo X.here hx rfl hd rfl ((if0 _ _).trans ((tlt hc).2.2.2)) q) (E2 hc)
  · exact Ends.go (fun t q => XS.ifYes X.here hx rfl (pc0 := pc) rfl hd rfl ((if0 _ _).trans ((flt hc).2.2.2)) ho hp2 q) (E1 hc)
theorem o_ret (X : Stand p l e R s m args below meth c T locs cells slots) (hx : p.tables.exec = Jvm.exec) {w : Value} {t : FieldType} {i : Instr} (hlk : meth.locks = false) (hret : meth.sig.returnType = some t) (hd : decode c.code pc = .ok (i, 1)) (hn : narrow t w = w)
    (hi : (i = .ireturn ∧ (t = .int ∨ t = .boolean ∨ t = .byte ∨ t = .char ∨ t = .short) ∧ ∃ z, w = .int z) ∨ (i = .lreturn ∧ t = .long ∧ ∃ z, w = .long z) ∨ (i = .dreturn ∧ t = .double ∧ ∃ z, w = .double z) ∨ (i = .freturn ∧ t = .float ∧ ∃ z, w = .float z) ∨ (i = .areturn ∧ t.isReference = true ∧ w.isRef = true))
    (hq : Q (some w) T.heap locs) (hk : cells ≤ K) (hs : slots ≤ N) : Ends p e below s Q K N (T.setTop (mkF m pc Ls (w :: st))) := by
  obtain ⟨fs, hr, hrun, hended, hW, hsame⟩ := X.leave (v := some w) (fun h => by rw [hret] at h; cases h) hlk
  exact ⟨_, _, retOut X hx hret hn hi hd hr, hrun, hended, _, _, rfl, hq, ⟨_, rfl⟩, hW, hsame.mono hk hs⟩
theorem o_retZ (X : Stand p l e R s m args below meth c T locs cells slots) (hx : p.tables.exec = Jvm.exec) {z : Int32} (hlk : meth.locks = false) (hret : meth.sig.returnType = some .boolean) (hd : decode c.code pc = .ok (.ireturn, 1)) (hz : z &&& 1 = z) (hq : Q (some (.int z)) T.heap locs) (hk : cells ≤ K) (hs : slots ≤ N) : Ends p e below s Q K N (T.setTop (mkF m pc Ls (.int z :: st))) :=
  o_ret X hx hlk hret hd (by show Value.int (z &&& 1) = _; rw [hz]) (Or.inl ⟨rfl, Or.inr (Or.inl rfl), _, rfl⟩) hq hk hs
theorem o_retJ (X : Stand p l e R s m args below meth c T locs cells slots) (hx : p.tables.exec = Jvm.exec) {z : Int64} (hlk : meth.locks = false) (hret : meth.sig.returnType = some .long) (hd : decode c.code pc = .ok (.lreturn, 1)) (hq : Q (some (.long z)) T.heap locs) (hk : cells ≤ K) (hs : slots ≤ N) : Ends p e below s Q K N (T.setTop (mkF m pc Ls (.long z :: st))) :=
  o_ret X hx hlk hret hd rfl (Or.inr (Or.inl ⟨rfl, rfl, _, rfl⟩)) hq hk hs
theorem o_retD (X : Stand p l e R s m args below meth c T locs cells slots) (hx : p.tables.exec = Jvm.exec) {z : UInt64} (hlk : meth.locks = false) (hret : meth.sig.returnType = some .double) (hd : decode c.code pc = .ok (.dreturn, 1)) (hq : Q (some (.double z)) T.heap locs) (hk : cells ≤ K) (hs : slots ≤ N) : Ends p e below s Q K N (T.setTop (mkF m pc Ls (.double z :: st))) :=
  o_ret X hx hlk hret hd rfl (Or.inr (Or.inr (Or.inl ⟨rfl, rfl, _, rfl⟩))) hq hk hs
theorem o_ret0 (X : Stand p l e R s m args below meth c T locs cells slots) (hx : p.tables.exec = Jvm.exec) (hlk : meth.locks = false) (hret : meth.sig.returnType = none) (hd : decode c.code pc = .ok (.return_, 1)) (hq : Q none T.heap locs) (hk : cells ≤ K) (hs : slots ≤ N) : Ends p e below s Q K N (T.setTop (mkF m pc Ls [])) := by
  obtain ⟨fs, hr, hrun, hended, hW, hsame⟩ := X.leave (v := none) (fun _ => rfl) hlk
  exact ⟨_, _, X.returnOut hx hret hd hr, hrun, hended, _, _, rfl, hq, ⟨_, rfl⟩, hW, hsame.mono hk hs⟩
theorem o_callS (X : Stand p l e R s m args below meth c T locs cells slots) (hx : p.tables.exec = Jvm.exec) (hZ : Z.Warmed39 s.vm) {own : String} {index : Nat} {y : MethodName} {bytes : ByteArray} {maxL : Nat} {rt : Option FieldType} {rm : Room} {argsL rest : List Value} {Q' : Option Value → Heap → List Loc → Prop} {ps : List FieldType} {pr : Option FieldType} (hown : s.vm.findClass own = some m.cls) (w1 : (Jvm.Cond.methodLink own index y).before a0 Z = true) (w2 : (Jvm.Cond.static y).before a0 Z = true) (w3 : (Jvm.Cond.initialized y.cls).before a0 Z = true) (w4 : (Jvm.Cond.code y bytes maxL rt).before a0 Z = true)
    (hy : y.cls ≠ "java/lang/invoke/MethodHandle" ∧ y.cls ≠ "java/lang/invoke/VarHandle") (eT : T.heap = h) (hM : Con l Z y bytes maxL rt rm argsL.toArray h Q') (hsz : Ls.size = c.maxLocals) (hpd : parseMethodDescriptor y.desc = some ⟨ps, pr⟩) (hlen : argsL.length = ps.length) (hst : st = argsL.reverse ++ rest) (hd : decode c.code pc = .ok (.invokestatic index, 3)) (hp : pc + 3 = pc')
    {W : Nat} (hf : rm.frames + 1 ≤ R.frames) (hW : (rest.map fun v => v.category).sum = W) (hl : W + (maxL + 11) + rm.locals ≤ R.locals) (hc : cells + rm.cells ≤ R.cells) (hs : slots + rm.slots ≤ R.slots)
    (E : ∀ (v : Option Value) (T' : State) (L : List Loc), Q' v T'.heap L → Stand p l e R s m args below meth c T' (locs ++ L) (cells + rm.cells) (slots + rm.slots) → Ends p e below s Q K N (T'.setTop (mkF m pc' Ls (v.toList ++ rest)))) : Ends p e below s Q K N (T.setTop (mkF m pc Ls st)) := by
  subst hp hst
  obtain ⟨v, _, ⟨T2, L2, k2, n2⟩, -, X2, ⟨Lc2, hQ2, l2, y2, z2⟩, st2⟩ := Jvm.LawKit.callS X hx (y := y) hown (mvT hZ w1) (mvT hZ w2) (mvT hZ w3) (mvT hZ w4) hy (backOf (W := W) (hM []) hZ w4 w3 hf hl) (g := mkF m pc Ls (argsL.reverse ++ rest)) rfl hsz (argsL := argsL) (rest := rest) (lenOf hpd hlen) rfl (by show 2 * 0 + _ ≤ _; omega) hd (fun _ _ => ⟨rfl, eT, hc, hs⟩)
  dsimp only [Pt.U, Pt.locs, Pt.cells, Pt.slots] at X2 l2 y2 z2 st2 hQ2
  subst l2 y2 z2
  exact Ends.go st2 (E v T2 Lc2 hQ2 X2)
theorem o_newarr (X : Stand p l e R s m args below meth c T locs cells slots) (hx : p.tables.exec = Jvm.exec) (hZ : Z.Warmed39 s.vm) {aty : ArrayType} {n : Int32} {cap : Nat} (w : (Jvm.Cond.arrayClass (newarray.typeOf aty)).before a0 Z = true) (eT : T.heap = h) (hd : decode c.code pc = .ok (.newarray aty, 2)) (hp : pc + 2 = pc') (hn : ¬ n < 0) (hcap : n.toNatClampNeg ≤ cap) (hb : cap * 8 ≤ 536870912) (hc : cells + 1 ≤ R.cells) (hl : slots + cap ≤ R.slots)
    (E : ∀ T' h' cA a, a = h.size → T'.heap = h' → Ext h h' → Arr Z h' a (newA cA (newarray.typeOf aty) n) (newarray.typeOf aty) → Stand p l e R s m args below meth c T' locs (cells + 1) (slots + cap) → Ends p e below s Q K N (T'.setTop (mkF m pc' Ls (.ref a :: st)))) : Ends p e below s Q K N (T.setTop (mkF m pc Ls (.int n :: st))) := by
  subst hp
  obtain ⟨T1, h1, cA, X1, e1, E1, A1, s1⟩ := newP X hx hZ w eT (g := mkF m pc Ls (.int n :: st)) rfl hd rfl hn hcap hb hc hl
  exact Ends.go s1 (E T1 h1 cA _ rfl e1 E1 A1 X1)
theorem o_len (X : Stand p l e R s m args below meth c T locs cells slots) (hx : p.tables.exec = Jvm.exec) (hZ : Z.Warmed39 s.vm) {a : Addr} {cl : Cell} {ty : FieldType} {n : Int32} (eT : T.heap = h) (A : Arr Z h a cl ty) (hn : cl.slots.size.toInt32 = n) (hd : decode c.code pc = .ok (.arraylength, 1)) (hp : pc + 1 = pc') (E : Ends p e below s Q K N (T.setTop (mkF m pc' Ls (.int n :: st)))) : Ends p e below s Q K N (T.setTop (mkF m pc Ls (.ref a :: st))) := by
  subst hp hn
  exact Ends.go (fun t q => X.arraylength hx (by rw [eT]; exact A.1) (State.isArrayOf_alike hZ.alike A.2.1) (g := mkF m pc Ls (.ref a :: st)) rfl rfl hd _ q) E
theorem o_daload (X : Stand p l e R s m args below meth c T locs cells slots) (hx : p.tables.exec = Jvm.exec) (hZ : Z.Warmed39 s.vm) {a : Addr} {cl : Cell} {j : Int32} {v : Value} (eT : T.heap = h) (A : Arr Z h a cl .double) (hj : ¬ (j < 0 ∨ cl.slots.size ≤ j.toNatClampNeg)) (hv : cl.slots[j.toNatClampNeg]? = some v) (hd : decode c.code pc = .ok (.daload, 1)) (hp : pc + 1 = pc') (E : Ends p e below s Q K N (T.setTop (mkF m pc' Ls (v :: st)))) : Ends p e below s Q K N (T.setTop (mkF m pc Ls (.int j :: .ref a :: st))) := by
  subst hp
  exact Ends.go (fun t q => X.daload hx (by rw [eT]; exact A.1) (State.isArrayOf_alike hZ.alike A.2.1) A.2.2 hj hv (g := mkF m pc Ls (.int j :: .ref a :: st)) rfl rfl hd _ q) E
theorem o_dastore (X : Stand p l e R s m args below meth c T locs cells slots) (hx : p.tables.exec = Jvm.exec) (hZ : Z.Warmed39 s.vm) {a : Addr} {cl : Cell} {j : Int32} {v : UInt64} (eT : T.heap = h) (A : Arr Z h a cl .double) (hj : ¬ (j < 0 ∨ cl.slots.size ≤ j.toNatClampNeg)) (hd : decode c.code pc = .ok (.dastore, 1)) (hp : pc + 1 = pc') (E : ∀ T' h', T'.heap = h' → Wr h h' a j.toNatClampNeg (.double v) → Stand p l e R s m args below meth c T' (locs ++ [⟨a, j.toNatClampNeg⟩]) cells slots → Ends p e below s Q K N (T'.setTop (mkF m pc' Ls st))) : Ends p e below s Q K N (T.setTop (mkF m pc Ls (.double v :: .int j :: .ref a :: st))) := by
  subst hp
  obtain ⟨T1, h1, X1, e1, W1, s1⟩ := stD X hx hZ eT A hj (g := mkF m pc Ls (.double v :: .int j :: .ref a :: st)) rfl rfl hd
  exact Ends.go s1 (E T1 h1 e1 W1 X1)
def Cont (cl : Cell) (n : Nat) (g : Nat → Value) : Prop := cl.slots.size = n ∧ ∀ k, k < n → cl.slots[k]? = some (g k)
theorem Cont.new (cA : ClassId) (ty : FieldType) (z : Int32) (n : Nat) (hn : z.toNatClampNeg = n) : Cont (newA cA ty z) n (fun _ => defaultValue ty) := by
  subst hn; exact ⟨sz_new _ _ _, fun k hk => by simp [newA, hk]⟩
theorem Cont.put {cl : Cell} {n : Nat} {g : Nat → Value} (C : Cont cl n g) (j : Nat) (v : Value) : Cont (cl.setSlot j v) n (fun k => if k = j then v else g k) := by
  refine ⟨(sz_set _ _ _).trans C.1, fun k hk => ?_⟩
  by_cases q : k = j
  · subst q; simp [Cell.setSlot, C.1, hk]
  · show (cl.slots.setIfInBounds j v)[k]? = _
    rw [Array.getElem?_setIfInBounds_ne (fun r => q r.symm)]
    simp only [if_neg q]; exact C.2 k hk
theorem Cont.congr {cl : Cell} {n : Nat} {g g' : Nat → Value} (C : Cont cl n g) (q : ∀ k, k < n → g k = g' k) : Cont cl n g' := ⟨C.1, fun k hk => (C.2 k hk).trans (congrArg some (q k hk))⟩
theorem Cont.inb {cl : Cell} {n : Nat} {g : Nat → Value} (C : Cont cl n g) {j : Int32} (h0 : 0 ≤ j.toInt) (h1 : j.toInt < n) : ¬ (j < 0 ∨ cl.slots.size ≤ j.toNatClampNeg) := by
  rw [C.1]; simp only [Int32.lt_iff_toInt_lt, Int32.toNatClampNeg, Int32.reduceToInt]; omega
theorem Cont.at {cl : Cell} {n : Nat} {g : Nat → Value} (C : Cont cl n g) {j : Int32} (h0 : 0 ≤ j.toInt) (h1 : j.toInt < n) : cl.slots[j.toNatClampNeg]? = some (g j.toNatClampNeg) := C.2 _ (by simp only [Int32.toNatClampNeg]; omega)
theorem own_arrK {h' : Heap} {ws : List Addr} {a : Addr} {cl : Cell} {ty : FieldType} (F : Arr Z h a cl ty) (Kp : Keep h h' ws) (q : a ∉ ws) : Arr Z h' a cl ty := ⟨Kp.2.1 _ _ F.1 q, F.2⟩
end Own
end Jvm.Pilot.@@N@@
namespace Jvm.Pilot.@@N@@
open Jvm Jvm.ClassFile Sem Op Lib Jvm.Free Jvm.Stand Jvm.LawKit Jvm.RoadKit Bundle Jvm.Pilot.@@N@@.Jvm.D
theorem pn_0 : plainName "com/example/shiftwise/shiftwise/SubPopulationSquaredDistancePinLaw" = true := by first | (simp [plainName, overriddenIn]; done) | decide +kernel
theorem pd_0 : parseMethodDescriptor "(IJJ)Z" = some ⟨[.int, .long, .long], some .boolean⟩ := by decide +kernel
theorem d1_0 : decode method_4_code 0 = .ok (.aload_n 0, 1) := by decide +kernel
theorem d1_1 : decode method_4_code 1 = .ok (.arraylength, 1) := by decide +kernel
theorem d1_2 : decode method_4_code 2 = .ok (.ifCond .le 12, 3) := by decide +kernel
theorem d1_5 : decode method_4_code 5 = .ok (.aload_n 0, 1) := by decide +kernel
theorem d1_6 : decode method_4_code 6 = .ok (.iconst 0, 1) := by decide +kernel
theorem d1_7 : decode method_4_code 7 = .ok (.lload_n 1, 1) := by decide +kernel
theorem d1_8 : decode method_4_code 8 = .ok (.iconst 0, 1) := by decide +kernel
theorem d1_9 : decode method_4_code 9 = .ok (.invokestatic 24, 3) := by decide +kernel
theorem d1_12 : decode method_4_code 12 = .ok (.l2d, 1) := by decide +kernel
theorem d1_13 : decode method_4_code 13 = .ok (.dastore, 1) := by decide +kernel
theorem d1_14 : decode method_4_code 14 = .ok (.aload_n 0, 1) := by decide +kernel
theorem d1_15 : decode method_4_code 15 = .ok (.arraylength, 1) := by decide +kernel
theorem d1_16 : decode method_4_code 16 = .ok (.iconst 1, 1) := by decide +kernel
theorem d1_17 : decode method_4_code 17 = .ok (.if_icmp .le 12, 3) := by decide +kernel
theorem d1_20 : decode method_4_code 20 = .ok (.aload_n 0, 1) := by decide +kernel
theorem d1_21 : decode method_4_code 21 = .ok (.iconst 1, 1) := by decide +kernel
theorem d1_22 : decode method_4_code 22 = .ok (.lload_n 1, 1) := by decide +kernel
theorem d1_23 : decode method_4_code 23 = .ok (.iconst 1, 1) := by decide +kernel
theorem d1_24 : decode method_4_code 24 = .ok (.invokestatic 24, 3) := by decide +kernel
theorem d1_27 : decode method_4_code 27 = .ok (.l2d, 1) := by decide +kernel
theorem d1_28 : decode method_4_code 28 = .ok (.dastore, 1) := by decide +kernel
theorem d1_29 : decode method_4_code 29 = .ok (.aload_n 0, 1) := by decide +kernel
theorem d1_30 : decode method_4_code 30 = .ok (.arraylength, 1) := by decide +kernel
theorem d1_31 : decode method_4_code 31 = .ok (.iconst 2, 1) := by decide +kernel
theorem d1_32 : decode method_4_code 32 = .ok (.if_icmp .le 12, 3) := by decide +kernel
theorem d1_35 : decode method_4_code 35 = .ok (.aload_n 0, 1) := by decide +kernel
theorem d1_36 : decode method_4_code 36 = .ok (.iconst 2, 1) := by decide +kernel
theorem d1_37 : decode method_4_code 37 = .ok (.lload_n 1, 1) := by decide +kernel
theorem d1_38 : decode method_4_code 38 = .ok (.iconst 2, 1) := by decide +kernel
theorem d1_39 : decode method_4_code 39 = .ok (.invokestatic 24, 3) := by decide +kernel
theorem d1_42 : decode method_4_code 42 = .ok (.l2d, 1) := by decide +kernel
theorem d1_43 : decode method_4_code 43 = .ok (.dastore, 1) := by decide +kernel
theorem d1_44 : decode method_4_code 44 = .ok (.aload_n 0, 1) := by decide +kernel
theorem d1_45 : decode method_4_code 45 = .ok (.arraylength, 1) := by decide +kernel
theorem d1_46 : decode method_4_code 46 = .ok (.iconst 3, 1) := by decide +kernel
theorem d1_47 : decode method_4_code 47 = .ok (.if_icmp .le 12, 3) := by decide +kernel
theorem d1_50 : decode method_4_code 50 = .ok (.aload_n 0, 1) := by decide +kernel
theorem d1_51 : decode method_4_code 51 = .ok (.iconst 3, 1) := by decide +kernel
theorem d1_52 : decode method_4_code 52 = .ok (.lload_n 1, 1) := by decide +kernel
theorem d1_53 : decode method_4_code 53 = .ok (.iconst 3, 1) := by decide +kernel
theorem d1_54 : decode method_4_code 54 = .ok (.invokestatic 24, 3) := by decide +kernel
theorem d1_57 : decode method_4_code 57 = .ok (.l2d, 1) := by decide +kernel
theorem d1_58 : decode method_4_code 58 = .ok (.dastore, 1) := by decide +kernel
theorem d1_59 : decode method_4_code 59 = .ok (.return_, 1) := by decide +kernel
theorem pn_1 : plainName "com/example/shiftwise/shiftwise/SubPopulationSquaredDistancePinLaw" = true := by first | (simp [plainName, overriddenIn]; done) | decide +kernel
theorem pd_1 : parseMethodDescriptor "([DJ)V" = some ⟨[(.array .double), .long], none⟩ := by decide +kernel
theorem d2_0 : decode method_5_code 0 = .ok (.iload 4, 2) := by decide +kernel
theorem d2_2 : decode method_5_code 2 = .ok (.iload 5, 2) := by decide +kernel
theorem d2_4 : decode method_5_code 4 = .ok (.if_icmp .lt 5, 3) := by decide +kernel
theorem d2_7 : decode method_5_code 7 = .ok (.lconst 0, 1) := by decide +kernel
theorem d2_8 : decode method_5_code 8 = .ok (.lreturn, 1) := by decide +kernel
theorem d2_9 : decode method_5_code 9 = .ok (.lload_n 0, 1) := by decide +kernel
theorem d2_10 : decode method_5_code 10 = .ok (.iload 4, 2) := by decide +kernel
theorem d2_12 : decode method_5_code 12 = .ok (.invokestatic 24, 3) := by decide +kernel
theorem d2_15 : decode method_5_code 15 = .ok (.lload_n 2, 1) := by decide +kernel
theorem d2_16 : decode method_5_code 16 = .ok (.iload 4, 2) := by decide +kernel
theorem d2_18 : decode method_5_code 18 = .ok (.invokestatic 24, 3) := by decide +kernel
theorem d2_21 : decode method_5_code 21 = .ok (.lsub, 1) := by decide +kernel
theorem d2_22 : decode method_5_code 22 = .ok (.lstore 6, 2) := by decide +kernel
theorem d2_24 : decode method_5_code 24 = .ok (.lload 6, 2) := by decide +kernel
theorem d2_26 : decode method_5_code 26 = .ok (.lload 6, 2) := by decide +kernel
theorem d2_28 : decode method_5_code 28 = .ok (.lmul, 1) := by decide +kernel
theorem d2_29 : decode method_5_code 29 = .ok (.lreturn, 1) := by decide +kernel
theorem pn_2 : plainName "com/example/shiftwise/shiftwise/SubPopulationSquaredDistancePinLaw" = true := by first | (simp [plainName, overriddenIn]; done) | decide +kernel
theorem pd_2 : parseMethodDescriptor "(JJII)J" = some ⟨[.long, .long, .int, .int], some .long⟩ := by decide +kernel
theorem d3_0 : decode prog_41_method_25_code 0 = .ok (.dconst 0, 1) := by decide +kernel
theorem d3_1 : decode prog_41_method_25_code 1 = .ok (.dstore_n 2, 1) := by decide +kernel
theorem d3_2 : decode prog_41_method_25_code 2 = .ok (.iconst 0, 1) := by decide +kernel
theorem d3_3 : decode prog_41_method_25_code 3 = .ok (.istore 4, 2) := by decide +kernel
theorem d3_5 : decode prog_41_method_25_code 5 = .ok (.iload 4, 2) := by decide +kernel
theorem d3_7 : decode prog_41_method_25_code 7 = .ok (.aload_n 0, 1) := by decide +kernel
theorem d3_8 : decode prog_41_method_25_code 8 = .ok (.arraylength, 1) := by decide +kernel
theorem d3_9 : decode prog_41_method_25_code 9 = .ok (.if_icmp .ge 28, 3) := by decide +kernel
theorem d3_12 : decode prog_41_method_25_code 12 = .ok (.aload_n 0, 1) := by decide +kernel
theorem d3_13 : decode prog_41_method_25_code 13 = .ok (.iload 4, 2) := by decide +kernel
theorem d3_15 : decode prog_41_method_25_code 15 = .ok (.daload, 1) := by decide +kernel
theorem d3_16 : decode prog_41_method_25_code 16 = .ok (.aload_n 1, 1) := by decide +kernel
theorem d3_17 : decode prog_41_method_25_code 17 = .ok (.iload 4, 2) := by decide +kernel
theorem d3_19 : decode prog_41_method_25_code 19 = .ok (.daload, 1) := by decide +kernel
theorem d3_20 : decode prog_41_method_25_code 20 = .ok (.dsub, 1) := by decide +kernel
theorem d3_21 : decode prog_41_method_25_code 21 = .ok (.dstore 5, 2) := by decide +kernel
theorem d3_23 : decode prog_41_method_25_code 23 = .ok (.dload_n 2, 1) := by decide +kernel
theorem d3_24 : decode prog_41_method_25_code 24 = .ok (.dload 5, 2) := by decide +kernel
theorem d3_26 : decode prog_41_method_25_code 26 = .ok (.dload 5, 2) := by decide +kernel
theorem d3_28 : decode prog_41_method_25_code 28 = .ok (.dmul, 1) := by decide +kernel
theorem d3_29 : decode prog_41_method_25_code 29 = .ok (.dadd, 1) := by decide +kernel
theorem d3_30 : decode prog_41_method_25_code 30 = .ok (.dstore_n 2, 1) := by decide +kernel
theorem d3_31 : decode prog_41_method_25_code 31 = .ok (.iinc 4 1, 3) := by decide +kernel
theorem d3_34 : decode prog_41_method_25_code 34 = .ok (.goto (-29), 3) := by decide +kernel
theorem d3_37 : decode prog_41_method_25_code 37 = .ok (.dload_n 2, 1) := by decide +kernel
theorem d3_38 : decode prog_41_method_25_code 38 = .ok (.dreturn, 1) := by decide +kernel
theorem pn_3 : plainName "com/example/shiftwise/shiftwise/SubPopulation" = true := by first | (simp [plainName, overriddenIn]; done) | decide +kernel
theorem pd_3 : parseMethodDescriptor "([D[D)D" = some ⟨[(.array .double), (.array .double)], some .double⟩ := by decide +kernel
theorem d4_0 : decode method_3_code 0 = .ok (.lload_n 0, 1) := by decide +kernel
theorem d4_1 : decode method_3_code 1 = .ok (.bipush 16, 2) := by decide +kernel
theorem d4_3 : decode method_3_code 3 = .ok (.iload_n 2, 1) := by decide +kernel
theorem d4_4 : decode method_3_code 4 = .ok (.imul, 1) := by decide +kernel
theorem d4_5 : decode method_3_code 5 = .ok (.lshr, 1) := by decide +kernel
theorem d4_6 : decode method_3_code 6 = .ok (.l2i, 1) := by decide +kernel
theorem d4_7 : decode method_3_code 7 = .ok (.i2s, 1) := by decide +kernel
theorem d4_8 : decode method_3_code 8 = .ok (.i2l, 1) := by decide +kernel
theorem d4_9 : decode method_3_code 9 = .ok (.lreturn, 1) := by decide +kernel
theorem pn_4 : plainName "com/example/shiftwise/shiftwise/SubPopulationSquaredDistancePinLaw" = true := by first | (simp [plainName, overriddenIn]; done) | decide +kernel
theorem pd_4 : parseMethodDescriptor "(JI)J" = some ⟨[.long, .int], some .long⟩ := by decide +kernel

theorem own_mask31 (x : Int32) : 0 ≤ (x &&& 2147483647).toInt := by
  have := c_mask x 2147483647 31 (by decide) (by decide)
  omega
theorem own_rem (x k : Int32) (n : Int) (hn : 0 < n) (hk : k.toInt = n) (hx : 0 ≤ x.toInt) : 0 ≤ (x % k).toInt ∧ (x % k).toInt < n := by
  have := (c_irem x k n hk).1 hx
  rw [this]
  exact ⟨Int.emod_nonneg _ (by omega), Int.emod_lt_of_pos _ hn⟩
theorem own_is {v : Int32} {k : Int} (h : v.toInt = k) : v = Int32.ofInt k := by rw [← h, Int32.ofInt_toInt]
theorem own_s5 (v : Int32) (h0 : 0 ≤ v.toInt) (h1 : v.toInt < 5) : v = (0 : Int32) ∨ v = (1 : Int32) ∨ v = (2 : Int32) ∨ v = (3 : Int32) ∨ v = (4 : Int32) := by
  have h : v.toInt = 0 ∨ v.toInt = 1 ∨ v.toInt = 2 ∨ v.toInt = 3 ∨ v.toInt = 4 := by omega
  rcases h with h | h | h | h | h
  · exact Or.inl (own_is h)
  · exact Or.inr (Or.inl (own_is h))
  · exact Or.inr (Or.inr (Or.inl (own_is h)))
  · exact Or.inr (Or.inr (Or.inr (Or.inl (own_is h))))
  · exact Or.inr (Or.inr (Or.inr (Or.inr (own_is h))))
def fco (p1 : Int64) (p2 : Int32) : Int64 := (((p1 >>> (((16 : Int32) * p2) &&& 0x3f).toInt64).toInt32).toInt16.toInt32).toInt64
abbrev Q4 (Z : State) (p1 : Int64) (p2 : Int32) (h0 : Heap) (v : Option Value) (h : Heap) (L : List Loc) : Prop := v = some (.long (fco p1 p2)) ∧ L = [] ∧ h = h0
set_option maxRecDepth 65536 in
set_option maxHeartbeats 40000000 in
theorem rm4 (l : Launch) (Z : State) (a0 : Array Value) (hw : ∀ d ∈ tables_1, d.before a0 Z = true) (p1 : Int64) (p2 : Int32) (h0 : Heap)  :
    Con l Z (⟨"com/example/shiftwise/shiftwise/SubPopulationSquaredDistancePinLaw", "coord", "(JI)J"⟩ : MethodName) method_3_code 3 (some .long) ({ frames := 0, cells := 0, slots := 0, locals := 0 } : Room) #[(.long p1), (.int p2)] h0 (Q4 Z p1 p2 h0) := by
  refine Con.of pn_4 (fun p e s m below meth c T0 X0 hx hby hml hret hlk hown hnm hZ e0 => ?_)
  replace hown : s.vm.findClass "com/example/shiftwise/shiftwise/SubPopulationSquaredDistancePinLaw" = some m.cls := hown
  have ef : entryFrame m #[(.long p1), (.int p2)] 3 = mkF m 0 #[.val (.long p1), .second, .val (.int p2)] [] := by first | (simp [entryFrame, mkF, argsToLocals, Value.category]; done) | rfl
  rw [ef]
  refine o_lloadN (pc' := 1) X0 hx (hb hby d4_0) rfl rfl ?_
  refine o_bipush (v := (16 : Int32)) (pc' := 3) X0 hx (hb hby d4_1) (by decide) rfl ?_
  refine o_iloadN (pc' := 4) X0 hx (hb hby d4_3) rfl rfl ?_
  refine o_imul (pc' := 5) X0 hx (hb hby d4_4) rfl ?_
  refine o_lshr (pc' := 6) X0 hx (hb hby d4_5) rfl ?_
  refine o_l2i (pc' := 7) X0 hx (hb hby d4_6) rfl ?_
  refine o_i2s (pc' := 8) X0 hx (hb hby d4_7) rfl ?_
  refine o_i2l (pc' := 9) X0 hx (hb hby d4_8) rfl ?_
  exact o_retJ X0 hx hlk hret (hb hby d4_9) ⟨rfl, rfl, e0⟩ (by decide) (by decide)

def gco (p1 : Int64) : Nat → Int64 := fun k => if k = 0 then fco p1 (0 : Int32) else if k = 1 then fco p1 (1 : Int32) else if k = 2 then fco p1 (2 : Int32) else fco p1 (3 : Int32)
def dq (p q : Int64) : Int64 := (p - q) * (p - q)
def fS (ga gb : Nat → Int64) : Nat → Int64
  | 0 => 0
  | k + 1 => fS ga gb k + dq (ga k) (gb k)
def Bd (g : Nat → Int64) : Prop := ∀ k, -32768 ≤ (g k).toInt ∧ (g k).toInt ≤ 32767
theorem own_co (x : Int64) (i : Int32) : -32768 ≤ (fco x i).toInt ∧ (fco x i).toInt ≤ 32767 := by
  unfold fco
  rw [c_i2l]
  have := c_i2s ((x >>> (((16 : Int32) * i) &&& 0x3f).toInt64).toInt32)
  omega
theorem own_gco (x : Int64) : Bd (gco x) := by
  intro k
  unfold gco
  by_cases c0 : k = 0
  · rw [if_pos c0]; exact own_co _ _
  · rw [if_neg c0]
    by_cases c1 : k = 1
    · rw [if_pos c1]; exact own_co _ _
    · rw [if_neg c1]
      by_cases c2 : k = 2
      · rw [if_pos c2]; exact own_co _ _
      · rw [if_neg c2]; exact own_co _ _
theorem own_b {g : Nat → Int64} (h : Bd g) (k : Nat) : B53 (g k) := ⟨by have := h k; omega, by have := h k; omega⟩
theorem own_dif {ga gb : Nat → Int64} (ha : Bd ga) (hb : Bd gb) (k : Nat) : -65535 ≤ (ga k - gb k).toInt ∧ (ga k - gb k).toInt ≤ 65535 := by
  have h1 := ha k; have h2 := hb k; have h3 := c_lsub (ga k) (gb k); have h4 := rng64 (ga k - gb k)
  omega
theorem own_mul {ga gb : Nat → Int64} (ha : Bd ga) (hb : Bd gb) (k : Nat) : FP.dmul (FP.l2d (ga k - gb k)) (FP.l2d (ga k - gb k)) = FP.l2d (dq (ga k) (gb k)) := by
  have h := own_dif ha hb k
  exact dmul_k (A := 65535) (B := 65535) h.1 h.2 h.1 h.2 (by decide) (by decide) (by decide) (fun q => by rw [q.1] at q; exact absurd q.2 (by decide)) (fun q => by rw [q.1] at q; exact absurd q.2 (by decide))
theorem own_dq {ga gb : Nat → Int64} (ha : Bd ga) (hb : Bd gb) (k : Nat) : -17179869184 ≤ (dq (ga k) (gb k)).toInt ∧ (dq (ga k) (gb k)).toInt ≤ 17179869184 := by
  have h := own_dif ha hb k
  have m1 := mc h.1 h.2 h.1 h.2
  have h3 := c_lmul (ga k - gb k) (ga k - gb k)
  have h4 := rng64 ((ga k - gb k) * (ga k - gb k))
  show -17179869184 ≤ ((ga k - gb k) * (ga k - gb k)).toInt ∧ ((ga k - gb k) * (ga k - gb k)).toInt ≤ 17179869184
  generalize (ga k - gb k).toInt * (ga k - gb k).toInt = P at *
  omega
theorem own_fS {ga gb : Nat → Int64} (ha : Bd ga) (hb : Bd gb) : ∀ k : Nat, k ≤ 4 → -17179869184 * (k : Int) ≤ (fS ga gb k).toInt ∧ (fS ga gb k).toInt ≤ 17179869184 * (k : Int)
  | 0, _ => by show -17179869184 * ((0 : Nat) : Int) ≤ (0 : Int64).toInt ∧ (0 : Int64).toInt ≤ _; decide
  | k + 1, hk => by
    have h1 := own_fS ha hb k (by omega)
    have h2 := own_dq ha hb k
    have h3 := c_ladd (fS ga gb k) (dq (ga k) (gb k))
    have h4 := rng64 (fS ga gb k + dq (ga k) (gb k))
    show -17179869184 * ((k + 1 : Nat) : Int) ≤ (fS ga gb k + dq (ga k) (gb k)).toInt ∧ (fS ga gb k + dq (ga k) (gb k)).toInt ≤ 17179869184 * ((k + 1 : Nat) : Int)
    omega
theorem own_add {ga gb : Nat → Int64} (ha : Bd ga) (hb : Bd gb) (k : Nat) (hk : k < 4) : FP.dadd (FP.l2d (fS ga gb k)) (FP.l2d (dq (ga k) (gb k))) = FP.l2d (fS ga gb (k + 1)) := by
  have h1 := own_fS ha hb k (by omega)
  have h2 := own_dq ha hb k
  exact dadd_w ⟨by omega, by omega⟩ ⟨by omega, by omega⟩
theorem own_d0 : FP.dconst0 = FP.l2d 0 := by decide +kernel
abbrev QF0 (Z : State) (b : Addr) (n0 : Nat) (p1 : Int64) (cc : Cell) (h0 : Heap) (v : Option Value) (h : Heap) (L : List Loc) : Prop := v = none ∧ Fr n0 L ∧ Keep h0 h [b] ∧ ∃ cc', Arr Z h b cc' .double ∧ Cont cc' 0 (fun k => .double (FP.l2d (gco p1 k)))
set_option maxRecDepth 65536 in
set_option maxHeartbeats 40000000 in
theorem rmF0 (l : Launch) (Z : State) (a0 : Array Value) (hw : ∀ d ∈ tables_1, d.before a0 Z = true) (b : Addr) (n0 : Nat) (p1 : Int64) (cc : Cell) (h0 : Heap) (q0 : n0 ≤ b) (A : Arr Z h0 b cc .double) (C : Cont cc 0 (fun _ => defaultValue .double)) :
    Con l Z (⟨"com/example/shiftwise/shiftwise/SubPopulationSquaredDistancePinLaw", "fill", "([DJ)V"⟩ : MethodName) method_4_code 3 none ({ frames := 1, cells := 0, slots := 0, locals := 16 } : Room) #[(.ref b), (.long p1)] h0 (QF0 Z b n0 p1 cc h0) := by
  refine Con.of pn_1 (fun p e s m below meth c T0 X0 hx hby hml hret hlk hown hnm hZ e0 => ?_)
  replace hown : s.vm.findClass "com/example/shiftwise/shiftwise/SubPopulationSquaredDistancePinLaw" = some m.cls := hown
  have ef : entryFrame m #[(.ref b), (.long p1)] 3 = mkF m 0 #[.val (.ref b), .val (.long p1), .second] [] := by first | (simp [entryFrame, mkF, argsToLocals, Value.category]; done) | rfl
  rw [ef]
  have N := Fr.nil n0
  have K := Keep.refl h0 [b]
  refine o_aloadN (pc' := 1) X0 hx (hb hby d1_0) rfl rfl rfl ?_
  refine o_len (pc' := 2) (n := (0 : Int32)) X0 hx hZ e0 A (by rw [C.1]; decide) (hb hby d1_1) rfl ?_
  refine o_if_le (p1 := 5) (p2 := 14) X0 hx (hb hby d1_2) rfl (by decide) (by decide) (fun hc2 => ?_) (fun hc2 => absurd hc2 (by decide))
  refine o_aloadN (pc' := 15) X0 hx (hb hby d1_14) rfl rfl rfl ?_
  refine o_len (pc' := 16) (n := (0 : Int32)) X0 hx hZ e0 A (by rw [C.1]; decide) (hb hby d1_15) rfl ?_
  refine o_iconst (v := (1 : Int32)) (pc' := 17) X0 hx (hb hby d1_16) (by decide) rfl ?_
  refine o_icmp_le (p1 := 20) (p2 := 29) X0 hx (hb hby d1_17) rfl (by decide) (by decide) (fun hc17 => ?_) (fun hc17 => absurd hc17 (by decide))
  refine o_aloadN (pc' := 30) X0 hx (hb hby d1_29) rfl rfl rfl ?_
  refine o_len (pc' := 31) (n := (0 : Int32)) X0 hx hZ e0 A (by rw [C.1]; decide) (hb hby d1_30) rfl ?_
  refine o_iconst (v := (2 : Int32)) (pc' := 32) X0 hx (hb hby d1_31) (by decide) rfl ?_
  refine o_icmp_le (p1 := 35) (p2 := 44) X0 hx (hb hby d1_32) rfl (by decide) (by decide) (fun hc32 => ?_) (fun hc32 => absurd hc32 (by decide))
  refine o_aloadN (pc' := 45) X0 hx (hb hby d1_44) rfl rfl rfl ?_
  refine o_len (pc' := 46) (n := (0 : Int32)) X0 hx hZ e0 A (by rw [C.1]; decide) (hb hby d1_45) rfl ?_
  refine o_iconst (v := (3 : Int32)) (pc' := 47) X0 hx (hb hby d1_46) (by decide) rfl ?_
  refine o_icmp_le (p1 := 50) (p2 := 59) X0 hx (hb hby d1_47) rfl (by decide) (by decide) (fun hc47 => ?_) (fun hc47 => absurd hc47 (by decide))
  have Cf : Cont _ 0 (fun k => .double (FP.l2d (gco p1 k))) := Cont.congr C (fun k hk => absurd hk (Nat.not_lt_zero _))
  exact o_ret0 X0 hx hlk hret (hb hby d1_59) ⟨rfl, by first | exact N | simpa using N, by rw [e0]; exact K, _, by rw [e0]; exact A, Cf⟩ (by decide) (by decide)
abbrev QF1 (Z : State) (b : Addr) (n0 : Nat) (p1 : Int64) (cc : Cell) (h0 : Heap) (v : Option Value) (h : Heap) (L : List Loc) : Prop := v = none ∧ Fr n0 L ∧ Keep h0 h [b] ∧ ∃ cc', Arr Z h b cc' .double ∧ Cont cc' 1 (fun k => .double (FP.l2d (gco p1 k)))
set_option maxRecDepth 65536 in
set_option maxHeartbeats 40000000 in
theorem rmF1 (l : Launch) (Z : State) (a0 : Array Value) (hw : ∀ d ∈ tables_1, d.before a0 Z = true) (b : Addr) (n0 : Nat) (p1 : Int64) (cc : Cell) (h0 : Heap) (q0 : n0 ≤ b) (A : Arr Z h0 b cc .double) (C : Cont cc 1 (fun _ => defaultValue .double)) :
    Con l Z (⟨"com/example/shiftwise/shiftwise/SubPopulationSquaredDistancePinLaw", "fill", "([DJ)V"⟩ : MethodName) method_4_code 3 none ({ frames := 1, cells := 0, slots := 0, locals := 16 } : Room) #[(.ref b), (.long p1)] h0 (QF1 Z b n0 p1 cc h0) := by
  refine Con.of pn_1 (fun p e s m below meth c T0 X0 hx hby hml hret hlk hown hnm hZ e0 => ?_)
  replace hown : s.vm.findClass "com/example/shiftwise/shiftwise/SubPopulationSquaredDistancePinLaw" = some m.cls := hown
  have ef : entryFrame m #[(.ref b), (.long p1)] 3 = mkF m 0 #[.val (.ref b), .val (.long p1), .second] [] := by first | (simp [entryFrame, mkF, argsToLocals, Value.category]; done) | rfl
  rw [ef]
  have N := Fr.nil n0
  have K := Keep.refl h0 [b]
  refine o_aloadN (pc' := 1) X0 hx (hb hby d1_0) rfl rfl rfl ?_
  refine o_len (pc' := 2) (n := (1 : Int32)) X0 hx hZ e0 A (by rw [C.1]; decide) (hb hby d1_1) rfl ?_
  refine o_if_le (p1 := 5) (p2 := 14) X0 hx (hb hby d1_2) rfl (by decide) (by decide) (fun hc2 => absurd (by decide) hc2) (fun hc2 => ?_)
  refine o_aloadN (pc' := 6) X0 hx (hb hby d1_5) rfl rfl rfl ?_
  refine o_iconst (v := (0 : Int32)) (pc' := 7) X0 hx (hb hby d1_6) (by decide) rfl ?_
  refine o_lloadN (pc' := 8) X0 hx (hb hby d1_7) rfl rfl ?_
  refine o_iconst (v := (0 : Int32)) (pc' := 9) X0 hx (hb hby d1_8) (by decide) rfl ?_
  refine o_callS (W := 2) (pc' := 12) (rm := ({ frames := 0, cells := 0, slots := 0, locals := 0 } : Room)) (argsL := [(.long p1), (.int (0 : Int32))]) (rest := [(.int (0 : Int32)), (.ref b)]) X0 hx hZ hown (hw _ (List.mem_of_getElem? (i := 13) rfl)) (hw _ (List.mem_of_getElem? (i := 14) rfl)) (hw _ (List.mem_of_getElem? (i := 4) rfl)) (hw _ (List.mem_of_getElem? (i := 15) rfl)) (by decide) e0 (rm4 l Z a0 hw p1 (0 : Int32) h0) (by rw [hml]; rfl) pd_4 rfl rfl (hb hby d1_9) rfl (by decide) rfl (by decide) (by decide) (by decide) ?_
  rintro _ T9 L9 ⟨rfl, rfl, e9⟩ X9
  show Ends p e below s (QF1 Z b n0 p1 cc h0) ({ frames := 1, cells := 0, slots := 0, locals := 16 } : Room).cells ({ frames := 1, cells := 0, slots := 0, locals := 16 } : Room).slots (T9.setTop (mkF m 12 #[.val (.ref b), .val (.long p1), .second] [(.long (fco p1 (0 : Int32))), (.int (0 : Int32)), (.ref b)]))
  refine o_l2d (pc' := 13) (v := FP.l2d (fco p1 (0 : Int32))) X9 hx (hb hby d1_12) rfl rfl ?_
  refine o_dastore (pc' := 14) X9 hx hZ e9 A (C.inb (by decide) (by decide)) (hb hby d1_13) rfl ?_
  intro T13 h13 e13 W13 X13
  have A13 := Arr.same W13 A
  have C13 := C.put (Int32.toNatClampNeg (0 : Int32)) (.double (FP.l2d (fco p1 (0 : Int32))))
  replace N := Fr.snoc X13 (N.app (Fr.nil _)) q0
  replace K := K.wr W13 (Or.inl (List.mem_cons_self ..))
  refine o_aloadN (pc' := 15) X13 hx (hb hby d1_14) rfl rfl rfl ?_
  refine o_len (pc' := 16) (n := (1 : Int32)) X13 hx hZ e13 A13 (by rw [C13.1]; decide) (hb hby d1_15) rfl ?_
  refine o_iconst (v := (1 : Int32)) (pc' := 17) X13 hx (hb hby d1_16) (by decide) rfl ?_
  refine o_icmp_le (p1 := 20) (p2 := 29) X13 hx (hb hby d1_17) rfl (by decide) (by decide) (fun hc17 => ?_) (fun hc17 => absurd hc17 (by decide))
  refine o_aloadN (pc' := 30) X13 hx (hb hby d1_29) rfl rfl rfl ?_
  refine o_len (pc' := 31) (n := (1 : Int32)) X13 hx hZ e13 A13 (by rw [C13.1]; decide) (hb hby d1_30) rfl ?_
  refine o_iconst (v := (2 : Int32)) (pc' := 32) X13 hx (hb hby d1_31) (by decide) rfl ?_
  refine o_icmp_le (p1 := 35) (p2 := 44) X13 hx (hb hby d1_32) rfl (by decide) (by decide) (fun hc32 => ?_) (fun hc32 => absurd hc32 (by decide))
  refine o_aloadN (pc' := 45) X13 hx (hb hby d1_44) rfl rfl rfl ?_
  refine o_len (pc' := 46) (n := (1 : Int32)) X13 hx hZ e13 A13 (by rw [C13.1]; decide) (hb hby d1_45) rfl ?_
  refine o_iconst (v := (3 : Int32)) (pc' := 47) X13 hx (hb hby d1_46) (by decide) rfl ?_
  refine o_icmp_le (p1 := 50) (p2 := 59) X13 hx (hb hby d1_47) rfl (by decide) (by decide) (fun hc47 => ?_) (fun hc47 => absurd hc47 (by decide))
  have Cf : Cont _ 1 (fun k => .double (FP.l2d (gco p1 k))) := Cont.congr C13 (fun k hk => by
    have hh : k = 0 := by omega
    rcases hh with rfl <;> rfl)
  exact o_ret0 X13 hx hlk hret (hb hby d1_59) ⟨rfl, by first | exact N | simpa using N, by rw [e13]; exact K, _, by rw [e13]; exact A13, Cf⟩ (by decide) (by decide)
abbrev QF2 (Z : State) (b : Addr) (n0 : Nat) (p1 : Int64) (cc : Cell) (h0 : Heap) (v : Option Value) (h : Heap) (L : List Loc) : Prop := v = none ∧ Fr n0 L ∧ Keep h0 h [b] ∧ ∃ cc', Arr Z h b cc' .double ∧ Cont cc' 2 (fun k => .double (FP.l2d (gco p1 k)))
set_option maxRecDepth 65536 in
set_option maxHeartbeats 40000000 in
theorem rmF2 (l : Launch) (Z : State) (a0 : Array Value) (hw : ∀ d ∈ tables_1, d.before a0 Z = true) (b : Addr) (n0 : Nat) (p1 : Int64) (cc : Cell) (h0 : Heap) (q0 : n0 ≤ b) (A : Arr Z h0 b cc .double) (C : Cont cc 2 (fun _ => defaultValue .double)) :
    Con l Z (⟨"com/example/shiftwise/shiftwise/SubPopulationSquaredDistancePinLaw", "fill", "([DJ)V"⟩ : MethodName) method_4_code 3 none ({ frames := 1, cells := 0, slots := 0, locals := 16 } : Room) #[(.ref b), (.long p1)] h0 (QF2 Z b n0 p1 cc h0) := by
  refine Con.of pn_1 (fun p e s m below meth c T0 X0 hx hby hml hret hlk hown hnm hZ e0 => ?_)
  replace hown : s.vm.findClass "com/example/shiftwise/shiftwise/SubPopulationSquaredDistancePinLaw" = some m.cls := hown
  have ef : entryFrame m #[(.ref b), (.long p1)] 3 = mkF m 0 #[.val (.ref b), .val (.long p1), .second] [] := by first | (simp [entryFrame, mkF, argsToLocals, Value.category]; done) | rfl
  rw [ef]
  have N := Fr.nil n0
  have K := Keep.refl h0 [b]
  refine o_aloadN (pc' := 1) X0 hx (hb hby d1_0) rfl rfl rfl ?_
  refine o_len (pc' := 2) (n := (2 : Int32)) X0 hx hZ e0 A (by rw [C.1]; decide) (hb hby d1_1) rfl ?_
  refine o_if_le (p1 := 5) (p2 := 14) X0 hx (hb hby d1_2) rfl (by decide) (by decide) (fun hc2 => absurd (by decide) hc2) (fun hc2 => ?_)
  refine o_aloadN (pc' := 6) X0 hx (hb hby d1_5) rfl rfl rfl ?_
  refine o_iconst (v := (0 : Int32)) (pc' := 7) X0 hx (hb hby d1_6) (by decide) rfl ?_
  refine o_lloadN (pc' := 8) X0 hx (hb hby d1_7) rfl rfl ?_
  refine o_iconst (v := (0 : Int32)) (pc' := 9) X0 hx (hb hby d1_8) (by decide) rfl ?_
  refine o_callS (W := 2) (pc' := 12) (rm := ({ frames := 0, cells := 0, slots := 0, locals := 0 } : Room)) (argsL := [(.long p1), (.int (0 : Int32))]) (rest := [(.int (0 : Int32)), (.ref b)]) X0 hx hZ hown (hw _ (List.mem_of_getElem? (i := 13) rfl)) (hw _ (List.mem_of_getElem? (i := 14) rfl)) (hw _ (List.mem_of_getElem? (i := 4) rfl)) (hw _ (List.mem_of_getElem? (i := 15) rfl)) (by decide) e0 (rm4 l Z a0 hw p1 (0 : Int32) h0) (by rw [hml]; rfl) pd_4 rfl rfl (hb hby d1_9) rfl (by decide) rfl (by decide) (by decide) (by decide) ?_
  rintro _ T9 L9 ⟨rfl, rfl, e9⟩ X9
  show Ends p e below s (QF2 Z b n0 p1 cc h0) ({ frames := 1, cells := 0, slots := 0, locals := 16 } : Room).cells ({ frames := 1, cells := 0, slots := 0, locals := 16 } : Room).slots (T9.setTop (mkF m 12 #[.val (.ref b), .val (.long p1), .second] [(.long (fco p1 (0 : Int32))), (.int (0 : Int32)), (.ref b)]))
  refine o_l2d (pc' := 13) (v := FP.l2d (fco p1 (0 : Int32))) X9 hx (hb hby d1_12) rfl rfl ?_
  refine o_dastore (pc' := 14) X9 hx hZ e9 A (C.inb (by decide) (by decide)) (hb hby d1_13) rfl ?_
  intro T13 h13 e13 W13 X13
  have A13 := Arr.same W13 A
  have C13 := C.put (Int32.toNatClampNeg (0 : Int32)) (.double (FP.l2d (fco p1 (0 : Int32))))
  replace N := Fr.snoc X13 (N.app (Fr.nil _)) q0
  replace K := K.wr W13 (Or.inl (List.mem_cons_self ..))
  refine o_aloadN (pc' := 15) X13 hx (hb hby d1_14) rfl rfl rfl ?_
  refine o_len (pc' := 16) (n := (2 : Int32)) X13 hx hZ e13 A13 (by rw [C13.1]; decide) (hb hby d1_15) rfl ?_
  refine o_iconst (v := (1 : Int32)) (pc' := 17) X13 hx (hb hby d1_16) (by decide) rfl ?_
  refine o_icmp_le (p1 := 20) (p2 := 29) X13 hx (hb hby d1_17) rfl (by decide) (by decide) (fun hc17 => absurd (by decide) hc17) (fun hc17 => ?_)
  refine o_aloadN (pc' := 21) X13 hx (hb hby d1_20) rfl rfl rfl ?_
  refine o_iconst (v := (1 : Int32)) (pc' := 22) X13 hx (hb hby d1_21) (by decide) rfl ?_
  refine o_lloadN (pc' := 23) X13 hx (hb hby d1_22) rfl rfl ?_
  refine o_iconst (v := (1 : Int32)) (pc' := 24) X13 hx (hb hby d1_23) (by decide) rfl ?_
  refine o_callS (W := 2) (pc' := 27) (rm := ({ frames := 0, cells := 0, slots := 0, locals := 0 } : Room)) (argsL := [(.long p1), (.int (1 : Int32))]) (rest := [(.int (1 : Int32)), (.ref b)]) X13 hx hZ hown (hw _ (List.mem_of_getElem? (i := 13) rfl)) (hw _ (List.mem_of_getElem? (i := 14) rfl)) (hw _ (List.mem_of_getElem? (i := 4) rfl)) (hw _ (List.mem_of_getElem? (i := 15) rfl)) (by decide) e13 (rm4 l Z a0 hw p1 (1 : Int32) h13) (by rw [hml]; rfl) pd_4 rfl rfl (hb hby d1_24) rfl (by decide) rfl (by decide) (by decide) (by decide) ?_
  rintro _ T24 L24 ⟨rfl, rfl, e24⟩ X24
  show Ends p e below s (QF2 Z b n0 p1 cc h0) ({ frames := 1, cells := 0, slots := 0, locals := 16 } : Room).cells ({ frames := 1, cells := 0, slots := 0, locals := 16 } : Room).slots (T24.setTop (mkF m 27 #[.val (.ref b), .val (.long p1), .second] [(.long (fco p1 (1 : Int32))), (.int (1 : Int32)), (.ref b)]))
  refine o_l2d (pc' := 28) (v := FP.l2d (fco p1 (1 : Int32))) X24 hx (hb hby d1_27) rfl rfl ?_
  refine o_dastore (pc' := 29) X24 hx hZ e24 A13 (C13.inb (by decide) (by decide)) (hb hby d1_28) rfl ?_
  intro T28 h28 e28 W28 X28
  have A28 := Arr.same W28 A13
  have C28 := C13.put (Int32.toNatClampNeg (1 : Int32)) (.double (FP.l2d (fco p1 (1 : Int32))))
  replace N := Fr.snoc X28 (N.app (Fr.nil _)) q0
  replace K := K.wr W28 (Or.inl (List.mem_cons_self ..))
  refine o_aloadN (pc' := 30) X28 hx (hb hby d1_29) rfl rfl rfl ?_
  refine o_len (pc' := 31) (n := (2 : Int32)) X28 hx hZ e28 A28 (by rw [C28.1]; decide) (hb hby d1_30) rfl ?_
  refine o_iconst (v := (2 : Int32)) (pc' := 32) X28 hx (hb hby d1_31) (by decide) rfl ?_
  refine o_icmp_le (p1 := 35) (p2 := 44) X28 hx (hb hby d1_32) rfl (by decide) (by decide) (fun hc32 => ?_) (fun hc32 => absurd hc32 (by decide))
  refine o_aloadN (pc' := 45) X28 hx (hb hby d1_44) rfl rfl rfl ?_
  refine o_len (pc' := 46) (n := (2 : Int32)) X28 hx hZ e28 A28 (by rw [C28.1]; decide) (hb hby d1_45) rfl ?_
  refine o_iconst (v := (3 : Int32)) (pc' := 47) X28 hx (hb hby d1_46) (by decide) rfl ?_
  refine o_icmp_le (p1 := 50) (p2 := 59) X28 hx (hb hby d1_47) rfl (by decide) (by decide) (fun hc47 => ?_) (fun hc47 => absurd hc47 (by decide))
  have Cf : Cont _ 2 (fun k => .double (FP.l2d (gco p1 k))) := Cont.congr C28 (fun k hk => by
    have hh : k = 0 ∨ k = 1 := by omega
    rcases hh with rfl | rfl <;> rfl)
  exact o_ret0 X28 hx hlk hret (hb hby d1_59) ⟨rfl, by first | exact N | simpa using N, by rw [e28]; exact K, _, by rw [e28]; exact A28, Cf⟩ (by decide) (by decide)
abbrev QF3 (Z : State) (b : Addr) (n0 : Nat) (p1 : Int64) (cc : Cell) (h0 : Heap) (v : Option Value) (h : Heap) (L : List Loc) : Prop := v = none ∧ Fr n0 L ∧ Keep h0 h [b] ∧ ∃ cc', Arr Z h b cc' .double ∧ Cont cc' 3 (fun k => .double (FP.l2d (gco p1 k)))
set_option maxRecDepth 65536 in
set_option maxHeartbeats 40000000 in
theorem rmF3 (l : Launch) (Z : State) (a0 : Array Value) (hw : ∀ d ∈ tables_1, d.before a0 Z = true) (b : Addr) (n0 : Nat) (p1 : Int64) (cc : Cell) (h0 : Heap) (q0 : n0 ≤ b) (A : Arr Z h0 b cc .double) (C : Cont cc 3 (fun _ => defaultValue .double)) :
    Con l Z (⟨"com/example/shiftwise/shiftwise/SubPopulationSquaredDistancePinLaw", "fill", "([DJ)V"⟩ : MethodName) method_4_code 3 none ({ frames := 1, cells := 0, slots := 0, locals := 16 } : Room) #[(.ref b), (.long p1)] h0 (QF3 Z b n0 p1 cc h0) := by
  refine Con.of pn_1 (fun p e s m below meth c T0 X0 hx hby hml hret hlk hown hnm hZ e0 => ?_)
  replace hown : s.vm.findClass "com/example/shiftwise/shiftwise/SubPopulationSquaredDistancePinLaw" = some m.cls := hown
  have ef : entryFrame m #[(.ref b), (.long p1)] 3 = mkF m 0 #[.val (.ref b), .val (.long p1), .second] [] := by first | (simp [entryFrame, mkF, argsToLocals, Value.category]; done) | rfl
  rw [ef]
  have N := Fr.nil n0
  have K := Keep.refl h0 [b]
  refine o_aloadN (pc' := 1) X0 hx (hb hby d1_0) rfl rfl rfl ?_
  refine o_len (pc' := 2) (n := (3 : Int32)) X0 hx hZ e0 A (by rw [C.1]; decide) (hb hby d1_1) rfl ?_
  refine o_if_le (p1 := 5) (p2 := 14) X0 hx (hb hby d1_2) rfl (by decide) (by decide) (fun hc2 => absurd (by decide) hc2) (fun hc2 => ?_)
  refine o_aloadN (pc' := 6) X0 hx (hb hby d1_5) rfl rfl rfl ?_
  refine o_iconst (v := (0 : Int32)) (pc' := 7) X0 hx (hb hby d1_6) (by decide) rfl ?_
  refine o_lloadN (pc' := 8) X0 hx (hb hby d1_7) rfl rfl ?_
  refine o_iconst (v := (0 : Int32)) (pc' := 9) X0 hx (hb hby d1_8) (by decide) rfl ?_
  refine o_callS (W := 2) (pc' := 12) (rm := ({ frames := 0, cells := 0, slots := 0, locals := 0 } : Room)) (argsL := [(.long p1), (.int (0 : Int32))]) (rest := [(.int (0 : Int32)), (.ref b)]) X0 hx hZ hown (hw _ (List.mem_of_getElem? (i := 13) rfl)) (hw _ (List.mem_of_getElem? (i := 14) rfl)) (hw _ (List.mem_of_getElem? (i := 4) rfl)) (hw _ (List.mem_of_getElem? (i := 15) rfl)) (by decide) e0 (rm4 l Z a0 hw p1 (0 : Int32) h0) (by rw [hml]; rfl) pd_4 rfl rfl (hb hby d1_9) rfl (by decide) rfl (by decide) (by decide) (by decide) ?_
  rintro _ T9 L9 ⟨rfl, rfl, e9⟩ X9
  show Ends p e below s (QF3 Z b n0 p1 cc h0) ({ frames := 1, cells := 0, slots := 0, locals := 16 } : Room).cells ({ frames := 1, cells := 0, slots := 0, locals := 16 } : Room).slots (T9.setTop (mkF m 12 #[.val (.ref b), .val (.long p1), .second] [(.long (fco p1 (0 : Int32))), (.int (0 : Int32)), (.ref b)]))
  refine o_l2d (pc' := 13) (v := FP.l2d (fco p1 (0 : Int32))) X9 hx (hb hby d1_12) rfl rfl ?_
  refine o_dastore (pc' := 14) X9 hx hZ e9 A (C.inb (by decide) (by decide)) (hb hby d1_13) rfl ?_
  intro T13 h13 e13 W13 X13
  have A13 := Arr.same W13 A
  have C13 := C.put (Int32.toNatClampNeg (0 : Int32)) (.double (FP.l2d (fco p1 (0 : Int32))))
  replace N := Fr.snoc X13 (N.app (Fr.nil _)) q0
  replace K := K.wr W13 (Or.inl (List.mem_cons_self ..))
  refine o_aloadN (pc' := 15) X13 hx (hb hby d1_14) rfl rfl rfl ?_
  refine o_len (pc' := 16) (n := (3 : Int32)) X13 hx hZ e13 A13 (by rw [C13.1]; decide) (hb hby d1_15) rfl ?_
  refine o_iconst (v := (1 : Int32)) (pc' := 17) X13 hx (hb hby d1_16) (by decide) rfl ?_
  refine o_icmp_le (p1 := 20) (p2 := 29) X13 hx (hb hby d1_17) rfl (by decide) (by decide) (fun hc17 => absurd (by decide) hc17) (fun hc17 => ?_)
  refine o_aloadN (pc' := 21) X13 hx (hb hby d1_20) rfl rfl rfl ?_
  refine o_iconst (v := (1 : Int32)) (pc' := 22) X13 hx (hb hby d1_21) (by decide) rfl ?_
  refine o_lloadN (pc' := 23) X13 hx (hb hby d1_22) rfl rfl ?_
  refine o_iconst (v := (1 : Int32)) (pc' := 24) X13 hx (hb hby d1_23) (by decide) rfl ?_
  refine o_callS (W := 2) (pc' := 27) (rm := ({ frames := 0, cells := 0, slots := 0, locals := 0 } : Room)) (argsL := [(.long p1), (.int (1 : Int32))]) (rest := [(.int (1 : Int32)), (.ref b)]) X13 hx hZ hown (hw _ (List.mem_of_getElem? (i := 13) rfl)) (hw _ (List.mem_of_getElem? (i := 14) rfl)) (hw _ (List.mem_of_getElem? (i := 4) rfl)) (hw _ (List.mem_of_getElem? (i := 15) rfl)) (by decide) e13 (rm4 l Z a0 hw p1 (1 : Int32) h13) (by rw [hml]; rfl) pd_4 rfl rfl (hb hby d1_24) rfl (by decide) rfl (by decide) (by decide) (by decide) ?_
  rintro _ T24 L24 ⟨rfl, rfl, e24⟩ X24
  show Ends p e below s (QF3 Z b n0 p1 cc h0) ({ frames := 1, cells := 0, slots := 0, locals := 16 } : Room).cells ({ frames := 1, cells := 0, slots := 0, locals := 16 } : Room).slots (T24.setTop (mkF m 27 #[.val (.ref b), .val (.long p1), .second] [(.long (fco p1 (1 : Int32))), (.int (1 : Int32)), (.ref b)]))
  refine o_l2d (pc' := 28) (v := FP.l2d (fco p1 (1 : Int32))) X24 hx (hb hby d1_27) rfl rfl ?_
  refine o_dastore (pc' := 29) X24 hx hZ e24 A13 (C13.inb (by decide) (by decide)) (hb hby d1_28) rfl ?_
  intro T28 h28 e28 W28 X28
  have A28 := Arr.same W28 A13
  have C28 := C13.put (Int32.toNatClampNeg (1 : Int32)) (.double (FP.l2d (fco p1 (1 : Int32))))
  replace N := Fr.snoc X28 (N.app (Fr.nil _)) q0
  replace K := K.wr W28 (Or.inl (List.mem_cons_self ..))
  refine o_aloadN (pc' := 30) X28 hx (hb hby d1_29) rfl rfl rfl ?_
  refine o_len (pc' := 31) (n := (3 : Int32)) X28 hx hZ e28 A28 (by rw [C28.1]; decide) (hb hby d1_30) rfl ?_
  refine o_iconst (v := (2 : Int32)) (pc' := 32) X28 hx (hb hby d1_31) (by decide) rfl ?_
  refine o_icmp_le (p1 := 35) (p2 := 44) X28 hx (hb hby d1_32) rfl (by decide) (by decide) (fun hc32 => absurd (by decide) hc32) (fun hc32 => ?_)
  refine o_aloadN (pc' := 36) X28 hx (hb hby d1_35) rfl rfl rfl ?_
  refine o_iconst (v := (2 : Int32)) (pc' := 37) X28 hx (hb hby d1_36) (by decide) rfl ?_
  refine o_lloadN (pc' := 38) X28 hx (hb hby d1_37) rfl rfl ?_
  refine o_iconst (v := (2 : Int32)) (pc' := 39) X28 hx (hb hby d1_38) (by decide) rfl ?_
  refine o_callS (W := 2) (pc' := 42) (rm := ({ frames := 0, cells := 0, slots := 0, locals := 0 } : Room)) (argsL := [(.long p1), (.int (2 : Int32))]) (rest := [(.int (2 : Int32)), (.ref b)]) X28 hx hZ hown (hw _ (List.mem_of_getElem? (i := 13) rfl)) (hw _ (List.mem_of_getElem? (i := 14) rfl)) (hw _ (List.mem_of_getElem? (i := 4) rfl)) (hw _ (List.mem_of_getElem? (i := 15) rfl)) (by decide) e28 (rm4 l Z a0 hw p1 (2 : Int32) h28) (by rw [hml]; rfl) pd_4 rfl rfl (hb hby d1_39) rfl (by decide) rfl (by decide) (by decide) (by decide) ?_
  rintro _ T39 L39 ⟨rfl, rfl, e39⟩ X39
  show Ends p e below s (QF3 Z b n0 p1 cc h0) ({ frames := 1, cells := 0, slots := 0, locals := 16 } : Room).cells ({ frames := 1, cells := 0, slots := 0, locals := 16 } : Room).slots (T39.setTop (mkF m 42 #[.val (.ref b), .val (.long p1), .second] [(.long (fco p1 (2 : Int32))), (.int (2 : Int32)), (.ref b)]))
  refine o_l2d (pc' := 43) (v := FP.l2d (fco p1 (2 : Int32))) X39 hx (hb hby d1_42) rfl rfl ?_
  refine o_dastore (pc' := 44) X39 hx hZ e39 A28 (C28.inb (by decide) (by decide)) (hb hby d1_43) rfl ?_
  intro T43 h43 e43 W43 X43
  have A43 := Arr.same W43 A28
  have C43 := C28.put (Int32.toNatClampNeg (2 : Int32)) (.double (FP.l2d (fco p1 (2 : Int32))))
  replace N := Fr.snoc X43 (N.app (Fr.nil _)) q0
  replace K := K.wr W43 (Or.inl (List.mem_cons_self ..))
  refine o_aloadN (pc' := 45) X43 hx (hb hby d1_44) rfl rfl rfl ?_
  refine o_len (pc' := 46) (n := (3 : Int32)) X43 hx hZ e43 A43 (by rw [C43.1]; decide) (hb hby d1_45) rfl ?_
  refine o_iconst (v := (3 : Int32)) (pc' := 47) X43 hx (hb hby d1_46) (by decide) rfl ?_
  refine o_icmp_le (p1 := 50) (p2 := 59) X43 hx (hb hby d1_47) rfl (by decide) (by decide) (fun hc47 => ?_) (fun hc47 => absurd hc47 (by decide))
  have Cf : Cont _ 3 (fun k => .double (FP.l2d (gco p1 k))) := Cont.congr C43 (fun k hk => by
    have hh : k = 0 ∨ k = 1 ∨ k = 2 := by omega
    rcases hh with rfl | rfl | rfl <;> rfl)
  exact o_ret0 X43 hx hlk hret (hb hby d1_59) ⟨rfl, by first | exact N | simpa using N, by rw [e43]; exact K, _, by rw [e43]; exact A43, Cf⟩ (by decide) (by decide)
abbrev QF4 (Z : State) (b : Addr) (n0 : Nat) (p1 : Int64) (cc : Cell) (h0 : Heap) (v : Option Value) (h : Heap) (L : List Loc) : Prop := v = none ∧ Fr n0 L ∧ Keep h0 h [b] ∧ ∃ cc', Arr Z h b cc' .double ∧ Cont cc' 4 (fun k => .double (FP.l2d (gco p1 k)))
set_option maxRecDepth 65536 in
set_option maxHeartbeats 40000000 in
theorem rmF4 (l : Launch) (Z : State) (a0 : Array Value) (hw : ∀ d ∈ tables_1, d.before a0 Z = true) (b : Addr) (n0 : Nat) (p1 : Int64) (cc : Cell) (h0 : Heap) (q0 : n0 ≤ b) (A : Arr Z h0 b cc .double) (C : Cont cc 4 (fun _ => defaultValue .double)) :
    Con l Z (⟨"com/example/shiftwise/shiftwise/SubPopulationSquaredDistancePinLaw", "fill", "([DJ)V"⟩ : MethodName) method_4_code 3 none ({ frames := 1, cells := 0, slots := 0, locals := 16 } : Room) #[(.ref b), (.long p1)] h0 (QF4 Z b n0 p1 cc h0) := by
  refine Con.of pn_1 (fun p e s m below meth c T0 X0 hx hby hml hret hlk hown hnm hZ e0 => ?_)
  replace hown : s.vm.findClass "com/example/shiftwise/shiftwise/SubPopulationSquaredDistancePinLaw" = some m.cls := hown
  have ef : entryFrame m #[(.ref b), (.long p1)] 3 = mkF m 0 #[.val (.ref b), .val (.long p1), .second] [] := by first | (simp [entryFrame, mkF, argsToLocals, Value.category]; done) | rfl
  rw [ef]
  have N := Fr.nil n0
  have K := Keep.refl h0 [b]
  refine o_aloadN (pc' := 1) X0 hx (hb hby d1_0) rfl rfl rfl ?_
  refine o_len (pc' := 2) (n := (4 : Int32)) X0 hx hZ e0 A (by rw [C.1]; decide) (hb hby d1_1) rfl ?_
  refine o_if_le (p1 := 5) (p2 := 14) X0 hx (hb hby d1_2) rfl (by decide) (by decide) (fun hc2 => absurd (by decide) hc2) (fun hc2 => ?_)
  refine o_aloadN (pc' := 6) X0 hx (hb hby d1_5) rfl rfl rfl ?_
  refine o_iconst (v := (0 : Int32)) (pc' := 7) X0 hx (hb hby d1_6) (by decide) rfl ?_
  refine o_lloadN (pc' := 8) X0 hx (hb hby d1_7) rfl rfl ?_
  refine o_iconst (v := (0 : Int32)) (pc' := 9) X0 hx (hb hby d1_8) (by decide) rfl ?_
  refine o_callS (W := 2) (pc' := 12) (rm := ({ frames := 0, cells := 0, slots := 0, locals := 0 } : Room)) (argsL := [(.long p1), (.int (0 : Int32))]) (rest := [(.int (0 : Int32)), (.ref b)]) X0 hx hZ hown (hw _ (List.mem_of_getElem? (i := 13) rfl)) (hw _ (List.mem_of_getElem? (i := 14) rfl)) (hw _ (List.mem_of_getElem? (i := 4) rfl)) (hw _ (List.mem_of_getElem? (i := 15) rfl)) (by decide) e0 (rm4 l Z a0 hw p1 (0 : Int32) h0) (by rw [hml]; rfl) pd_4 rfl rfl (hb hby d1_9) rfl (by decide) rfl (by decide) (by decide) (by decide) ?_
  rintro _ T9 L9 ⟨rfl, rfl, e9⟩ X9
  show Ends p e below s (QF4 Z b n0 p1 cc h0) ({ frames := 1, cells := 0, slots := 0, locals := 16 } : Room).cells ({ frames := 1, cells := 0, slots := 0, locals := 16 } : Room).slots (T9.setTop (mkF m 12 #[.val (.ref b), .val (.long p1), .second] [(.long (fco p1 (0 : Int32))), (.int (0 : Int32)), (.ref b)]))
  refine o_l2d (pc' := 13) (v := FP.l2d (fco p1 (0 : Int32))) X9 hx (hb hby d1_12) rfl rfl ?_
  refine o_dastore (pc' := 14) X9 hx hZ e9 A (C.inb (by decide) (by decide)) (hb hby d1_13) rfl ?_
  intro T13 h13 e13 W13 X13
  have A13 := Arr.same W13 A
  have C13 := C.put (Int32.toNatClampNeg (0 : Int32)) (.double (FP.l2d (fco p1 (0 : Int32))))
  replace N := Fr.snoc X13 (N.app (Fr.nil _)) q0
  replace K := K.wr W13 (Or.inl (List.mem_cons_self ..))
  refine o_aloadN (pc' := 15) X13 hx (hb hby d1_14) rfl rfl rfl ?_
  refine o_len (pc' := 16) (n := (4 : Int32)) X13 hx hZ e13 A13 (by rw [C13.1]; decide) (hb hby d1_15) rfl ?_
  refine o_iconst (v := (1 : Int32)) (pc' := 17) X13 hx (hb hby d1_16) (by decide) rfl ?_
  refine o_icmp_le (p1 := 20) (p2 := 29) X13 hx (hb hby d1_17) rfl (by decide) (by decide) (fun hc17 => absurd (by decide) hc17) (fun hc17 => ?_)
  refine o_aloadN (pc' := 21) X13 hx (hb hby d1_20) rfl rfl rfl ?_
  refine o_iconst (v := (1 : Int32)) (pc' := 22) X13 hx (hb hby d1_21) (by decide) rfl ?_
  refine o_lloadN (pc' := 23) X13 hx (hb hby d1_22) rfl rfl ?_
  refine o_iconst (v := (1 : Int32)) (pc' := 24) X13 hx (hb hby d1_23) (by decide) rfl ?_
  refine o_callS (W := 2) (pc' := 27) (rm := ({ frames := 0, cells := 0, slots := 0, locals := 0 } : Room)) (argsL := [(.long p1), (.int (1 : Int32))]) (rest := [(.int (1 : Int32)), (.ref b)]) X13 hx hZ hown (hw _ (List.mem_of_getElem? (i := 13) rfl)) (hw _ (List.mem_of_getElem? (i := 14) rfl)) (hw _ (List.mem_of_getElem? (i := 4) rfl)) (hw _ (List.mem_of_getElem? (i := 15) rfl)) (by decide) e13 (rm4 l Z a0 hw p1 (1 : Int32) h13) (by rw [hml]; rfl) pd_4 rfl rfl (hb hby d1_24) rfl (by decide) rfl (by decide) (by decide) (by decide) ?_
  rintro _ T24 L24 ⟨rfl, rfl, e24⟩ X24
  show Ends p e below s (QF4 Z b n0 p1 cc h0) ({ frames := 1, cells := 0, slots := 0, locals := 16 } : Room).cells ({ frames := 1, cells := 0, slots := 0, locals := 16 } : Room).slots (T24.setTop (mkF m 27 #[.val (.ref b), .val (.long p1), .second] [(.long (fco p1 (1 : Int32))), (.int (1 : Int32)), (.ref b)]))
  refine o_l2d (pc' := 28) (v := FP.l2d (fco p1 (1 : Int32))) X24 hx (hb hby d1_27) rfl rfl ?_
  refine o_dastore (pc' := 29) X24 hx hZ e24 A13 (C13.inb (by decide) (by decide)) (hb hby d1_28) rfl ?_
  intro T28 h28 e28 W28 X28
  have A28 := Arr.same W28 A13
  have C28 := C13.put (Int32.toNatClampNeg (1 : Int32)) (.double (FP.l2d (fco p1 (1 : Int32))))
  replace N := Fr.snoc X28 (N.app (Fr.nil _)) q0
  replace K := K.wr W28 (Or.inl (List.mem_cons_self ..))
  refine o_aloadN (pc' := 30) X28 hx (hb hby d1_29) rfl rfl rfl ?_
  refine o_len (pc' := 31) (n := (4 : Int32)) X28 hx hZ e28 A28 (by rw [C28.1]; decide) (hb hby d1_30) rfl ?_
  refine o_iconst (v := (2 : Int32)) (pc' := 32) X28 hx (hb hby d1_31) (by decide) rfl ?_
  refine o_icmp_le (p1 := 35) (p2 := 44) X28 hx (hb hby d1_32) rfl (by decide) (by decide) (fun hc32 => absurd (by decide) hc32) (fun hc32 => ?_)
  refine o_aloadN (pc' := 36) X28 hx (hb hby d1_35) rfl rfl rfl ?_
  refine o_iconst (v := (2 : Int32)) (pc' := 37) X28 hx (hb hby d1_36) (by decide) rfl ?_
  refine o_lloadN (pc' := 38) X28 hx (hb hby d1_37) rfl rfl ?_
  refine o_iconst (v := (2 : Int32)) (pc' := 39) X28 hx (hb hby d1_38) (by decide) rfl ?_
  refine o_callS (W := 2) (pc' := 42) (rm := ({ frames := 0, cells := 0, slots := 0, locals := 0 } : Room)) (argsL := [(.long p1), (.int (2 : Int32))]) (rest := [(.int (2 : Int32)), (.ref b)]) X28 hx hZ hown (hw _ (List.mem_of_getElem? (i := 13) rfl)) (hw _ (List.mem_of_getElem? (i := 14) rfl)) (hw _ (List.mem_of_getElem? (i := 4) rfl)) (hw _ (List.mem_of_getElem? (i := 15) rfl)) (by decide) e28 (rm4 l Z a0 hw p1 (2 : Int32) h28) (by rw [hml]; rfl) pd_4 rfl rfl (hb hby d1_39) rfl (by decide) rfl (by decide) (by decide) (by decide) ?_
  rintro _ T39 L39 ⟨rfl, rfl, e39⟩ X39
  show Ends p e below s (QF4 Z b n0 p1 cc h0) ({ frames := 1, cells := 0, slots := 0, locals := 16 } : Room).cells ({ frames := 1, cells := 0, slots := 0, locals := 16 } : Room).slots (T39.setTop (mkF m 42 #[.val (.ref b), .val (.long p1), .second] [(.long (fco p1 (2 : Int32))), (.int (2 : Int32)), (.ref b)]))
  refine o_l2d (pc' := 43) (v := FP.l2d (fco p1 (2 : Int32))) X39 hx (hb hby d1_42) rfl rfl ?_
  refine o_dastore (pc' := 44) X39 hx hZ e39 A28 (C28.inb (by decide) (by decide)) (hb hby d1_43) rfl ?_
  intro T43 h43 e43 W43 X43
  have A43 := Arr.same W43 A28
  have C43 := C28.put (Int32.toNatClampNeg (2 : Int32)) (.double (FP.l2d (fco p1 (2 : Int32))))
  replace N := Fr.snoc X43 (N.app (Fr.nil _)) q0
  replace K := K.wr W43 (Or.inl (List.mem_cons_self ..))
  refine o_aloadN (pc' := 45) X43 hx (hb hby d1_44) rfl rfl rfl ?_
  refine o_len (pc' := 46) (n := (4 : Int32)) X43 hx hZ e43 A43 (by rw [C43.1]; decide) (hb hby d1_45) rfl ?_
  refine o_iconst (v := (3 : Int32)) (pc' := 47) X43 hx (hb hby d1_46) (by decide) rfl ?_
  refine o_icmp_le (p1 := 50) (p2 := 59) X43 hx (hb hby d1_47) rfl (by decide) (by decide) (fun hc47 => absurd (by decide) hc47) (fun hc47 => ?_)
  refine o_aloadN (pc' := 51) X43 hx (hb hby d1_50) rfl rfl rfl ?_
  refine o_iconst (v := (3 : Int32)) (pc' := 52) X43 hx (hb hby d1_51) (by decide) rfl ?_
  refine o_lloadN (pc' := 53) X43 hx (hb hby d1_52) rfl rfl ?_
  refine o_iconst (v := (3 : Int32)) (pc' := 54) X43 hx (hb hby d1_53) (by decide) rfl ?_
  refine o_callS (W := 2) (pc' := 57) (rm := ({ frames := 0, cells := 0, slots := 0, locals := 0 } : Room)) (argsL := [(.long p1), (.int (3 : Int32))]) (rest := [(.int (3 : Int32)), (.ref b)]) X43 hx hZ hown (hw _ (List.mem_of_getElem? (i := 13) rfl)) (hw _ (List.mem_of_getElem? (i := 14) rfl)) (hw _ (List.mem_of_getElem? (i := 4) rfl)) (hw _ (List.mem_of_getElem? (i := 15) rfl)) (by decide) e43 (rm4 l Z a0 hw p1 (3 : Int32) h43) (by rw [hml]; rfl) pd_4 rfl rfl (hb hby d1_54) rfl (by decide) rfl (by decide) (by decide) (by decide) ?_
  rintro _ T54 L54 ⟨rfl, rfl, e54⟩ X54
  show Ends p e below s (QF4 Z b n0 p1 cc h0) ({ frames := 1, cells := 0, slots := 0, locals := 16 } : Room).cells ({ frames := 1, cells := 0, slots := 0, locals := 16 } : Room).slots (T54.setTop (mkF m 57 #[.val (.ref b), .val (.long p1), .second] [(.long (fco p1 (3 : Int32))), (.int (3 : Int32)), (.ref b)]))
  refine o_l2d (pc' := 58) (v := FP.l2d (fco p1 (3 : Int32))) X54 hx (hb hby d1_57) rfl rfl ?_
  refine o_dastore (pc' := 59) X54 hx hZ e54 A43 (C43.inb (by decide) (by decide)) (hb hby d1_58) rfl ?_
  intro T58 h58 e58 W58 X58
  have A58 := Arr.same W58 A43
  have C58 := C43.put (Int32.toNatClampNeg (3 : Int32)) (.double (FP.l2d (fco p1 (3 : Int32))))
  replace N := Fr.snoc X58 (N.app (Fr.nil _)) q0
  replace K := K.wr W58 (Or.inl (List.mem_cons_self ..))
  have Cf : Cont _ 4 (fun k => .double (FP.l2d (gco p1 k))) := Cont.congr C58 (fun k hk => by
    have hh : k = 0 ∨ k = 1 ∨ k = 2 ∨ k = 3 := by omega
    rcases hh with rfl | rfl | rfl | rfl <;> rfl)
  exact o_ret0 X58 hx hlk hret (hb hby d1_59) ⟨rfl, by first | exact N | simpa using N, by rw [e58]; exact K, _, by rw [e58]; exact A58, Cf⟩ (by decide) (by decide)
def fte (p1 p2 : Int64) (p3 p4 : Int32) : Int64 := (if p3 < p4 then ((fco p1 p3) - (fco p2 p3)) * ((fco p1 p3) - (fco p2 p3)) else (0 : Int64))
abbrev Q2 (Z : State) (p1 p2 : Int64) (p3 p4 : Int32) (h0 : Heap) (v : Option Value) (h : Heap) (L : List Loc) : Prop := v = some (.long (fte p1 p2 p3 p4)) ∧ L = [] ∧ h = h0
set_option maxRecDepth 65536 in
set_option maxHeartbeats 40000000 in
theorem rm2 (l : Launch) (Z : State) (a0 : Array Value) (hw : ∀ d ∈ tables_1, d.before a0 Z = true) (p1 p2 : Int64) (p3 p4 : Int32) (h0 : Heap)  :
    Con l Z (⟨"com/example/shiftwise/shiftwise/SubPopulationSquaredDistancePinLaw", "term", "(JJII)J"⟩ : MethodName) method_5_code 8 (some .long) ({ frames := 1, cells := 0, slots := 0, locals := 16 } : Room) #[(.long p1), (.long p2), (.int p3), (.int p4)] h0 (Q2 Z p1 p2 p3 p4 h0) := by
  refine Con.of pn_2 (fun p e s m below meth c T0 X0 hx hby hml hret hlk hown hnm hZ e0 => ?_)
  replace hown : s.vm.findClass "com/example/shiftwise/shiftwise/SubPopulationSquaredDistancePinLaw" = some m.cls := hown
  have ef : entryFrame m #[(.long p1), (.long p2), (.int p3), (.int p4)] 8 = mkF m 0 #[.val (.long p1), .second, .val (.long p2), .second, .val (.int p3), .val (.int p4), .unset, .unset] [] := by first | (simp [entryFrame, mkF, argsToLocals, Value.category]; done) | rfl
  rw [ef]
  refine o_iload (pc' := 2) X0 hx (hb hby d2_0) rfl rfl ?_
  refine o_iload (pc' := 4) X0 hx (hb hby d2_2) rfl rfl ?_
  refine o_icmp_lt (p1 := 7) (p2 := 9) X0 hx (hb hby d2_4) rfl (by decide) (by decide) (fun hc4 => ?_) (fun hc4 => ?_)
  · refine o_lloadN (pc' := 10) X0 hx (hb hby d2_9) rfl rfl ?_
    refine o_iload (pc' := 12) X0 hx (hb hby d2_10) rfl rfl ?_
    refine o_callS (W := 0) (pc' := 15) (rm := ({ frames := 0, cells := 0, slots := 0, locals := 0 } : Room)) (argsL := [(.long p1), (.int p3)]) (rest := []) X0 hx hZ hown (hw _ (List.mem_of_getElem? (i := 13) rfl)) (hw _ (List.mem_of_getElem? (i := 14) rfl)) (hw _ (List.mem_of_getElem? (i := 4) rfl)) (hw _ (List.mem_of_getElem? (i := 15) rfl)) (by decide) e0 (rm4 l Z a0 hw p1 p3 h0) (by rw [hml]; rfl) pd_4 rfl rfl (hb hby d2_12) rfl (by decide) rfl (by decide) (by decide) (by decide) ?_
    rintro _ T12 L12 ⟨rfl, rfl, e12⟩ X12
    show Ends p e below s (Q2 Z p1 p2 p3 p4 h0) ({ frames := 1, cells := 0, slots := 0, locals := 16 } : Room).cells ({ frames := 1, cells := 0, slots := 0, locals := 16 } : Room).slots (T12.setTop (mkF m 15 #[.val (.long p1), .second, .val (.long p2), .second, .val (.int p3), .val (.int p4), .unset, .unset] [(.long (fco p1 p3))]))
    refine o_lloadN (pc' := 16) X12 hx (hb hby d2_15) rfl rfl ?_
    refine o_iload (pc' := 18) X12 hx (hb hby d2_16) rfl rfl ?_
    refine o_callS (W := 2) (pc' := 21) (rm := ({ frames := 0, cells := 0, slots := 0, locals := 0 } : Room)) (argsL := [(.long p2), (.int p3)]) (rest := [(.long (fco p1 p3))]) X12 hx hZ hown (hw _ (List.mem_of_getElem? (i := 13) rfl)) (hw _ (List.mem_of_getElem? (i := 14) rfl)) (hw _ (List.mem_of_getElem? (i := 4) rfl)) (hw _ (List.mem_of_getElem? (i := 15) rfl)) (by decide) e12 (rm4 l Z a0 hw p2 p3 h0) (by rw [hml]; rfl) pd_4 rfl rfl (hb hby d2_18) rfl (by decide) rfl (by decide) (by decide) (by decide) ?_
    rintro _ T18 L18 ⟨rfl, rfl, e18⟩ X18
    show Ends p e below s (Q2 Z p1 p2 p3 p4 h0) ({ frames := 1, cells := 0, slots := 0, locals := 16 } : Room).cells ({ frames := 1, cells := 0, slots := 0, locals := 16 } : Room).slots (T18.setTop (mkF m 21 #[.val (.long p1), .second, .val (.long p2), .second, .val (.int p3), .val (.int p4), .unset, .unset] [(.long (fco p2 p3)), (.long (fco p1 p3))]))
    refine o_lsub (pc' := 22) X18 hx (hb hby d2_21) rfl ?_
    refine o_lstore (Ls' := #[.val (.long p1), .second, .val (.long p2), .second, .val (.int p3), .val (.int p4), .val (.long ((fco p1 p3) - (fco p2 p3))), .second]) (pc' := 24) X18 hx (hb hby d2_22) rfl rfl ?_
    refine o_lload (pc' := 26) X18 hx (hb hby d2_24) rfl rfl ?_
    refine o_lload (pc' := 28) X18 hx (hb hby d2_26) rfl rfl ?_
    refine o_lmul (pc' := 29) X18 hx (hb hby d2_28) rfl ?_
    exact o_retJ X18 hx hlk hret (hb hby d2_29) ⟨by simp only [fte, if_pos hc4], rfl, e18⟩ (by decide) (by decide)
  · refine o_lconst (v := (0 : Int64)) (pc' := 8) X0 hx (hb hby d2_7) (by decide) rfl ?_
    exact o_retJ X0 hx hlk hret (hb hby d2_8) ⟨by simp only [fte, if_neg hc4], rfl, e0⟩ (by decide) (by decide)
abbrev QS0 (Z : State) (a b : Addr) (ca cb : Cell) (ga gb : Nat → Int64) (h0 : Heap) (v : Option Value) (h : Heap) (L : List Loc) : Prop := v = some (.double (FP.l2d (fS ga gb 0))) ∧ L = [] ∧ h = h0
set_option maxRecDepth 65536 in
set_option maxHeartbeats 40000000 in
theorem rmS0 (l : Launch) (Z : State) (a0 : Array Value) (hw : ∀ d ∈ tables_1, d.before a0 Z = true) (a b : Addr) (ca cb : Cell) (ga gb : Nat → Int64) (h0 : Heap) (A : Arr Z h0 a ca .double) (C : Cont ca 0 (fun k => .double (FP.l2d (ga k)))) (B : Arr Z h0 b cb .double) (D : Cont cb 0 (fun k => .double (FP.l2d (gb k)))) (ha : Bd ga) (hb' : Bd gb) :
    Con l Z (⟨"com/example/shiftwise/shiftwise/SubPopulation", "squaredDistance", "([D[D)D"⟩ : MethodName) prog_41_method_25_code 7 (some .double) ({ frames := 0, cells := 0, slots := 0, locals := 0 } : Room) #[(.ref a), (.ref b)] h0 (QS0 Z a b ca cb ga gb h0) := by
  refine Con.of pn_3 (fun p e s m below meth c T0 X0 hx hby hml hret hlk hown hnm hZ e0 => ?_)
  replace hown : s.vm.findClass "com/example/shiftwise/shiftwise/SubPopulation" = some m.cls := hown
  have ef : entryFrame m #[(.ref a), (.ref b)] 7 = mkF m 0 #[.val (.ref a), .val (.ref b), .unset, .unset, .unset, .unset, .unset] [] := by first | (simp [entryFrame, mkF, argsToLocals, Value.category]; done) | rfl
  rw [ef]
  refine o_dconst0 (pc' := 1) (v := FP.l2d (fS ga gb 0)) X0 hx (hb hby d3_0) own_d0 rfl ?_
  refine o_dstoreN (Ls' := #[.val (.ref a), .val (.ref b), .val (.double (FP.l2d (fS ga gb 0))), .second, .unset, .unset, .unset]) (pc' := 2) X0 hx (hb hby d3_1) rfl rfl ?_
  refine o_iconst (v := (0 : Int32)) (pc' := 3) X0 hx (hb hby d3_2) (by decide) rfl ?_
  refine o_istore (Ls' := #[.val (.ref a), .val (.ref b), .val (.double (FP.l2d (fS ga gb 0))), .second, .val (.int (0 : Int32)), .unset, .unset]) (pc' := 5) X0 hx (hb hby d3_3) rfl rfl ?_
  refine o_iload (pc' := 7) X0 hx (hb hby d3_5) rfl rfl ?_
  refine o_aloadN (pc' := 8) X0 hx (hb hby d3_7) rfl rfl rfl ?_
  refine o_len (pc' := 9) (n := (0 : Int32)) X0 hx hZ e0 A (by rw [C.1]; decide) (hb hby d3_8) rfl ?_
  refine o_icmp_ge (p1 := 12) (p2 := 37) X0 hx (hb hby d3_9) rfl (by decide) (by decide) (fun hc9 => ?_) (fun hc9 => absurd hc9 (by decide))
  refine o_dloadN (pc' := 38) X0 hx (hb hby d3_37) rfl rfl ?_
  exact o_retD X0 hx hlk hret (hb hby d3_38) ⟨rfl, rfl, e0⟩ (by decide) (by decide)
abbrev QS1 (Z : State) (a b : Addr) (ca cb : Cell) (ga gb : Nat → Int64) (h0 : Heap) (v : Option Value) (h : Heap) (L : List Loc) : Prop := v = some (.double (FP.l2d (fS ga gb 1))) ∧ L = [] ∧ h = h0
set_option maxRecDepth 65536 in
set_option maxHeartbeats 40000000 in
theorem rmS1 (l : Launch) (Z : State) (a0 : Array Value) (hw : ∀ d ∈ tables_1, d.before a0 Z = true) (a b : Addr) (ca cb : Cell) (ga gb : Nat → Int64) (h0 : Heap) (A : Arr Z h0 a ca .double) (C : Cont ca 1 (fun k => .double (FP.l2d (ga k)))) (B : Arr Z h0 b cb .double) (D : Cont cb 1 (fun k => .double (FP.l2d (gb k)))) (ha : Bd ga) (hb' : Bd gb) :
    Con l Z (⟨"com/example/shiftwise/shiftwise/SubPopulation", "squaredDistance", "([D[D)D"⟩ : MethodName) prog_41_method_25_code 7 (some .double) ({ frames := 0, cells := 0, slots := 0, locals := 0 } : Room) #[(.ref a), (.ref b)] h0 (QS1 Z a b ca cb ga gb h0) := by
  refine Con.of pn_3 (fun p e s m below meth c T0 X0 hx hby hml hret hlk hown hnm hZ e0 => ?_)
  replace hown : s.vm.findClass "com/example/shiftwise/shiftwise/SubPopulation" = some m.cls := hown
  have ef : entryFrame m #[(.ref a), (.ref b)] 7 = mkF m 0 #[.val (.ref a), .val (.ref b), .unset, .unset, .unset, .unset, .unset] [] := by first | (simp [entryFrame, mkF, argsToLocals, Value.category]; done) | rfl
  rw [ef]
  refine o_dconst0 (pc' := 1) (v := FP.l2d (fS ga gb 0)) X0 hx (hb hby d3_0) own_d0 rfl ?_
  refine o_dstoreN (Ls' := #[.val (.ref a), .val (.ref b), .val (.double (FP.l2d (fS ga gb 0))), .second, .unset, .unset, .unset]) (pc' := 2) X0 hx (hb hby d3_1) rfl rfl ?_
  refine o_iconst (v := (0 : Int32)) (pc' := 3) X0 hx (hb hby d3_2) (by decide) rfl ?_
  refine o_istore (Ls' := #[.val (.ref a), .val (.ref b), .val (.double (FP.l2d (fS ga gb 0))), .second, .val (.int (0 : Int32)), .unset, .unset]) (pc' := 5) X0 hx (hb hby d3_3) rfl rfl ?_
  refine o_iload (pc' := 7) X0 hx (hb hby d3_5) rfl rfl ?_
  refine o_aloadN (pc' := 8) X0 hx (hb hby d3_7) rfl rfl rfl ?_
  refine o_len (pc' := 9) (n := (1 : Int32)) X0 hx hZ e0 A (by rw [C.1]; decide) (hb hby d3_8) rfl ?_
  refine o_icmp_ge (p1 := 12) (p2 := 37) X0 hx (hb hby d3_9) rfl (by decide) (by decide) (fun hc9 => absurd (by decide) hc9) (fun hc9 => ?_)
  refine o_aloadN (pc' := 13) X0 hx (hb hby d3_12) rfl rfl rfl ?_
  refine o_iload (pc' := 15) X0 hx (hb hby d3_13) rfl rfl ?_
  refine o_daload (pc' := 16) (v := .double (FP.l2d (ga 0))) X0 hx hZ e0 A (C.inb (by decide) (by decide)) ((C.at (j := (0 : Int32)) (by decide) (by decide)).trans rfl) (hb hby d3_15) rfl ?_
  refine o_aloadN (pc' := 17) X0 hx (hb hby d3_16) rfl rfl rfl ?_
  refine o_iload (pc' := 19) X0 hx (hb hby d3_17) rfl rfl ?_
  refine o_daload (pc' := 20) (v := .double (FP.l2d (gb 0))) X0 hx hZ e0 B (D.inb (by decide) (by decide)) ((D.at (j := (0 : Int32)) (by decide) (by decide)).trans rfl) (hb hby d3_19) rfl ?_
  refine o_dsub (pc' := 21) (v := FP.l2d (ga 0 - gb 0)) X0 hx (hb hby d3_20) (dsub_w (own_b ha 0) (own_b hb' 0)) (nn_w rfl) rfl ?_
  refine o_dstore (Ls' := #[.val (.ref a), .val (.ref b), .val (.double (FP.l2d (fS ga gb 0))), .second, .val (.int (0 : Int32)), .val (.double (FP.l2d (ga 0 - gb 0))), .second]) (pc' := 23) X0 hx (hb hby d3_21) rfl rfl ?_
  refine o_dloadN (pc' := 24) X0 hx (hb hby d3_23) rfl rfl ?_
  refine o_dload (pc' := 26) X0 hx (hb hby d3_24) rfl rfl ?_
  refine o_dload (pc' := 28) X0 hx (hb hby d3_26) rfl rfl ?_
  refine o_dmul (pc' := 29) (v := FP.l2d (dq (ga 0) (gb 0))) X0 hx (hb hby d3_28) (own_mul ha hb' 0) (nn_w rfl) rfl ?_
  refine o_dadd (pc' := 30) (v := FP.l2d (fS ga gb 1)) X0 hx (hb hby d3_29) (own_add ha hb' 0 (by decide)) (nn_w rfl) rfl ?_
  refine o_dstoreN (Ls' := #[.val (.ref a), .val (.ref b), .val (.double (FP.l2d (fS ga gb 1))), .second, .val (.int (0 : Int32)), .val (.double (FP.l2d (ga 0 - gb 0))), .second]) (pc' := 31) X0 hx (hb hby d3_30) rfl rfl ?_
  refine o_iinc (Ls' := #[.val (.ref a), .val (.ref b), .val (.double (FP.l2d (fS ga gb 1))), .second, .val (.int (1 : Int32)), .val (.double (FP.l2d (ga 0 - gb 0))), .second]) (v' := (1 : Int32)) (pc' := 34) X0 hx (hb hby d3_31) rfl (by decide) rfl rfl ?_
  refine o_goto (pc' := 5) X0 hx (hb hby d3_34) (by decide) (by decide) ?_
  refine o_iload (pc' := 7) X0 hx (hb hby d3_5) rfl rfl ?_
  refine o_aloadN (pc' := 8) X0 hx (hb hby d3_7) rfl rfl rfl ?_
  refine o_len (pc' := 9) (n := (1 : Int32)) X0 hx hZ e0 A (by rw [C.1]; decide) (hb hby d3_8) rfl ?_
  refine o_icmp_ge (p1 := 12) (p2 := 37) X0 hx (hb hby d3_9) rfl (by decide) (by decide) (fun hc9 => ?_) (fun hc9 => absurd hc9 (by decide))
  refine o_dloadN (pc' := 38) X0 hx (hb hby d3_37) rfl rfl ?_
  exact o_retD X0 hx hlk hret (hb hby d3_38) ⟨rfl, rfl, e0⟩ (by decide) (by decide)
abbrev QS2 (Z : State) (a b : Addr) (ca cb : Cell) (ga gb : Nat → Int64) (h0 : Heap) (v : Option Value) (h : Heap) (L : List Loc) : Prop := v = some (.double (FP.l2d (fS ga gb 2))) ∧ L = [] ∧ h = h0
set_option maxRecDepth 65536 in
set_option maxHeartbeats 40000000 in
theorem rmS2 (l : Launch) (Z : State) (a0 : Array Value) (hw : ∀ d ∈ tables_1, d.before a0 Z = true) (a b : Addr) (ca cb : Cell) (ga gb : Nat → Int64) (h0 : Heap) (A : Arr Z h0 a ca .double) (C : Cont ca 2 (fun k => .double (FP.l2d (ga k)))) (B : Arr Z h0 b cb .double) (D : Cont cb 2 (fun k => .double (FP.l2d (gb k)))) (ha : Bd ga) (hb' : Bd gb) :
    Con l Z (⟨"com/example/shiftwise/shiftwise/SubPopulation", "squaredDistance", "([D[D)D"⟩ : MethodName) prog_41_method_25_code 7 (some .double) ({ frames := 0, cells := 0, slots := 0, locals := 0 } : Room) #[(.ref a), (.ref b)] h0 (QS2 Z a b ca cb ga gb h0) := by
  refine Con.of pn_3 (fun p e s m below meth c T0 X0 hx hby hml hret hlk hown hnm hZ e0 => ?_)
  replace hown : s.vm.findClass "com/example/shiftwise/shiftwise/SubPopulation" = some m.cls := hown
  have ef : entryFrame m #[(.ref a), (.ref b)] 7 = mkF m 0 #[.val (.ref a), .val (.ref b), .unset, .unset, .unset, .unset, .unset] [] := by first | (simp [entryFrame, mkF, argsToLocals, Value.category]; done) | rfl
  rw [ef]
  refine o_dconst0 (pc' := 1) (v := FP.l2d (fS ga gb 0)) X0 hx (hb hby d3_0) own_d0 rfl ?_
  refine o_dstoreN (Ls' := #[.val (.ref a), .val (.ref b), .val (.double (FP.l2d (fS ga gb 0))), .second, .unset, .unset, .unset]) (pc' := 2) X0 hx (hb hby d3_1) rfl rfl ?_
  refine o_iconst (v := (0 : Int32)) (pc' := 3) X0 hx (hb hby d3_2) (by decide) rfl ?_
  refine o_istore (Ls' := #[.val (.ref a), .val (.ref b), .val (.double (FP.l2d (fS ga gb 0))), .second, .val (.int (0 : Int32)), .unset, .unset]) (pc' := 5) X0 hx (hb hby d3_3) rfl rfl ?_
  refine o_iload (pc' := 7) X0 hx (hb hby d3_5) rfl rfl ?_
  refine o_aloadN (pc' := 8) X0 hx (hb hby d3_7) rfl rfl rfl ?_
  refine o_len (pc' := 9) (n := (2 : Int32)) X0 hx hZ e0 A (by rw [C.1]; decide) (hb hby d3_8) rfl ?_
  refine o_icmp_ge (p1 := 12) (p2 := 37) X0 hx (hb hby d3_9) rfl (by decide) (by decide) (fun hc9 => absurd (by decide) hc9) (fun hc9 => ?_)
  refine o_aloadN (pc' := 13) X0 hx (hb hby d3_12) rfl rfl rfl ?_
  refine o_iload (pc' := 15) X0 hx (hb hby d3_13) rfl rfl ?_
  refine o_daload (pc' := 16) (v := .double (FP.l2d (ga 0))) X0 hx hZ e0 A (C.inb (by decide) (by decide)) ((C.at (j := (0 : Int32)) (by decide) (by decide)).trans rfl) (hb hby d3_15) rfl ?_
  refine o_aloadN (pc' := 17) X0 hx (hb hby d3_16) rfl rfl rfl ?_
  refine o_iload (pc' := 19) X0 hx (hb hby d3_17) rfl rfl ?_
  refine o_daload (pc' := 20) (v := .double (FP.l2d (gb 0))) X0 hx hZ e0 B (D.inb (by decide) (by decide)) ((D.at (j := (0 : Int32)) (by decide) (by decide)).trans rfl) (hb hby d3_19) rfl ?_
  refine o_dsub (pc' := 21) (v := FP.l2d (ga 0 - gb 0)) X0 hx (hb hby d3_20) (dsub_w (own_b ha 0) (own_b hb' 0)) (nn_w rfl) rfl ?_
  refine o_dstore (Ls' := #[.val (.ref a), .val (.ref b), .val (.double (FP.l2d (fS ga gb 0))), .second, .val (.int (0 : Int32)), .val (.double (FP.l2d (ga 0 - gb 0))), .second]) (pc' := 23) X0 hx (hb hby d3_21) rfl rfl ?_
  refine o_dloadN (pc' := 24) X0 hx (hb hby d3_23) rfl rfl ?_
  refine o_dload (pc' := 26) X0 hx (hb hby d3_24) rfl rfl ?_
  refine o_dload (pc' := 28) X0 hx (hb hby d3_26) rfl rfl ?_
  refine o_dmul (pc' := 29) (v := FP.l2d (dq (ga 0) (gb 0))) X0 hx (hb hby d3_28) (own_mul ha hb' 0) (nn_w rfl) rfl ?_
  refine o_dadd (pc' := 30) (v := FP.l2d (fS ga gb 1)) X0 hx (hb hby d3_29) (own_add ha hb' 0 (by decide)) (nn_w rfl) rfl ?_
  refine o_dstoreN (Ls' := #[.val (.ref a), .val (.ref b), .val (.double (FP.l2d (fS ga gb 1))), .second, .val (.int (0 : Int32)), .val (.double (FP.l2d (ga 0 - gb 0))), .second]) (pc' := 31) X0 hx (hb hby d3_30) rfl rfl ?_
  refine o_iinc (Ls' := #[.val (.ref a), .val (.ref b), .val (.double (FP.l2d (fS ga gb 1))), .second, .val (.int (1 : Int32)), .val (.double (FP.l2d (ga 0 - gb 0))), .second]) (v' := (1 : Int32)) (pc' := 34) X0 hx (hb hby d3_31) rfl (by decide) rfl rfl ?_
  refine o_goto (pc' := 5) X0 hx (hb hby d3_34) (by decide) (by decide) ?_
  refine o_iload (pc' := 7) X0 hx (hb hby d3_5) rfl rfl ?_
  refine o_aloadN (pc' := 8) X0 hx (hb hby d3_7) rfl rfl rfl ?_
  refine o_len (pc' := 9) (n := (2 : Int32)) X0 hx hZ e0 A (by rw [C.1]; decide) (hb hby d3_8) rfl ?_
  refine o_icmp_ge (p1 := 12) (p2 := 37) X0 hx (hb hby d3_9) rfl (by decide) (by decide) (fun hc9 => absurd (by decide) hc9) (fun hc9 => ?_)
  refine o_aloadN (pc' := 13) X0 hx (hb hby d3_12) rfl rfl rfl ?_
  refine o_iload (pc' := 15) X0 hx (hb hby d3_13) rfl rfl ?_
  refine o_daload (pc' := 16) (v := .double (FP.l2d (ga 1))) X0 hx hZ e0 A (C.inb (by decide) (by decide)) ((C.at (j := (1 : Int32)) (by decide) (by decide)).trans rfl) (hb hby d3_15) rfl ?_
  refine o_aloadN (pc' := 17) X0 hx (hb hby d3_16) rfl rfl rfl ?_
  refine o_iload (pc' := 19) X0 hx (hb hby d3_17) rfl rfl ?_
  refine o_daload (pc' := 20) (v := .double (FP.l2d (gb 1))) X0 hx hZ e0 B (D.inb (by decide) (by decide)) ((D.at (j := (1 : Int32)) (by decide) (by decide)).trans rfl) (hb hby d3_19) rfl ?_
  refine o_dsub (pc' := 21) (v := FP.l2d (ga 1 - gb 1)) X0 hx (hb hby d3_20) (dsub_w (own_b ha 1) (own_b hb' 1)) (nn_w rfl) rfl ?_
  refine o_dstore (Ls' := #[.val (.ref a), .val (.ref b), .val (.double (FP.l2d (fS ga gb 1))), .second, .val (.int (1 : Int32)), .val (.double (FP.l2d (ga 1 - gb 1))), .second]) (pc' := 23) X0 hx (hb hby d3_21) rfl rfl ?_
  refine o_dloadN (pc' := 24) X0 hx (hb hby d3_23) rfl rfl ?_
  refine o_dload (pc' := 26) X0 hx (hb hby d3_24) rfl rfl ?_
  refine o_dload (pc' := 28) X0 hx (hb hby d3_26) rfl rfl ?_
  refine o_dmul (pc' := 29) (v := FP.l2d (dq (ga 1) (gb 1))) X0 hx (hb hby d3_28) (own_mul ha hb' 1) (nn_w rfl) rfl ?_
  refine o_dadd (pc' := 30) (v := FP.l2d (fS ga gb 2)) X0 hx (hb hby d3_29) (own_add ha hb' 1 (by decide)) (nn_w rfl) rfl ?_
  refine o_dstoreN (Ls' := #[.val (.ref a), .val (.ref b), .val (.double (FP.l2d (fS ga gb 2))), .second, .val (.int (1 : Int32)), .val (.double (FP.l2d (ga 1 - gb 1))), .second]) (pc' := 31) X0 hx (hb hby d3_30) rfl rfl ?_
  refine o_iinc (Ls' := #[.val (.ref a), .val (.ref b), .val (.double (FP.l2d (fS ga gb 2))), .second, .val (.int (2 : Int32)), .val (.double (FP.l2d (ga 1 - gb 1))), .second]) (v' := (2 : Int32)) (pc' := 34) X0 hx (hb hby d3_31) rfl (by decide) rfl rfl ?_
  refine o_goto (pc' := 5) X0 hx (hb hby d3_34) (by decide) (by decide) ?_
  refine o_iload (pc' := 7) X0 hx (hb hby d3_5) rfl rfl ?_
  refine o_aloadN (pc' := 8) X0 hx (hb hby d3_7) rfl rfl rfl ?_
  refine o_len (pc' := 9) (n := (2 : Int32)) X0 hx hZ e0 A (by rw [C.1]; decide) (hb hby d3_8) rfl ?_
  refine o_icmp_ge (p1 := 12) (p2 := 37) X0 hx (hb hby d3_9) rfl (by decide) (by decide) (fun hc9 => ?_) (fun hc9 => absurd hc9 (by decide))
  refine o_dloadN (pc' := 38) X0 hx (hb hby d3_37) rfl rfl ?_
  exact o_retD X0 hx hlk hret (hb hby d3_38) ⟨rfl, rfl, e0⟩ (by decide) (by decide)
abbrev QS3 (Z : State) (a b : Addr) (ca cb : Cell) (ga gb : Nat → Int64) (h0 : Heap) (v : Option Value) (h : Heap) (L : List Loc) : Prop := v = some (.double (FP.l2d (fS ga gb 3))) ∧ L = [] ∧ h = h0
set_option maxRecDepth 65536 in
set_option maxHeartbeats 40000000 in
theorem rmS3 (l : Launch) (Z : State) (a0 : Array Value) (hw : ∀ d ∈ tables_1, d.before a0 Z = true) (a b : Addr) (ca cb : Cell) (ga gb : Nat → Int64) (h0 : Heap) (A : Arr Z h0 a ca .double) (C : Cont ca 3 (fun k => .double (FP.l2d (ga k)))) (B : Arr Z h0 b cb .double) (D : Cont cb 3 (fun k => .double (FP.l2d (gb k)))) (ha : Bd ga) (hb' : Bd gb) :
    Con l Z (⟨"com/example/shiftwise/shiftwise/SubPopulation", "squaredDistance", "([D[D)D"⟩ : MethodName) prog_41_method_25_code 7 (some .double) ({ frames := 0, cells := 0, slots := 0, locals := 0 } : Room) #[(.ref a), (.ref b)] h0 (QS3 Z a b ca cb ga gb h0) := by
  refine Con.of pn_3 (fun p e s m below meth c T0 X0 hx hby hml hret hlk hown hnm hZ e0 => ?_)
  replace hown : s.vm.findClass "com/example/shiftwise/shiftwise/SubPopulation" = some m.cls := hown
  have ef : entryFrame m #[(.ref a), (.ref b)] 7 = mkF m 0 #[.val (.ref a), .val (.ref b), .unset, .unset, .unset, .unset, .unset] [] := by first | (simp [entryFrame, mkF, argsToLocals, Value.category]; done) | rfl
  rw [ef]
  refine o_dconst0 (pc' := 1) (v := FP.l2d (fS ga gb 0)) X0 hx (hb hby d3_0) own_d0 rfl ?_
  refine o_dstoreN (Ls' := #[.val (.ref a), .val (.ref b), .val (.double (FP.l2d (fS ga gb 0))), .second, .unset, .unset, .unset]) (pc' := 2) X0 hx (hb hby d3_1) rfl rfl ?_
  refine o_iconst (v := (0 : Int32)) (pc' := 3) X0 hx (hb hby d3_2) (by decide) rfl ?_
  refine o_istore (Ls' := #[.val (.ref a), .val (.ref b), .val (.double (FP.l2d (fS ga gb 0))), .second, .val (.int (0 : Int32)), .unset, .unset]) (pc' := 5) X0 hx (hb hby d3_3) rfl rfl ?_
  refine o_iload (pc' := 7) X0 hx (hb hby d3_5) rfl rfl ?_
  refine o_aloadN (pc' := 8) X0 hx (hb hby d3_7) rfl rfl rfl ?_
  refine o_len (pc' := 9) (n := (3 : Int32)) X0 hx hZ e0 A (by rw [C.1]; decide) (hb hby d3_8) rfl ?_
  refine o_icmp_ge (p1 := 12) (p2 := 37) X0 hx (hb hby d3_9) rfl (by decide) (by decide) (fun hc9 => absurd (by decide) hc9) (fun hc9 => ?_)
  refine o_aloadN (pc' := 13) X0 hx (hb hby d3_12) rfl rfl rfl ?_
  refine o_iload (pc' := 15) X0 hx (hb hby d3_13) rfl rfl ?_
  refine o_daload (pc' := 16) (v := .double (FP.l2d (ga 0))) X0 hx hZ e0 A (C.inb (by decide) (by decide)) ((C.at (j := (0 : Int32)) (by decide) (by decide)).trans rfl) (hb hby d3_15) rfl ?_
  refine o_aloadN (pc' := 17) X0 hx (hb hby d3_16) rfl rfl rfl ?_
  refine o_iload (pc' := 19) X0 hx (hb hby d3_17) rfl rfl ?_
  refine o_daload (pc' := 20) (v := .double (FP.l2d (gb 0))) X0 hx hZ e0 B (D.inb (by decide) (by decide)) ((D.at (j := (0 : Int32)) (by decide) (by decide)).trans rfl) (hb hby d3_19) rfl ?_
  refine o_dsub (pc' := 21) (v := FP.l2d (ga 0 - gb 0)) X0 hx (hb hby d3_20) (dsub_w (own_b ha 0) (own_b hb' 0)) (nn_w rfl) rfl ?_
  refine o_dstore (Ls' := #[.val (.ref a), .val (.ref b), .val (.double (FP.l2d (fS ga gb 0))), .second, .val (.int (0 : Int32)), .val (.double (FP.l2d (ga 0 - gb 0))), .second]) (pc' := 23) X0 hx (hb hby d3_21) rfl rfl ?_
  refine o_dloadN (pc' := 24) X0 hx (hb hby d3_23) rfl rfl ?_
  refine o_dload (pc' := 26) X0 hx (hb hby d3_24) rfl rfl ?_
  refine o_dload (pc' := 28) X0 hx (hb hby d3_26) rfl rfl ?_
  refine o_dmul (pc' := 29) (v := FP.l2d (dq (ga 0) (gb 0))) X0 hx (hb hby d3_28) (own_mul ha hb' 0) (nn_w rfl) rfl ?_
  refine o_dadd (pc' := 30) (v := FP.l2d (fS ga gb 1)) X0 hx (hb hby d3_29) (own_add ha hb' 0 (by decide)) (nn_w rfl) rfl ?_
  refine o_dstoreN (Ls' := #[.val (.ref a), .val (.ref b), .val (.double (FP.l2d (fS ga gb 1))), .second, .val (.int (0 : Int32)), .val (.double (FP.l2d (ga 0 - gb 0))), .second]) (pc' := 31) X0 hx (hb hby d3_30) rfl rfl ?_
  refine o_iinc (Ls' := #[.val (.ref a), .val (.ref b), .val (.double (FP.l2d (fS ga gb 1))), .second, .val (.int (1 : Int32)), .val (.double (FP.l2d (ga 0 - gb 0))), .second]) (v' := (1 : Int32)) (pc' := 34) X0 hx (hb hby d3_31) rfl (by decide) rfl rfl ?_
  refine o_goto (pc' := 5) X0 hx (hb hby d3_34) (by decide) (by decide) ?_
  refine o_iload (pc' := 7) X0 hx (hb hby d3_5) rfl rfl ?_
  refine o_aloadN (pc' := 8) X0 hx (hb hby d3_7) rfl rfl rfl ?_
  refine o_len (pc' := 9) (n := (3 : Int32)) X0 hx hZ e0 A (by rw [C.1]; decide) (hb hby d3_8) rfl ?_
  refine o_icmp_ge (p1 := 12) (p2 := 37) X0 hx (hb hby d3_9) rfl (by decide) (by decide) (fun hc9 => absurd (by decide) hc9) (fun hc9 => ?_)
  refine o_aloadN (pc' := 13) X0 hx (hb hby d3_12) rfl rfl rfl ?_
  refine o_iload (pc' := 15) X0 hx (hb hby d3_13) rfl rfl ?_
  refine o_daload (pc' := 16) (v := .double (FP.l2d (ga 1))) X0 hx hZ e0 A (C.inb (by decide) (by decide)) ((C.at (j := (1 : Int32)) (by decide) (by decide)).trans rfl) (hb hby d3_15) rfl ?_
  refine o_aloadN (pc' := 17) X0 hx (hb hby d3_16) rfl rfl rfl ?_
  refine o_iload (pc' := 19) X0 hx (hb hby d3_17) rfl rfl ?_
  refine o_daload (pc' := 20) (v := .double (FP.l2d (gb 1))) X0 hx hZ e0 B (D.inb (by decide) (by decide)) ((D.at (j := (1 : Int32)) (by decide) (by decide)).trans rfl) (hb hby d3_19) rfl ?_
  refine o_dsub (pc' := 21) (v := FP.l2d (ga 1 - gb 1)) X0 hx (hb hby d3_20) (dsub_w (own_b ha 1) (own_b hb' 1)) (nn_w rfl) rfl ?_
  refine o_dstore (Ls' := #[.val (.ref a), .val (.ref b), .val (.double (FP.l2d (fS ga gb 1))), .second, .val (.int (1 : Int32)), .val (.double (FP.l2d (ga 1 - gb 1))), .second]) (pc' := 23) X0 hx (hb hby d3_21) rfl rfl ?_
  refine o_dloadN (pc' := 24) X0 hx (hb hby d3_23) rfl rfl ?_
  refine o_dload (pc' := 26) X0 hx (hb hby d3_24) rfl rfl ?_
  refine o_dload (pc' := 28) X0 hx (hb hby d3_26) rfl rfl ?_
  refine o_dmul (pc' := 29) (v := FP.l2d (dq (ga 1) (gb 1))) X0 hx (hb hby d3_28) (own_mul ha hb' 1) (nn_w rfl) rfl ?_
  refine o_dadd (pc' := 30) (v := FP.l2d (fS ga gb 2)) X0 hx (hb hby d3_29) (own_add ha hb' 1 (by decide)) (nn_w rfl) rfl ?_
  refine o_dstoreN (Ls' := #[.val (.ref a), .val (.ref b), .val (.double (FP.l2d (fS ga gb 2))), .second, .val (.int (1 : Int32)), .val (.double (FP.l2d (ga 1 - gb 1))), .second]) (pc' := 31) X0 hx (hb hby d3_30) rfl rfl ?_
  refine o_iinc (Ls' := #[.val (.ref a), .val (.ref b), .val (.double (FP.l2d (fS ga gb 2))), .second, .val (.int (2 : Int32)), .val (.double (FP.l2d (ga 1 - gb 1))), .second]) (v' := (2 : Int32)) (pc' := 34) X0 hx (hb hby d3_31) rfl (by decide) rfl rfl ?_
  refine o_goto (pc' := 5) X0 hx (hb hby d3_34) (by decide) (by decide) ?_
  refine o_iload (pc' := 7) X0 hx (hb hby d3_5) rfl rfl ?_
  refine o_aloadN (pc' := 8) X0 hx (hb hby d3_7) rfl rfl rfl ?_
  refine o_len (pc' := 9) (n := (3 : Int32)) X0 hx hZ e0 A (by rw [C.1]; decide) (hb hby d3_8) rfl ?_
  refine o_icmp_ge (p1 := 12) (p2 := 37) X0 hx (hb hby d3_9) rfl (by decide) (by decide) (fun hc9 => absurd (by decide) hc9) (fun hc9 => ?_)
  refine o_aloadN (pc' := 13) X0 hx (hb hby d3_12) rfl rfl rfl ?_
  refine o_iload (pc' := 15) X0 hx (hb hby d3_13) rfl rfl ?_
  refine o_daload (pc' := 16) (v := .double (FP.l2d (ga 2))) X0 hx hZ e0 A (C.inb (by decide) (by decide)) ((C.at (j := (2 : Int32)) (by decide) (by decide)).trans rfl) (hb hby d3_15) rfl ?_
  refine o_aloadN (pc' := 17) X0 hx (hb hby d3_16) rfl rfl rfl ?_
  refine o_iload (pc' := 19) X0 hx (hb hby d3_17) rfl rfl ?_
  refine o_daload (pc' := 20) (v := .double (FP.l2d (gb 2))) X0 hx hZ e0 B (D.inb (by decide) (by decide)) ((D.at (j := (2 : Int32)) (by decide) (by decide)).trans rfl) (hb hby d3_19) rfl ?_
  refine o_dsub (pc' := 21) (v := FP.l2d (ga 2 - gb 2)) X0 hx (hb hby d3_20) (dsub_w (own_b ha 2) (own_b hb' 2)) (nn_w rfl) rfl ?_
  refine o_dstore (Ls' := #[.val (.ref a), .val (.ref b), .val (.double (FP.l2d (fS ga gb 2))), .second, .val (.int (2 : Int32)), .val (.double (FP.l2d (ga 2 - gb 2))), .second]) (pc' := 23) X0 hx (hb hby d3_21) rfl rfl ?_
  refine o_dloadN (pc' := 24) X0 hx (hb hby d3_23) rfl rfl ?_
  refine o_dload (pc' := 26) X0 hx (hb hby d3_24) rfl rfl ?_
  refine o_dload (pc' := 28) X0 hx (hb hby d3_26) rfl rfl ?_
  refine o_dmul (pc' := 29) (v := FP.l2d (dq (ga 2) (gb 2))) X0 hx (hb hby d3_28) (own_mul ha hb' 2) (nn_w rfl) rfl ?_
  refine o_dadd (pc' := 30) (v := FP.l2d (fS ga gb 3)) X0 hx (hb hby d3_29) (own_add ha hb' 2 (by decide)) (nn_w rfl) rfl ?_
  refine o_dstoreN (Ls' := #[.val (.ref a), .val (.ref b), .val (.double (FP.l2d (fS ga gb 3))), .second, .val (.int (2 : Int32)), .val (.double (FP.l2d (ga 2 - gb 2))), .second]) (pc' := 31) X0 hx (hb hby d3_30) rfl rfl ?_
  refine o_iinc (Ls' := #[.val (.ref a), .val (.ref b), .val (.double (FP.l2d (fS ga gb 3))), .second, .val (.int (3 : Int32)), .val (.double (FP.l2d (ga 2 - gb 2))), .second]) (v' := (3 : Int32)) (pc' := 34) X0 hx (hb hby d3_31) rfl (by decide) rfl rfl ?_
  refine o_goto (pc' := 5) X0 hx (hb hby d3_34) (by decide) (by decide) ?_
  refine o_iload (pc' := 7) X0 hx (hb hby d3_5) rfl rfl ?_
  refine o_aloadN (pc' := 8) X0 hx (hb hby d3_7) rfl rfl rfl ?_
  refine o_len (pc' := 9) (n := (3 : Int32)) X0 hx hZ e0 A (by rw [C.1]; decide) (hb hby d3_8) rfl ?_
  refine o_icmp_ge (p1 := 12) (p2 := 37) X0 hx (hb hby d3_9) rfl (by decide) (by decide) (fun hc9 => ?_) (fun hc9 => absurd hc9 (by decide))
  refine o_dloadN (pc' := 38) X0 hx (hb hby d3_37) rfl rfl ?_
  exact o_retD X0 hx hlk hret (hb hby d3_38) ⟨rfl, rfl, e0⟩ (by decide) (by decide)
abbrev QS4 (Z : State) (a b : Addr) (ca cb : Cell) (ga gb : Nat → Int64) (h0 : Heap) (v : Option Value) (h : Heap) (L : List Loc) : Prop := v = some (.double (FP.l2d (fS ga gb 4))) ∧ L = [] ∧ h = h0
set_option maxRecDepth 65536 in
set_option maxHeartbeats 40000000 in
theorem rmS4 (l : Launch) (Z : State) (a0 : Array Value) (hw : ∀ d ∈ tables_1, d.before a0 Z = true) (a b : Addr) (ca cb : Cell) (ga gb : Nat → Int64) (h0 : Heap) (A : Arr Z h0 a ca .double) (C : Cont ca 4 (fun k => .double (FP.l2d (ga k)))) (B : Arr Z h0 b cb .double) (D : Cont cb 4 (fun k => .double (FP.l2d (gb k)))) (ha : Bd ga) (hb' : Bd gb) :
    Con l Z (⟨"com/example/shiftwise/shiftwise/SubPopulation", "squaredDistance", "([D[D)D"⟩ : MethodName) prog_41_method_25_code 7 (some .double) ({ frames := 0, cells := 0, slots := 0, locals := 0 } : Room) #[(.ref a), (.ref b)] h0 (QS4 Z a b ca cb ga gb h0) := by
  refine Con.of pn_3 (fun p e s m below meth c T0 X0 hx hby hml hret hlk hown hnm hZ e0 => ?_)
  replace hown : s.vm.findClass "com/example/shiftwise/shiftwise/SubPopulation" = some m.cls := hown
  have ef : entryFrame m #[(.ref a), (.ref b)] 7 = mkF m 0 #[.val (.ref a), .val (.ref b), .unset, .unset, .unset, .unset, .unset] [] := by first | (simp [entryFrame, mkF, argsToLocals, Value.category]; done) | rfl
  rw [ef]
  refine o_dconst0 (pc' := 1) (v := FP.l2d (fS ga gb 0)) X0 hx (hb hby d3_0) own_d0 rfl ?_
  refine o_dstoreN (Ls' := #[.val (.ref a), .val (.ref b), .val (.double (FP.l2d (fS ga gb 0))), .second, .unset, .unset, .unset]) (pc' := 2) X0 hx (hb hby d3_1) rfl rfl ?_
  refine o_iconst (v := (0 : Int32)) (pc' := 3) X0 hx (hb hby d3_2) (by decide) rfl ?_
  refine o_istore (Ls' := #[.val (.ref a), .val (.ref b), .val (.double (FP.l2d (fS ga gb 0))), .second, .val (.int (0 : Int32)), .unset, .unset]) (pc' := 5) X0 hx (hb hby d3_3) rfl rfl ?_
  refine o_iload (pc' := 7) X0 hx (hb hby d3_5) rfl rfl ?_
  refine o_aloadN (pc' := 8) X0 hx (hb hby d3_7) rfl rfl rfl ?_
  refine o_len (pc' := 9) (n := (4 : Int32)) X0 hx hZ e0 A (by rw [C.1]; decide) (hb hby d3_8) rfl ?_
  refine o_icmp_ge (p1 := 12) (p2 := 37) X0 hx (hb hby d3_9) rfl (by decide) (by decide) (fun hc9 => absurd (by decide) hc9) (fun hc9 => ?_)
  refine o_aloadN (pc' := 13) X0 hx (hb hby d3_12) rfl rfl rfl ?_
  refine o_iload (pc' := 15) X0 hx (hb hby d3_13) rfl rfl ?_
  refine o_daload (pc' := 16) (v := .double (FP.l2d (ga 0))) X0 hx hZ e0 A (C.inb (by decide) (by decide)) ((C.at (j := (0 : Int32)) (by decide) (by decide)).trans rfl) (hb hby d3_15) rfl ?_
  refine o_aloadN (pc' := 17) X0 hx (hb hby d3_16) rfl rfl rfl ?_
  refine o_iload (pc' := 19) X0 hx (hb hby d3_17) rfl rfl ?_
  refine o_daload (pc' := 20) (v := .double (FP.l2d (gb 0))) X0 hx hZ e0 B (D.inb (by decide) (by decide)) ((D.at (j := (0 : Int32)) (by decide) (by decide)).trans rfl) (hb hby d3_19) rfl ?_
  refine o_dsub (pc' := 21) (v := FP.l2d (ga 0 - gb 0)) X0 hx (hb hby d3_20) (dsub_w (own_b ha 0) (own_b hb' 0)) (nn_w rfl) rfl ?_
  refine o_dstore (Ls' := #[.val (.ref a), .val (.ref b), .val (.double (FP.l2d (fS ga gb 0))), .second, .val (.int (0 : Int32)), .val (.double (FP.l2d (ga 0 - gb 0))), .second]) (pc' := 23) X0 hx (hb hby d3_21) rfl rfl ?_
  refine o_dloadN (pc' := 24) X0 hx (hb hby d3_23) rfl rfl ?_
  refine o_dload (pc' := 26) X0 hx (hb hby d3_24) rfl rfl ?_
  refine o_dload (pc' := 28) X0 hx (hb hby d3_26) rfl rfl ?_
  refine o_dmul (pc' := 29) (v := FP.l2d (dq (ga 0) (gb 0))) X0 hx (hb hby d3_28) (own_mul ha hb' 0) (nn_w rfl) rfl ?_
  refine o_dadd (pc' := 30) (v := FP.l2d (fS ga gb 1)) X0 hx (hb hby d3_29) (own_add ha hb' 0 (by decide)) (nn_w rfl) rfl ?_
  refine o_dstoreN (Ls' := #[.val (.ref a), .val (.ref b), .val (.double (FP.l2d (fS ga gb 1))), .second, .val (.int (0 : Int32)), .val (.double (FP.l2d (ga 0 - gb 0))), .second]) (pc' := 31) X0 hx (hb hby d3_30) rfl rfl ?_
  refine o_iinc (Ls' := #[.val (.ref a), .val (.ref b), .val (.double (FP.l2d (fS ga gb 1))), .second, .val (.int (1 : Int32)), .val (.double (FP.l2d (ga 0 - gb 0))), .second]) (v' := (1 : Int32)) (pc' := 34) X0 hx (hb hby d3_31) rfl (by decide) rfl rfl ?_
  refine o_goto (pc' := 5) X0 hx (hb hby d3_34) (by decide) (by decide) ?_
  refine o_iload (pc' := 7) X0 hx (hb hby d3_5) rfl rfl ?_
  refine o_aloadN (pc' := 8) X0 hx (hb hby d3_7) rfl rfl rfl ?_
  refine o_len (pc' := 9) (n := (4 : Int32)) X0 hx hZ e0 A (by rw [C.1]; decide) (hb hby d3_8) rfl ?_
  refine o_icmp_ge (p1 := 12) (p2 := 37) X0 hx (hb hby d3_9) rfl (by decide) (by decide) (fun hc9 => absurd (by decide) hc9) (fun hc9 => ?_)
  refine o_aloadN (pc' := 13) X0 hx (hb hby d3_12) rfl rfl rfl ?_
  refine o_iload (pc' := 15) X0 hx (hb hby d3_13) rfl rfl ?_
  refine o_daload (pc' := 16) (v := .double (FP.l2d (ga 1))) X0 hx hZ e0 A (C.inb (by decide) (by decide)) ((C.at (j := (1 : Int32)) (by decide) (by decide)).trans rfl) (hb hby d3_15) rfl ?_
  refine o_aloadN (pc' := 17) X0 hx (hb hby d3_16) rfl rfl rfl ?_
  refine o_iload (pc' := 19) X0 hx (hb hby d3_17) rfl rfl ?_
  refine o_daload (pc' := 20) (v := .double (FP.l2d (gb 1))) X0 hx hZ e0 B (D.inb (by decide) (by decide)) ((D.at (j := (1 : Int32)) (by decide) (by decide)).trans rfl) (hb hby d3_19) rfl ?_
  refine o_dsub (pc' := 21) (v := FP.l2d (ga 1 - gb 1)) X0 hx (hb hby d3_20) (dsub_w (own_b ha 1) (own_b hb' 1)) (nn_w rfl) rfl ?_
  refine o_dstore (Ls' := #[.val (.ref a), .val (.ref b), .val (.double (FP.l2d (fS ga gb 1))), .second, .val (.int (1 : Int32)), .val (.double (FP.l2d (ga 1 - gb 1))), .second]) (pc' := 23) X0 hx (hb hby d3_21) rfl rfl ?_
  refine o_dloadN (pc' := 24) X0 hx (hb hby d3_23) rfl rfl ?_
  refine o_dload (pc' := 26) X0 hx (hb hby d3_24) rfl rfl ?_
  refine o_dload (pc' := 28) X0 hx (hb hby d3_26) rfl rfl ?_
  refine o_dmul (pc' := 29) (v := FP.l2d (dq (ga 1) (gb 1))) X0 hx (hb hby d3_28) (own_mul ha hb' 1) (nn_w rfl) rfl ?_
  refine o_dadd (pc' := 30) (v := FP.l2d (fS ga gb 2)) X0 hx (hb hby d3_29) (own_add ha hb' 1 (by decide)) (nn_w rfl) rfl ?_
  refine o_dstoreN (Ls' := #[.val (.ref a), .val (.ref b), .val (.double (FP.l2d (fS ga gb 2))), .second, .val (.int (1 : Int32)), .val (.double (FP.l2d (ga 1 - gb 1))), .second]) (pc' := 31) X0 hx (hb hby d3_30) rfl rfl ?_
  refine o_iinc (Ls' := #[.val (.ref a), .val (.ref b), .val (.double (FP.l2d (fS ga gb 2))), .second, .val (.int (2 : Int32)), .val (.double (FP.l2d (ga 1 - gb 1))), .second]) (v' := (2 : Int32)) (pc' := 34) X0 hx (hb hby d3_31) rfl (by decide) rfl rfl ?_
  refine o_goto (pc' := 5) X0 hx (hb hby d3_34) (by decide) (by decide) ?_
  refine o_iload (pc' := 7) X0 hx (hb hby d3_5) rfl rfl ?_
  refine o_aloadN (pc' := 8) X0 hx (hb hby d3_7) rfl rfl rfl ?_
  refine o_len (pc' := 9) (n := (4 : Int32)) X0 hx hZ e0 A (by rw [C.1]; decide) (hb hby d3_8) rfl ?_
  refine o_icmp_ge (p1 := 12) (p2 := 37) X0 hx (hb hby d3_9) rfl (by decide) (by decide) (fun hc9 => absurd (by decide) hc9) (fun hc9 => ?_)
  refine o_aloadN (pc' := 13) X0 hx (hb hby d3_12) rfl rfl rfl ?_
  refine o_iload (pc' := 15) X0 hx (hb hby d3_13) rfl rfl ?_
  refine o_daload (pc' := 16) (v := .double (FP.l2d (ga 2))) X0 hx hZ e0 A (C.inb (by decide) (by decide)) ((C.at (j := (2 : Int32)) (by decide) (by decide)).trans rfl) (hb hby d3_15) rfl ?_
  refine o_aloadN (pc' := 17) X0 hx (hb hby d3_16) rfl rfl rfl ?_
  refine o_iload (pc' := 19) X0 hx (hb hby d3_17) rfl rfl ?_
  refine o_daload (pc' := 20) (v := .double (FP.l2d (gb 2))) X0 hx hZ e0 B (D.inb (by decide) (by decide)) ((D.at (j := (2 : Int32)) (by decide) (by decide)).trans rfl) (hb hby d3_19) rfl ?_
  refine o_dsub (pc' := 21) (v := FP.l2d (ga 2 - gb 2)) X0 hx (hb hby d3_20) (dsub_w (own_b ha 2) (own_b hb' 2)) (nn_w rfl) rfl ?_
  refine o_dstore (Ls' := #[.val (.ref a), .val (.ref b), .val (.double (FP.l2d (fS ga gb 2))), .second, .val (.int (2 : Int32)), .val (.double (FP.l2d (ga 2 - gb 2))), .second]) (pc' := 23) X0 hx (hb hby d3_21) rfl rfl ?_
  refine o_dloadN (pc' := 24) X0 hx (hb hby d3_23) rfl rfl ?_
  refine o_dload (pc' := 26) X0 hx (hb hby d3_24) rfl rfl ?_
  refine o_dload (pc' := 28) X0 hx (hb hby d3_26) rfl rfl ?_
  refine o_dmul (pc' := 29) (v := FP.l2d (dq (ga 2) (gb 2))) X0 hx (hb hby d3_28) (own_mul ha hb' 2) (nn_w rfl) rfl ?_
  refine o_dadd (pc' := 30) (v := FP.l2d (fS ga gb 3)) X0 hx (hb hby d3_29) (own_add ha hb' 2 (by decide)) (nn_w rfl) rfl ?_
  refine o_dstoreN (Ls' := #[.val (.ref a), .val (.ref b), .val (.double (FP.l2d (fS ga gb 3))), .second, .val (.int (2 : Int32)), .val (.double (FP.l2d (ga 2 - gb 2))), .second]) (pc' := 31) X0 hx (hb hby d3_30) rfl rfl ?_
  refine o_iinc (Ls' := #[.val (.ref a), .val (.ref b), .val (.double (FP.l2d (fS ga gb 3))), .second, .val (.int (3 : Int32)), .val (.double (FP.l2d (ga 2 - gb 2))), .second]) (v' := (3 : Int32)) (pc' := 34) X0 hx (hb hby d3_31) rfl (by decide) rfl rfl ?_
  refine o_goto (pc' := 5) X0 hx (hb hby d3_34) (by decide) (by decide) ?_
  refine o_iload (pc' := 7) X0 hx (hb hby d3_5) rfl rfl ?_
  refine o_aloadN (pc' := 8) X0 hx (hb hby d3_7) rfl rfl rfl ?_
  refine o_len (pc' := 9) (n := (4 : Int32)) X0 hx hZ e0 A (by rw [C.1]; decide) (hb hby d3_8) rfl ?_
  refine o_icmp_ge (p1 := 12) (p2 := 37) X0 hx (hb hby d3_9) rfl (by decide) (by decide) (fun hc9 => absurd (by decide) hc9) (fun hc9 => ?_)
  refine o_aloadN (pc' := 13) X0 hx (hb hby d3_12) rfl rfl rfl ?_
  refine o_iload (pc' := 15) X0 hx (hb hby d3_13) rfl rfl ?_
  refine o_daload (pc' := 16) (v := .double (FP.l2d (ga 3))) X0 hx hZ e0 A (C.inb (by decide) (by decide)) ((C.at (j := (3 : Int32)) (by decide) (by decide)).trans rfl) (hb hby d3_15) rfl ?_
  refine o_aloadN (pc' := 17) X0 hx (hb hby d3_16) rfl rfl rfl ?_
  refine o_iload (pc' := 19) X0 hx (hb hby d3_17) rfl rfl ?_
  refine o_daload (pc' := 20) (v := .double (FP.l2d (gb 3))) X0 hx hZ e0 B (D.inb (by decide) (by decide)) ((D.at (j := (3 : Int32)) (by decide) (by decide)).trans rfl) (hb hby d3_19) rfl ?_
  refine o_dsub (pc' := 21) (v := FP.l2d (ga 3 - gb 3)) X0 hx (hb hby d3_20) (dsub_w (own_b ha 3) (own_b hb' 3)) (nn_w rfl) rfl ?_
  refine o_dstore (Ls' := #[.val (.ref a), .val (.ref b), .val (.double (FP.l2d (fS ga gb 3))), .second, .val (.int (3 : Int32)), .val (.double (FP.l2d (ga 3 - gb 3))), .second]) (pc' := 23) X0 hx (hb hby d3_21) rfl rfl ?_
  refine o_dloadN (pc' := 24) X0 hx (hb hby d3_23) rfl rfl ?_
  refine o_dload (pc' := 26) X0 hx (hb hby d3_24) rfl rfl ?_
  refine o_dload (pc' := 28) X0 hx (hb hby d3_26) rfl rfl ?_
  refine o_dmul (pc' := 29) (v := FP.l2d (dq (ga 3) (gb 3))) X0 hx (hb hby d3_28) (own_mul ha hb' 3) (nn_w rfl) rfl ?_
  refine o_dadd (pc' := 30) (v := FP.l2d (fS ga gb 4)) X0 hx (hb hby d3_29) (own_add ha hb' 3 (by decide)) (nn_w rfl) rfl ?_
  refine o_dstoreN (Ls' := #[.val (.ref a), .val (.ref b), .val (.double (FP.l2d (fS ga gb 4))), .second, .val (.int (3 : Int32)), .val (.double (FP.l2d (ga 3 - gb 3))), .second]) (pc' := 31) X0 hx (hb hby d3_30) rfl rfl ?_
  refine o_iinc (Ls' := #[.val (.ref a), .val (.ref b), .val (.double (FP.l2d (fS ga gb 4))), .second, .val (.int (4 : Int32)), .val (.double (FP.l2d (ga 3 - gb 3))), .second]) (v' := (4 : Int32)) (pc' := 34) X0 hx (hb hby d3_31) rfl (by decide) rfl rfl ?_
  refine o_goto (pc' := 5) X0 hx (hb hby d3_34) (by decide) (by decide) ?_
  refine o_iload (pc' := 7) X0 hx (hb hby d3_5) rfl rfl ?_
  refine o_aloadN (pc' := 8) X0 hx (hb hby d3_7) rfl rfl rfl ?_
  refine o_len (pc' := 9) (n := (4 : Int32)) X0 hx hZ e0 A (by rw [C.1]; decide) (hb hby d3_8) rfl ?_
  refine o_icmp_ge (p1 := 12) (p2 := 37) X0 hx (hb hby d3_9) rfl (by decide) (by decide) (fun hc9 => ?_) (fun hc9 => absurd hc9 (by decide))
  refine o_dloadN (pc' := 38) X0 hx (hb hby d3_37) rfl rfl ?_
  exact o_retD X0 hx hlk hret (hb hby d3_38) ⟨rfl, rfl, e0⟩ (by decide) (by decide)
abbrev Q0 (Z : State) (p1 : Int32) (p2 p3 : Int64) (h0 : Heap) (v : Option Value) (h : Heap) (L : List Loc) : Prop := v = some (.int (1 : Int32)) ∧ Fr h0.size L
set_option maxRecDepth 65536 in
set_option maxHeartbeats 40000000 in
theorem rm0 (l : Launch) (Z : State) (a0 : Array Value) (hw : ∀ d ∈ tables_1, d.before a0 Z = true) (p1 : Int32) (p2 p3 : Int64) (h0 : Heap)  :
    Con l Z x code maxLocals ret room_1 #[(.int p1), (.long p2), (.long p3)] h0 (Q0 Z p1 p2 p3 h0) := by
  refine Con.of pn_0 (fun p e s m below meth c T0 X0 hx hby hml hret hlk hown hnm hZ e0 => ?_)
  replace hown : s.vm.findClass "com/example/shiftwise/shiftwise/SubPopulationSquaredDistancePinLaw" = some m.cls := hown
  have ef : entryFrame m #[(.int p1), (.long p2), (.long p3)] maxLocals = mkF m 0 #[.val (.int p1), .val (.long p2), .second, .val (.long p3), .second, .unset, .unset, .unset, .unset, .unset, .unset, .unset] [] := by first | (simp [entryFrame, mkF, argsToLocals, Value.category, maxLocals]; done) | rfl
  rw [ef]
  refine o_iloadN (pc' := 1) X0 hx (hb hby at_0) rfl rfl ?_
  refine o_ldc (pc' := 3) (v := (2147483647 : Int32)) X0 hx (hb hby at_1) hZ hown (hw _ (List.mem_of_getElem? (i := 0) rfl)) rfl ?_
  refine o_iand (pc' := 4) X0 hx (hb hby at_3) rfl ?_
  refine o_iconst (v := (5 : Int32)) (pc' := 5) X0 hx (hb hby at_4) (by decide) rfl ?_
  refine o_irem (pc' := 6) X0 hx (hb hby at_5) (by decide) rfl ?_
  generalize hk : (p1 &&& (2147483647 : Int32)) % (5 : Int32) = k
  refine o_istore (Ls' := #[.val (.int p1), .val (.long p2), .second, .val (.long p3), .second, .val (.int k), .unset, .unset, .unset, .unset, .unset, .unset]) (pc' := 8) X0 hx (hb hby at_6) rfl rfl ?_
  refine o_iload (pc' := 10) X0 hx (hb hby at_8) rfl rfl ?_
  have rk := own_rem (p1 &&& 2147483647) 5 5 (by decide) (by decide) (own_mask31 p1)
  rw [hk] at rk
  rcases (own_s5 k rk.1 rk.2) with rfl | rfl | rfl | rfl | rfl
  · refine o_newarr (pc' := 12) (cap := 0) X0 hx hZ (hw _ (List.mem_of_getElem? (i := 1) rfl)) e0 (hb hby at_10) rfl (by decide) (by decide) (by decide) (by decide) (by decide) ?_
    intro T10 h10 cA10 t gt e10 E10 At X10
    have Ct := Cont.new cA10 .double (0 : Int32) 0 (by decide)
    have qt : h0.size ≤ t := Nat.le_of_eq gt.symm
    have N := Fr.nil h0.size
    refine o_astore (Ls' := #[.val (.int p1), .val (.long p2), .second, .val (.long p3), .second, .val (.int (0 : Int32)), .val (.ref t), .unset, .unset, .unset, .unset, .unset]) (pc' := 14) X10 hx (hb hby at_12) rfl rfl rfl ?_
    refine o_iload (pc' := 16) X10 hx (hb hby at_14) rfl rfl ?_
    refine o_newarr (pc' := 18) (cap := 0) X10 hx hZ (hw _ (List.mem_of_getElem? (i := 1) rfl)) e10 (hb hby at_16) rfl (by decide) (by decide) (by decide) (by decide) (by decide) ?_
    intro T16 h16 cA16 u gu e16 E16 Au X16
    have Cu := Cont.new cA16 .double (0 : Int32) 0 (by decide)
    have qu : h0.size ≤ u := by rw [gu]; exact E10.1
    have htu : t ≠ u := by rw [gu]; exact Nat.ne_of_lt At.lt
    replace At := At.ext E16
    refine o_astore (Ls' := #[.val (.int p1), .val (.long p2), .second, .val (.long p3), .second, .val (.int (0 : Int32)), .val (.ref t), .val (.ref u), .unset, .unset, .unset, .unset]) (pc' := 20) X16 hx (hb hby at_18) rfl rfl rfl ?_
    refine o_aload (pc' := 22) X16 hx (hb hby at_20) rfl rfl rfl ?_
    refine o_lloadN (pc' := 23) X16 hx (hb hby at_22) rfl rfl ?_
    refine o_callS (W := 0) (pc' := 26) (rm := ({ frames := 1, cells := 0, slots := 0, locals := 16 } : Room)) (argsL := [(.ref t), (.long p2)]) (rest := []) X16 hx hZ hown (hw _ (List.mem_of_getElem? (i := 2) rfl)) (hw _ (List.mem_of_getElem? (i := 3) rfl)) (hw _ (List.mem_of_getElem? (i := 4) rfl)) (hw _ (List.mem_of_getElem? (i := 5) rfl)) (by decide) e16 (rmF0 l Z a0 hw t h0.size p2 _ h16 qt At Ct) (by rw [hml]; rfl) pd_1 rfl rfl (hb hby at_23) rfl (by decide) rfl (by decide) (by decide) (by decide) ?_
    rintro _ T23 L23 ⟨rfl, N1, K1, ct, At, Ct⟩ X23
    show Ends p e below s (Q0 Z p1 p2 p3 h0) room_1.cells room_1.slots (T23.setTop (mkF m 26 #[.val (.int p1), .val (.long p2), .second, .val (.long p3), .second, .val (.int (0 : Int32)), .val (.ref t), .val (.ref u), .unset, .unset, .unset, .unset] []))
    replace N := N.app N1
    replace Au := own_arrK Au K1 (ninS (Ne.symm htu) nin0)
    refine o_aload (pc' := 28) X23 hx (hb hby at_26) rfl rfl rfl ?_
    refine o_lloadN (pc' := 29) X23 hx (hb hby at_28) rfl rfl ?_
    refine o_callS (W := 0) (pc' := 32) (rm := ({ frames := 1, cells := 0, slots := 0, locals := 16 } : Room)) (argsL := [(.ref u), (.long p3)]) (rest := []) X23 hx hZ hown (hw _ (List.mem_of_getElem? (i := 2) rfl)) (hw _ (List.mem_of_getElem? (i := 3) rfl)) (hw _ (List.mem_of_getElem? (i := 4) rfl)) (hw _ (List.mem_of_getElem? (i := 5) rfl)) (by decide) rfl (rmF0 l Z a0 hw u h0.size p3 _ T23.heap qu Au Cu) (by rw [hml]; rfl) pd_1 rfl rfl (hb hby at_29) rfl (by decide) rfl (by decide) (by decide) (by decide) ?_
    rintro _ T29 L29 ⟨rfl, N2, K2, cu, Au, Cu⟩ X29
    show Ends p e below s (Q0 Z p1 p2 p3 h0) room_1.cells room_1.slots (T29.setTop (mkF m 32 #[.val (.int p1), .val (.long p2), .second, .val (.long p3), .second, .val (.int (0 : Int32)), .val (.ref t), .val (.ref u), .unset, .unset, .unset, .unset] []))
    replace N := N.app N2
    replace At := own_arrK At K2 (ninS htu nin0)
    obtain ⟨hp, ehp⟩ : ∃ hp, T29.heap = hp := ⟨_, rfl⟩
    rw [ehp] at At Au
    refine o_lloadN (pc' := 33) X29 hx (hb hby at_32) rfl rfl ?_
    refine o_lloadN (pc' := 34) X29 hx (hb hby at_33) rfl rfl ?_
    refine o_iconst (v := (0 : Int32)) (pc' := 35) X29 hx (hb hby at_34) (by decide) rfl ?_
    refine o_iload (pc' := 37) X29 hx (hb hby at_35) rfl rfl ?_
    refine o_callS (W := 0) (pc' := 40) (rm := ({ frames := 1, cells := 0, slots := 0, locals := 16 } : Room)) (argsL := [(.long p2), (.long p3), (.int (0 : Int32)), (.int (0 : Int32))]) (rest := []) X29 hx hZ hown (hw _ (List.mem_of_getElem? (i := 6) rfl)) (hw _ (List.mem_of_getElem? (i := 7) rfl)) (hw _ (List.mem_of_getElem? (i := 4) rfl)) (hw _ (List.mem_of_getElem? (i := 8) rfl)) (by decide) ehp (rm2 l Z a0 hw p2 p3 (0 : Int32) (0 : Int32) hp) (by rw [hml]; rfl) pd_2 rfl rfl (hb hby at_37) rfl (by decide) rfl (by decide) (by decide) (by decide) ?_
    rintro _ T37 L37 ⟨rfl, rfl, e37⟩ X37
    show Ends p e below s (Q0 Z p1 p2 p3 h0) room_1.cells room_1.slots (T37.setTop (mkF m 40 #[.val (.int p1), .val (.long p2), .second, .val (.long p3), .second, .val (.int (0 : Int32)), .val (.ref t), .val (.ref u), .unset, .unset, .unset, .unset] [(.long (fte p2 p3 (0 : Int32) (0 : Int32)))]))
    refine o_lloadN (pc' := 41) X37 hx (hb hby at_40) rfl rfl ?_
    refine o_lloadN (pc' := 42) X37 hx (hb hby at_41) rfl rfl ?_
    refine o_iconst (v := (1 : Int32)) (pc' := 43) X37 hx (hb hby at_42) (by decide) rfl ?_
    refine o_iload (pc' := 45) X37 hx (hb hby at_43) rfl rfl ?_
    refine o_callS (W := 2) (pc' := 48) (rm := ({ frames := 1, cells := 0, slots := 0, locals := 16 } : Room)) (argsL := [(.long p2), (.long p3), (.int (1 : Int32)), (.int (0 : Int32))]) (rest := [(.long (fte p2 p3 (0 : Int32) (0 : Int32)))]) X37 hx hZ hown (hw _ (List.mem_of_getElem? (i := 6) rfl)) (hw _ (List.mem_of_getElem? (i := 7) rfl)) (hw _ (List.mem_of_getElem? (i := 4) rfl)) (hw _ (List.mem_of_getElem? (i := 8) rfl)) (by decide) e37 (rm2 l Z a0 hw p2 p3 (1 : Int32) (0 : Int32) hp) (by rw [hml]; rfl) pd_2 rfl rfl (hb hby at_45) rfl (by decide) rfl (by decide) (by decide) (by decide) ?_
    rintro _ T45 L45 ⟨rfl, rfl, e45⟩ X45
    show Ends p e below s (Q0 Z p1 p2 p3 h0) room_1.cells room_1.slots (T45.setTop (mkF m 48 #[.val (.int p1), .val (.long p2), .second, .val (.long p3), .second, .val (.int (0 : Int32)), .val (.ref t), .val (.ref u), .unset, .unset, .unset, .unset] [(.long (fte p2 p3 (1 : Int32) (0 : Int32))), (.long (fte p2 p3 (0 : Int32) (0 : Int32)))]))
    refine o_ladd (pc' := 49) X45 hx (hb hby at_48) rfl ?_
    refine o_lloadN (pc' := 50) X45 hx (hb hby at_49) rfl rfl ?_
    refine o_lloadN (pc' := 51) X45 hx (hb hby at_50) rfl rfl ?_
    refine o_iconst (v := (2 : Int32)) (pc' := 52) X45 hx (hb hby at_51) (by decide) rfl ?_
    refine o_iload (pc' := 54) X45 hx (hb hby at_52) rfl rfl ?_
    refine o_callS (W := 2) (pc' := 57) (rm := ({ frames := 1, cells := 0, slots := 0, locals := 16 } : Room)) (argsL := [(.long p2), (.long p3), (.int (2 : Int32)), (.int (0 : Int32))]) (rest := [(.long ((fte p2 p3 (0 : Int32) (0 : Int32)) + (fte p2 p3 (1 : Int32) (0 : Int32))))]) X45 hx hZ hown (hw _ (List.mem_of_getElem? (i := 6) rfl)) (hw _ (List.mem_of_getElem? (i := 7) rfl)) (hw _ (List.mem_of_getElem? (i := 4) rfl)) (hw _ (List.mem_of_getElem? (i := 8) rfl)) (by decide) e45 (rm2 l Z a0 hw p2 p3 (2 : Int32) (0 : Int32) hp) (by rw [hml]; rfl) pd_2 rfl rfl (hb hby at_54) rfl (by decide) rfl (by decide) (by decide) (by decide) ?_
    rintro _ T54 L54 ⟨rfl, rfl, e54⟩ X54
    show Ends p e below s (Q0 Z p1 p2 p3 h0) room_1.cells room_1.slots (T54.setTop (mkF m 57 #[.val (.int p1), .val (.long p2), .second, .val (.long p3), .second, .val (.int (0 : Int32)), .val (.ref t), .val (.ref u), .unset, .unset, .unset, .unset] [(.long (fte p2 p3 (2 : Int32) (0 : Int32))), (.long ((fte p2 p3 (0 : Int32) (0 : Int32)) + (fte p2 p3 (1 : Int32) (0 : Int32))))]))
    refine o_ladd (pc' := 58) X54 hx (hb hby at_57) rfl ?_
    refine o_lloadN (pc' := 59) X54 hx (hb hby at_58) rfl rfl ?_
    refine o_lloadN (pc' := 60) X54 hx (hb hby at_59) rfl rfl ?_
    refine o_iconst (v := (3 : Int32)) (pc' := 61) X54 hx (hb hby at_60) (by decide) rfl ?_
    refine o_iload (pc' := 63) X54 hx (hb hby at_61) rfl rfl ?_
    refine o_callS (W := 2) (pc' := 66) (rm := ({ frames := 1, cells := 0, slots := 0, locals := 16 } : Room)) (argsL := [(.long p2), (.long p3), (.int (3 : Int32)), (.int (0 : Int32))]) (rest := [(.long (((fte p2 p3 (0 : Int32) (0 : Int32)) + (fte p2 p3 (1 : Int32) (0 : Int32))) + (fte p2 p3 (2 : Int32) (0 : Int32))))]) X54 hx hZ hown (hw _ (List.mem_of_getElem? (i := 6) rfl)) (hw _ (List.mem_of_getElem? (i := 7) rfl)) (hw _ (List.mem_of_getElem? (i := 4) rfl)) (hw _ (List.mem_of_getElem? (i := 8) rfl)) (by decide) e54 (rm2 l Z a0 hw p2 p3 (3 : Int32) (0 : Int32) hp) (by rw [hml]; rfl) pd_2 rfl rfl (hb hby at_63) rfl (by decide) rfl (by decide) (by decide) (by decide) ?_
    rintro _ T63 L63 ⟨rfl, rfl, e63⟩ X63
    show Ends p e below s (Q0 Z p1 p2 p3 h0) room_1.cells room_1.slots (T63.setTop (mkF m 66 #[.val (.int p1), .val (.long p2), .second, .val (.long p3), .second, .val (.int (0 : Int32)), .val (.ref t), .val (.ref u), .unset, .unset, .unset, .unset] [(.long (fte p2 p3 (3 : Int32) (0 : Int32))), (.long (((fte p2 p3 (0 : Int32) (0 : Int32)) + (fte p2 p3 (1 : Int32) (0 : Int32))) + (fte p2 p3 (2 : Int32) (0 : Int32))))]))
    refine o_ladd (pc' := 67) X63 hx (hb hby at_66) rfl ?_
    generalize hex : (((fte p2 p3 (0 : Int32) (0 : Int32)) + (fte p2 p3 (1 : Int32) (0 : Int32))) + (fte p2 p3 (2 : Int32) (0 : Int32))) + (fte p2 p3 (3 : Int32) (0 : Int32)) = ex
    refine o_lstore (Ls' := #[.val (.int p1), .val (.long p2), .second, .val (.long p3), .second, .val (.int (0 : Int32)), .val (.ref t), .val (.ref u), .val (.long ex), .second, .unset, .unset]) (pc' := 69) X63 hx (hb hby at_67) rfl rfl ?_
    refine o_aload (pc' := 71) X63 hx (hb hby at_69) rfl rfl rfl ?_
    refine o_aload (pc' := 73) X63 hx (hb hby at_71) rfl rfl rfl ?_
    have hS : fS (gco p2) (gco p3) 0 = ex := by rw [← hex]; simp +decide [fS, fte, gco, dq]
    refine o_callS (W := 0) (pc' := 76) (rm := ({ frames := 0, cells := 0, slots := 0, locals := 0 } : Room)) (argsL := [(.ref t), (.ref u)]) (rest := []) X63 hx hZ hown (hw _ (List.mem_of_getElem? (i := 9) rfl)) (hw _ (List.mem_of_getElem? (i := 10) rfl)) (hw _ (List.mem_of_getElem? (i := 11) rfl)) (hw _ (List.mem_of_getElem? (i := 12) rfl)) (by decide) e63 (rmS0 l Z a0 hw t u _ _ (gco p2) (gco p3) hp At Ct Au Cu (own_gco p2) (own_gco p3)) (by rw [hml]; rfl) pd_3 rfl rfl (hb hby at_73) rfl (by decide) rfl (by decide) (by decide) (by decide) ?_
    rintro _ T73 L73 ⟨rfl, rfl, e73⟩ X73
    show Ends p e below s (Q0 Z p1 p2 p3 h0) room_1.cells room_1.slots (T73.setTop (mkF m 76 #[.val (.int p1), .val (.long p2), .second, .val (.long p3), .second, .val (.int (0 : Int32)), .val (.ref t), .val (.ref u), .val (.long ex), .second, .unset, .unset] [(.double (FP.l2d (fS (gco p2) (gco p3) 0)))]))
    refine o_dstore (Ls' := #[.val (.int p1), .val (.long p2), .second, .val (.long p3), .second, .val (.int (0 : Int32)), .val (.ref t), .val (.ref u), .val (.long ex), .second, .val (.double (FP.l2d (fS (gco p2) (gco p3) 0))), .second]) (pc' := 78) X73 hx (hb hby at_76) rfl rfl ?_
    refine o_dload (pc' := 80) X73 hx (hb hby at_78) rfl rfl ?_
    refine o_lload (pc' := 82) X73 hx (hb hby at_80) rfl rfl ?_
    refine o_l2d (pc' := 83) (v := FP.l2d ex) X73 hx (hb hby at_82) rfl rfl ?_
    refine o_dcmp (pc' := 84) (v := (0 : Int32)) X73 hx (hb hby at_83) (dcmpV_eq (by rw [hS]) (nn_w rfl) _) rfl ?_
    refine o_if_ne (p1 := 87) (p2 := 91) X73 hx (hb hby at_84) rfl (by decide) (by decide) (fun hc84 => absurd (by decide) hc84) (fun hc84 => ?_)
    refine o_iconst (v := (1 : Int32)) (pc' := 88) X73 hx (hb hby at_87) (by decide) rfl ?_
    refine o_goto (pc' := 92) X73 hx (hb hby at_88) (by decide) (by decide) ?_
    exact o_retZ X73 hx hlk hret (hb hby at_92) (by decide) ⟨rfl, by first | exact N | simpa using N⟩ (by decide) (by decide)
  · refine o_newarr (pc' := 12) (cap := 1) X0 hx hZ (hw _ (List.mem_of_getElem? (i := 1) rfl)) e0 (hb hby at_10) rfl (by decide) (by decide) (by decide) (by decide) (by decide) ?_
    intro T10 h10 cA10 t gt e10 E10 At X10
    have Ct := Cont.new cA10 .double (1 : Int32) 1 (by decide)
    have qt : h0.size ≤ t := Nat.le_of_eq gt.symm
    have N := Fr.nil h0.size
    refine o_astore (Ls' := #[.val (.int p1), .val (.long p2), .second, .val (.long p3), .second, .val (.int (1 : Int32)), .val (.ref t), .unset, .unset, .unset, .unset, .unset]) (pc' := 14) X10 hx (hb hby at_12) rfl rfl rfl ?_
    refine o_iload (pc' := 16) X10 hx (hb hby at_14) rfl rfl ?_
    refine o_newarr (pc' := 18) (cap := 1) X10 hx hZ (hw _ (List.mem_of_getElem? (i := 1) rfl)) e10 (hb hby at_16) rfl (by decide) (by decide) (by decide) (by decide) (by decide) ?_
    intro T16 h16 cA16 u gu e16 E16 Au X16
    have Cu := Cont.new cA16 .double (1 : Int32) 1 (by decide)
    have qu : h0.size ≤ u := by rw [gu]; exact E10.1
    have htu : t ≠ u := by rw [gu]; exact Nat.ne_of_lt At.lt
    replace At := At.ext E16
    refine o_astore (Ls' := #[.val (.int p1), .val (.long p2), .second, .val (.long p3), .second, .val (.int (1 : Int32)), .val (.ref t), .val (.ref u), .unset, .unset, .unset, .unset]) (pc' := 20) X16 hx (hb hby at_18) rfl rfl rfl ?_
    refine o_aload (pc' := 22) X16 hx (hb hby at_20) rfl rfl rfl ?_
    refine o_lloadN (pc' := 23) X16 hx (hb hby at_22) rfl rfl ?_
    refine o_callS (W := 0) (pc' := 26) (rm := ({ frames := 1, cells := 0, slots := 0, locals := 16 } : Room)) (argsL := [(.ref t), (.long p2)]) (rest := []) X16 hx hZ hown (hw _ (List.mem_of_getElem? (i := 2) rfl)) (hw _ (List.mem_of_getElem? (i := 3) rfl)) (hw _ (List.mem_of_getElem? (i := 4) rfl)) (hw _ (List.mem_of_getElem? (i := 5) rfl)) (by decide) e16 (rmF1 l Z a0 hw t h0.size p2 _ h16 qt At Ct) (by rw [hml]; rfl) pd_1 rfl rfl (hb hby at_23) rfl (by decide) rfl (by decide) (by decide) (by decide) ?_
    rintro _ T23 L23 ⟨rfl, N1, K1, ct, At, Ct⟩ X23
    show Ends p e below s (Q0 Z p1 p2 p3 h0) room_1.cells room_1.slots (T23.setTop (mkF m 26 #[.val (.int p1), .val (.long p2), .second, .val (.long p3), .second, .val (.int (1 : Int32)), .val (.ref t), .val (.ref u), .unset, .unset, .unset, .unset] []))
    replace N := N.app N1
    replace Au := own_arrK Au K1 (ninS (Ne.symm htu) nin0)
    refine o_aload (pc' := 28) X23 hx (hb hby at_26) rfl rfl rfl ?_
    refine o_lloadN (pc' := 29) X23 hx (hb hby at_28) rfl rfl ?_
    refine o_callS (W := 0) (pc' := 32) (rm := ({ frames := 1, cells := 0, slots := 0, locals := 16 } : Room)) (argsL := [(.ref u), (.long p3)]) (rest := []) X23 hx hZ hown (hw _ (List.mem_of_getElem? (i := 2) rfl)) (hw _ (List.mem_of_getElem? (i := 3) rfl)) (hw _ (List.mem_of_getElem? (i := 4) rfl)) (hw _ (List.mem_of_getElem? (i := 5) rfl)) (by decide) rfl (rmF1 l Z a0 hw u h0.size p3 _ T23.heap qu Au Cu) (by rw [hml]; rfl) pd_1 rfl rfl (hb hby at_29) rfl (by decide) rfl (by decide) (by decide) (by decide) ?_
    rintro _ T29 L29 ⟨rfl, N2, K2, cu, Au, Cu⟩ X29
    show Ends p e below s (Q0 Z p1 p2 p3 h0) room_1.cells room_1.slots (T29.setTop (mkF m 32 #[.val (.int p1), .val (.long p2), .second, .val (.long p3), .second, .val (.int (1 : Int32)), .val (.ref t), .val (.ref u), .unset, .unset, .unset, .unset] []))
    replace N := N.app N2
    replace At := own_arrK At K2 (ninS htu nin0)
    obtain ⟨hp, ehp⟩ : ∃ hp, T29.heap = hp := ⟨_, rfl⟩
    rw [ehp] at At Au
    refine o_lloadN (pc' := 33) X29 hx (hb hby at_32) rfl rfl ?_
    refine o_lloadN (pc' := 34) X29 hx (hb hby at_33) rfl rfl ?_
    refine o_iconst (v := (0 : Int32)) (pc' := 35) X29 hx (hb hby at_34) (by decide) rfl ?_
    refine o_iload (pc' := 37) X29 hx (hb hby at_35) rfl rfl ?_
    refine o_callS (W := 0) (pc' := 40) (rm := ({ frames := 1, cells := 0, slots := 0, locals := 16 } : Room)) (argsL := [(.long p2), (.long p3), (.int (0 : Int32)), (.int (1 : Int32))]) (rest := []) X29 hx hZ hown (hw _ (List.mem_of_getElem? (i := 6) rfl)) (hw _ (List.mem_of_getElem? (i := 7) rfl)) (hw _ (List.mem_of_getElem? (i := 4) rfl)) (hw _ (List.mem_of_getElem? (i := 8) rfl)) (by decide) ehp (rm2 l Z a0 hw p2 p3 (0 : Int32) (1 : Int32) hp) (by rw [hml]; rfl) pd_2 rfl rfl (hb hby at_37) rfl (by decide) rfl (by decide) (by decide) (by decide) ?_
    rintro _ T37 L37 ⟨rfl, rfl, e37⟩ X37
    show Ends p e below s (Q0 Z p1 p2 p3 h0) room_1.cells room_1.slots (T37.setTop (mkF m 40 #[.val (.int p1), .val (.long p2), .second, .val (.long p3), .second, .val (.int (1 : Int32)), .val (.ref t), .val (.ref u), .unset, .unset, .unset, .unset] [(.long (fte p2 p3 (0 : Int32) (1 : Int32)))]))
    refine o_lloadN (pc' := 41) X37 hx (hb hby at_40) rfl rfl ?_
    refine o_lloadN (pc' := 42) X37 hx (hb hby at_41) rfl rfl ?_
    refine o_iconst (v := (1 : Int32)) (pc' := 43) X37 hx (hb hby at_42) (by decide) rfl ?_
    refine o_iload (pc' := 45) X37 hx (hb hby at_43) rfl rfl ?_
    refine o_callS (W := 2) (pc' := 48) (rm := ({ frames := 1, cells := 0, slots := 0, locals := 16 } : Room)) (argsL := [(.long p2), (.long p3), (.int (1 : Int32)), (.int (1 : Int32))]) (rest := [(.long (fte p2 p3 (0 : Int32) (1 : Int32)))]) X37 hx hZ hown (hw _ (List.mem_of_getElem? (i := 6) rfl)) (hw _ (List.mem_of_getElem? (i := 7) rfl)) (hw _ (List.mem_of_getElem? (i := 4) rfl)) (hw _ (List.mem_of_getElem? (i := 8) rfl)) (by decide) e37 (rm2 l Z a0 hw p2 p3 (1 : Int32) (1 : Int32) hp) (by rw [hml]; rfl) pd_2 rfl rfl (hb hby at_45) rfl (by decide) rfl (by decide) (by decide) (by decide) ?_
    rintro _ T45 L45 ⟨rfl, rfl, e45⟩ X45
    show Ends p e below s (Q0 Z p1 p2 p3 h0) room_1.cells room_1.slots (T45.setTop (mkF m 48 #[.val (.int p1), .val (.long p2), .second, .val (.long p3), .second, .val (.int (1 : Int32)), .val (.ref t), .val (.ref u), .unset, .unset, .unset, .unset] [(.long (fte p2 p3 (1 : Int32) (1 : Int32))), (.long (fte p2 p3 (0 : Int32) (1 : Int32)))]))
    refine o_ladd (pc' := 49) X45 hx (hb hby at_48) rfl ?_
    refine o_lloadN (pc' := 50) X45 hx (hb hby at_49) rfl rfl ?_
    refine o_lloadN (pc' := 51) X45 hx (hb hby at_50) rfl rfl ?_
    refine o_iconst (v := (2 : Int32)) (pc' := 52) X45 hx (hb hby at_51) (by decide) rfl ?_
    refine o_iload (pc' := 54) X45 hx (hb hby at_52) rfl rfl ?_
    refine o_callS (W := 2) (pc' := 57) (rm := ({ frames := 1, cells := 0, slots := 0, locals := 16 } : Room)) (argsL := [(.long p2), (.long p3), (.int (2 : Int32)), (.int (1 : Int32))]) (rest := [(.long ((fte p2 p3 (0 : Int32) (1 : Int32)) + (fte p2 p3 (1 : Int32) (1 : Int32))))]) X45 hx hZ hown (hw _ (List.mem_of_getElem? (i := 6) rfl)) (hw _ (List.mem_of_getElem? (i := 7) rfl)) (hw _ (List.mem_of_getElem? (i := 4) rfl)) (hw _ (List.mem_of_getElem? (i := 8) rfl)) (by decide) e45 (rm2 l Z a0 hw p2 p3 (2 : Int32) (1 : Int32) hp) (by rw [hml]; rfl) pd_2 rfl rfl (hb hby at_54) rfl (by decide) rfl (by decide) (by decide) (by decide) ?_
    rintro _ T54 L54 ⟨rfl, rfl, e54⟩ X54
    show Ends p e below s (Q0 Z p1 p2 p3 h0) room_1.cells room_1.slots (T54.setTop (mkF m 57 #[.val (.int p1), .val (.long p2), .second, .val (.long p3), .second, .val (.int (1 : Int32)), .val (.ref t), .val (.ref u), .unset, .unset, .unset, .unset] [(.long (fte p2 p3 (2 : Int32) (1 : Int32))), (.long ((fte p2 p3 (0 : Int32) (1 : Int32)) + (fte p2 p3 (1 : Int32) (1 : Int32))))]))
    refine o_ladd (pc' := 58) X54 hx (hb hby at_57) rfl ?_
    refine o_lloadN (pc' := 59) X54 hx (hb hby at_58) rfl rfl ?_
    refine o_lloadN (pc' := 60) X54 hx (hb hby at_59) rfl rfl ?_
    refine o_iconst (v := (3 : Int32)) (pc' := 61) X54 hx (hb hby at_60) (by decide) rfl ?_
    refine o_iload (pc' := 63) X54 hx (hb hby at_61) rfl rfl ?_
    refine o_callS (W := 2) (pc' := 66) (rm := ({ frames := 1, cells := 0, slots := 0, locals := 16 } : Room)) (argsL := [(.long p2), (.long p3), (.int (3 : Int32)), (.int (1 : Int32))]) (rest := [(.long (((fte p2 p3 (0 : Int32) (1 : Int32)) + (fte p2 p3 (1 : Int32) (1 : Int32))) + (fte p2 p3 (2 : Int32) (1 : Int32))))]) X54 hx hZ hown (hw _ (List.mem_of_getElem? (i := 6) rfl)) (hw _ (List.mem_of_getElem? (i := 7) rfl)) (hw _ (List.mem_of_getElem? (i := 4) rfl)) (hw _ (List.mem_of_getElem? (i := 8) rfl)) (by decide) e54 (rm2 l Z a0 hw p2 p3 (3 : Int32) (1 : Int32) hp) (by rw [hml]; rfl) pd_2 rfl rfl (hb hby at_63) rfl (by decide) rfl (by decide) (by decide) (by decide) ?_
    rintro _ T63 L63 ⟨rfl, rfl, e63⟩ X63
    show Ends p e below s (Q0 Z p1 p2 p3 h0) room_1.cells room_1.slots (T63.setTop (mkF m 66 #[.val (.int p1), .val (.long p2), .second, .val (.long p3), .second, .val (.int (1 : Int32)), .val (.ref t), .val (.ref u), .unset, .unset, .unset, .unset] [(.long (fte p2 p3 (3 : Int32) (1 : Int32))), (.long (((fte p2 p3 (0 : Int32) (1 : Int32)) + (fte p2 p3 (1 : Int32) (1 : Int32))) + (fte p2 p3 (2 : Int32) (1 : Int32))))]))
    refine o_ladd (pc' := 67) X63 hx (hb hby at_66) rfl ?_
    generalize hex : (((fte p2 p3 (0 : Int32) (1 : Int32)) + (fte p2 p3 (1 : Int32) (1 : Int32))) + (fte p2 p3 (2 : Int32) (1 : Int32))) + (fte p2 p3 (3 : Int32) (1 : Int32)) = ex
    refine o_lstore (Ls' := #[.val (.int p1), .val (.long p2), .second, .val (.long p3), .second, .val (.int (1 : Int32)), .val (.ref t), .val (.ref u), .val (.long ex), .second, .unset, .unset]) (pc' := 69) X63 hx (hb hby at_67) rfl rfl ?_
    refine o_aload (pc' := 71) X63 hx (hb hby at_69) rfl rfl rfl ?_
    refine o_aload (pc' := 73) X63 hx (hb hby at_71) rfl rfl rfl ?_
    have hS : fS (gco p2) (gco p3) 1 = ex := by rw [← hex]; simp +decide [fS, fte, gco, dq]
    refine o_callS (W := 0) (pc' := 76) (rm := ({ frames := 0, cells := 0, slots := 0, locals := 0 } : Room)) (argsL := [(.ref t), (.ref u)]) (rest := []) X63 hx hZ hown (hw _ (List.mem_of_getElem? (i := 9) rfl)) (hw _ (List.mem_of_getElem? (i := 10) rfl)) (hw _ (List.mem_of_getElem? (i := 11) rfl)) (hw _ (List.mem_of_getElem? (i := 12) rfl)) (by decide) e63 (rmS1 l Z a0 hw t u _ _ (gco p2) (gco p3) hp At Ct Au Cu (own_gco p2) (own_gco p3)) (by rw [hml]; rfl) pd_3 rfl rfl (hb hby at_73) rfl (by decide) rfl (by decide) (by decide) (by decide) ?_
    rintro _ T73 L73 ⟨rfl, rfl, e73⟩ X73
    show Ends p e below s (Q0 Z p1 p2 p3 h0) room_1.cells room_1.slots (T73.setTop (mkF m 76 #[.val (.int p1), .val (.long p2), .second, .val (.long p3), .second, .val (.int (1 : Int32)), .val (.ref t), .val (.ref u), .val (.long ex), .second, .unset, .unset] [(.double (FP.l2d (fS (gco p2) (gco p3) 1)))]))
    refine o_dstore (Ls' := #[.val (.int p1), .val (.long p2), .second, .val (.long p3), .second, .val (.int (1 : Int32)), .val (.ref t), .val (.ref u), .val (.long ex), .second, .val (.double (FP.l2d (fS (gco p2) (gco p3) 1))), .second]) (pc' := 78) X73 hx (hb hby at_76) rfl rfl ?_
    refine o_dload (pc' := 80) X73 hx (hb hby at_78) rfl rfl ?_
    refine o_lload (pc' := 82) X73 hx (hb hby at_80) rfl rfl ?_
    refine o_l2d (pc' := 83) (v := FP.l2d ex) X73 hx (hb hby at_82) rfl rfl ?_
    refine o_dcmp (pc' := 84) (v := (0 : Int32)) X73 hx (hb hby at_83) (dcmpV_eq (by rw [hS]) (nn_w rfl) _) rfl ?_
    refine o_if_ne (p1 := 87) (p2 := 91) X73 hx (hb hby at_84) rfl (by decide) (by decide) (fun hc84 => absurd (by decide) hc84) (fun hc84 => ?_)
    refine o_iconst (v := (1 : Int32)) (pc' := 88) X73 hx (hb hby at_87) (by decide) rfl ?_
    refine o_goto (pc' := 92) X73 hx (hb hby at_88) (by decide) (by decide) ?_
    exact o_retZ X73 hx hlk hret (hb hby at_92) (by decide) ⟨rfl, by first | exact N | simpa using N⟩ (by decide) (by decide)
  · refine o_newarr (pc' := 12) (cap := 2) X0 hx hZ (hw _ (List.mem_of_getElem? (i := 1) rfl)) e0 (hb hby at_10) rfl (by decide) (by decide) (by decide) (by decide) (by decide) ?_
    intro T10 h10 cA10 t gt e10 E10 At X10
    have Ct := Cont.new cA10 .double (2 : Int32) 2 (by decide)
    have qt : h0.size ≤ t := Nat.le_of_eq gt.symm
    have N := Fr.nil h0.size
    refine o_astore (Ls' := #[.val (.int p1), .val (.long p2), .second, .val (.long p3), .second, .val (.int (2 : Int32)), .val (.ref t), .unset, .unset, .unset, .unset, .unset]) (pc' := 14) X10 hx (hb hby at_12) rfl rfl rfl ?_
    refine o_iload (pc' := 16) X10 hx (hb hby at_14) rfl rfl ?_
    refine o_newarr (pc' := 18) (cap := 2) X10 hx hZ (hw _ (List.mem_of_getElem? (i := 1) rfl)) e10 (hb hby at_16) rfl (by decide) (by decide) (by decide) (by decide) (by decide) ?_
    intro T16 h16 cA16 u gu e16 E16 Au X16
    have Cu := Cont.new cA16 .double (2 : Int32) 2 (by decide)
    have qu : h0.size ≤ u := by rw [gu]; exact E10.1
    have htu : t ≠ u := by rw [gu]; exact Nat.ne_of_lt At.lt
    replace At := At.ext E16
    refine o_astore (Ls' := #[.val (.int p1), .val (.long p2), .second, .val (.long p3), .second, .val (.int (2 : Int32)), .val (.ref t), .val (.ref u), .unset, .unset, .unset, .unset]) (pc' := 20) X16 hx (hb hby at_18) rfl rfl rfl ?_
    refine o_aload (pc' := 22) X16 hx (hb hby at_20) rfl rfl rfl ?_
    refine o_lloadN (pc' := 23) X16 hx (hb hby at_22) rfl rfl ?_
    refine o_callS (W := 0) (pc' := 26) (rm := ({ frames := 1, cells := 0, slots := 0, locals := 16 } : Room)) (argsL := [(.ref t), (.long p2)]) (rest := []) X16 hx hZ hown (hw _ (List.mem_of_getElem? (i := 2) rfl)) (hw _ (List.mem_of_getElem? (i := 3) rfl)) (hw _ (List.mem_of_getElem? (i := 4) rfl)) (hw _ (List.mem_of_getElem? (i := 5) rfl)) (by decide) e16 (rmF2 l Z a0 hw t h0.size p2 _ h16 qt At Ct) (by rw [hml]; rfl) pd_1 rfl rfl (hb hby at_23) rfl (by decide) rfl (by decide) (by decide) (by decide) ?_
    rintro _ T23 L23 ⟨rfl, N1, K1, ct, At, Ct⟩ X23
    show Ends p e below s (Q0 Z p1 p2 p3 h0) room_1.cells room_1.slots (T23.setTop (mkF m 26 #[.val (.int p1), .val (.long p2), .second, .val (.long p3), .second, .val (.int (2 : Int32)), .val (.ref t), .val (.ref u), .unset, .unset, .unset, .unset] []))
    replace N := N.app N1
    replace Au := own_arrK Au K1 (ninS (Ne.symm htu) nin0)
    refine o_aload (pc' := 28) X23 hx (hb hby at_26) rfl rfl rfl ?_
    refine o_lloadN (pc' := 29) X23 hx (hb hby at_28) rfl rfl ?_
    refine o_callS (W := 0) (pc' := 32) (rm := ({ frames := 1, cells := 0, slots := 0, locals := 16 } : Room)) (argsL := [(.ref u), (.long p3)]) (rest := []) X23 hx hZ hown (hw _ (List.mem_of_getElem? (i := 2) rfl)) (hw _ (List.mem_of_getElem? (i := 3) rfl)) (hw _ (List.mem_of_getElem? (i := 4) rfl)) (hw _ (List.mem_of_getElem? (i := 5) rfl)) (by decide) rfl (rmF2 l Z a0 hw u h0.size p3 _ T23.heap qu Au Cu) (by rw [hml]; rfl) pd_1 rfl rfl (hb hby at_29) rfl (by decide) rfl (by decide) (by decide) (by decide) ?_
    rintro _ T29 L29 ⟨rfl, N2, K2, cu, Au, Cu⟩ X29
    show Ends p e below s (Q0 Z p1 p2 p3 h0) room_1.cells room_1.slots (T29.setTop (mkF m 32 #[.val (.int p1), .val (.long p2), .second, .val (.long p3), .second, .val (.int (2 : Int32)), .val (.ref t), .val (.ref u), .unset, .unset, .unset, .unset] []))
    replace N := N.app N2
    replace At := own_arrK At K2 (ninS htu nin0)
    obtain ⟨hp, ehp⟩ : ∃ hp, T29.heap = hp := ⟨_, rfl⟩
    rw [ehp] at At Au
    refine o_lloadN (pc' := 33) X29 hx (hb hby at_32) rfl rfl ?_
    refine o_lloadN (pc' := 34) X29 hx (hb hby at_33) rfl rfl ?_
    refine o_iconst (v := (0 : Int32)) (pc' := 35) X29 hx (hb hby at_34) (by decide) rfl ?_
    refine o_iload (pc' := 37) X29 hx (hb hby at_35) rfl rfl ?_
    refine o_callS (W := 0) (pc' := 40) (rm := ({ frames := 1, cells := 0, slots := 0, locals := 16 } : Room)) (argsL := [(.long p2), (.long p3), (.int (0 : Int32)), (.int (2 : Int32))]) (rest := []) X29 hx hZ hown (hw _ (List.mem_of_getElem? (i := 6) rfl)) (hw _ (List.mem_of_getElem? (i := 7) rfl)) (hw _ (List.mem_of_getElem? (i := 4) rfl)) (hw _ (List.mem_of_getElem? (i := 8) rfl)) (by decide) ehp (rm2 l Z a0 hw p2 p3 (0 : Int32) (2 : Int32) hp) (by rw [hml]; rfl) pd_2 rfl rfl (hb hby at_37) rfl (by decide) rfl (by decide) (by decide) (by decide) ?_
    rintro _ T37 L37 ⟨rfl, rfl, e37⟩ X37
    show Ends p e below s (Q0 Z p1 p2 p3 h0) room_1.cells room_1.slots (T37.setTop (mkF m 40 #[.val (.int p1), .val (.long p2), .second, .val (.long p3), .second, .val (.int (2 : Int32)), .val (.ref t), .val (.ref u), .unset, .unset, .unset, .unset] [(.long (fte p2 p3 (0 : Int32) (2 : Int32)))]))
    refine o_lloadN (pc' := 41) X37 hx (hb hby at_40) rfl rfl ?_
    refine o_lloadN (pc' := 42) X37 hx (hb hby at_41) rfl rfl ?_
    refine o_iconst (v := (1 : Int32)) (pc' := 43) X37 hx (hb hby at_42) (by decide) rfl ?_
    refine o_iload (pc' := 45) X37 hx (hb hby at_43) rfl rfl ?_
    refine o_callS (W := 2) (pc' := 48) (rm := ({ frames := 1, cells := 0, slots := 0, locals := 16 } : Room)) (argsL := [(.long p2), (.long p3), (.int (1 : Int32)), (.int (2 : Int32))]) (rest := [(.long (fte p2 p3 (0 : Int32) (2 : Int32)))]) X37 hx hZ hown (hw _ (List.mem_of_getElem? (i := 6) rfl)) (hw _ (List.mem_of_getElem? (i := 7) rfl)) (hw _ (List.mem_of_getElem? (i := 4) rfl)) (hw _ (List.mem_of_getElem? (i := 8) rfl)) (by decide) e37 (rm2 l Z a0 hw p2 p3 (1 : Int32) (2 : Int32) hp) (by rw [hml]; rfl) pd_2 rfl rfl (hb hby at_45) rfl (by decide) rfl (by decide) (by decide) (by decide) ?_
    rintro _ T45 L45 ⟨rfl, rfl, e45⟩ X45
    show Ends p e below s (Q0 Z p1 p2 p3 h0) room_1.cells room_1.slots (T45.setTop (mkF m 48 #[.val (.int p1), .val (.long p2), .second, .val (.long p3), .second, .val (.int (2 : Int32)), .val (.ref t), .val (.ref u), .unset, .unset, .unset, .unset] [(.long (fte p2 p3 (1 : Int32) (2 : Int32))), (.long (fte p2 p3 (0 : Int32) (2 : Int32)))]))
    refine o_ladd (pc' := 49) X45 hx (hb hby at_48) rfl ?_
    refine o_lloadN (pc' := 50) X45 hx (hb hby at_49) rfl rfl ?_
    refine o_lloadN (pc' := 51) X45 hx (hb hby at_50) rfl rfl ?_
    refine o_iconst (v := (2 : Int32)) (pc' := 52) X45 hx (hb hby at_51) (by decide) rfl ?_
    refine o_iload (pc' := 54) X45 hx (hb hby at_52) rfl rfl ?_
    refine o_callS (W := 2) (pc' := 57) (rm := ({ frames := 1, cells := 0, slots := 0, locals := 16 } : Room)) (argsL := [(.long p2), (.long p3), (.int (2 : Int32)), (.int (2 : Int32))]) (rest := [(.long ((fte p2 p3 (0 : Int32) (2 : Int32)) + (fte p2 p3 (1 : Int32) (2 : Int32))))]) X45 hx hZ hown (hw _ (List.mem_of_getElem? (i := 6) rfl)) (hw _ (List.mem_of_getElem? (i := 7) rfl)) (hw _ (List.mem_of_getElem? (i := 4) rfl)) (hw _ (List.mem_of_getElem? (i := 8) rfl)) (by decide) e45 (rm2 l Z a0 hw p2 p3 (2 : Int32) (2 : Int32) hp) (by rw [hml]; rfl) pd_2 rfl rfl (hb hby at_54) rfl (by decide) rfl (by decide) (by decide) (by decide) ?_
    rintro _ T54 L54 ⟨rfl, rfl, e54⟩ X54
    show Ends p e below s (Q0 Z p1 p2 p3 h0) room_1.cells room_1.slots (T54.setTop (mkF m 57 #[.val (.int p1), .val (.long p2), .second, .val (.long p3), .second, .val (.int (2 : Int32)), .val (.ref t), .val (.ref u), .unset, .unset, .unset, .unset] [(.long (fte p2 p3 (2 : Int32) (2 : Int32))), (.long ((fte p2 p3 (0 : Int32) (2 : Int32)) + (fte p2 p3 (1 : Int32) (2 : Int32))))]))
    refine o_ladd (pc' := 58) X54 hx (hb hby at_57) rfl ?_
    refine o_lloadN (pc' := 59) X54 hx (hb hby at_58) rfl rfl ?_
    refine o_lloadN (pc' := 60) X54 hx (hb hby at_59) rfl rfl ?_
    refine o_iconst (v := (3 : Int32)) (pc' := 61) X54 hx (hb hby at_60) (by decide) rfl ?_
    refine o_iload (pc' := 63) X54 hx (hb hby at_61) rfl rfl ?_
    refine o_callS (W := 2) (pc' := 66) (rm := ({ frames := 1, cells := 0, slots := 0, locals := 16 } : Room)) (argsL := [(.long p2), (.long p3), (.int (3 : Int32)), (.int (2 : Int32))]) (rest := [(.long (((fte p2 p3 (0 : Int32) (2 : Int32)) + (fte p2 p3 (1 : Int32) (2 : Int32))) + (fte p2 p3 (2 : Int32) (2 : Int32))))]) X54 hx hZ hown (hw _ (List.mem_of_getElem? (i := 6) rfl)) (hw _ (List.mem_of_getElem? (i := 7) rfl)) (hw _ (List.mem_of_getElem? (i := 4) rfl)) (hw _ (List.mem_of_getElem? (i := 8) rfl)) (by decide) e54 (rm2 l Z a0 hw p2 p3 (3 : Int32) (2 : Int32) hp) (by rw [hml]; rfl) pd_2 rfl rfl (hb hby at_63) rfl (by decide) rfl (by decide) (by decide) (by decide) ?_
    rintro _ T63 L63 ⟨rfl, rfl, e63⟩ X63
    show Ends p e below s (Q0 Z p1 p2 p3 h0) room_1.cells room_1.slots (T63.setTop (mkF m 66 #[.val (.int p1), .val (.long p2), .second, .val (.long p3), .second, .val (.int (2 : Int32)), .val (.ref t), .val (.ref u), .unset, .unset, .unset, .unset] [(.long (fte p2 p3 (3 : Int32) (2 : Int32))), (.long (((fte p2 p3 (0 : Int32) (2 : Int32)) + (fte p2 p3 (1 : Int32) (2 : Int32))) + (fte p2 p3 (2 : Int32) (2 : Int32))))]))
    refine o_ladd (pc' := 67) X63 hx (hb hby at_66) rfl ?_
    generalize hex : (((fte p2 p3 (0 : Int32) (2 : Int32)) + (fte p2 p3 (1 : Int32) (2 : Int32))) + (fte p2 p3 (2 : Int32) (2 : Int32))) + (fte p2 p3 (3 : Int32) (2 : Int32)) = ex
    refine o_lstore (Ls' := #[.val (.int p1), .val (.long p2), .second, .val (.long p3), .second, .val (.int (2 : Int32)), .val (.ref t), .val (.ref u), .val (.long ex), .second, .unset, .unset]) (pc' := 69) X63 hx (hb hby at_67) rfl rfl ?_
    refine o_aload (pc' := 71) X63 hx (hb hby at_69) rfl rfl rfl ?_
    refine o_aload (pc' := 73) X63 hx (hb hby at_71) rfl rfl rfl ?_
    have hS : fS (gco p2) (gco p3) 2 = ex := by rw [← hex]; simp +decide [fS, fte, gco, dq]
    refine o_callS (W := 0) (pc' := 76) (rm := ({ frames := 0, cells := 0, slots := 0, locals := 0 } : Room)) (argsL := [(.ref t), (.ref u)]) (rest := []) X63 hx hZ hown (hw _ (List.mem_of_getElem? (i := 9) rfl)) (hw _ (List.mem_of_getElem? (i := 10) rfl)) (hw _ (List.mem_of_getElem? (i := 11) rfl)) (hw _ (List.mem_of_getElem? (i := 12) rfl)) (by decide) e63 (rmS2 l Z a0 hw t u _ _ (gco p2) (gco p3) hp At Ct Au Cu (own_gco p2) (own_gco p3)) (by rw [hml]; rfl) pd_3 rfl rfl (hb hby at_73) rfl (by decide) rfl (by decide) (by decide) (by decide) ?_
    rintro _ T73 L73 ⟨rfl, rfl, e73⟩ X73
    show Ends p e below s (Q0 Z p1 p2 p3 h0) room_1.cells room_1.slots (T73.setTop (mkF m 76 #[.val (.int p1), .val (.long p2), .second, .val (.long p3), .second, .val (.int (2 : Int32)), .val (.ref t), .val (.ref u), .val (.long ex), .second, .unset, .unset] [(.double (FP.l2d (fS (gco p2) (gco p3) 2)))]))
    refine o_dstore (Ls' := #[.val (.int p1), .val (.long p2), .second, .val (.long p3), .second, .val (.int (2 : Int32)), .val (.ref t), .val (.ref u), .val (.long ex), .second, .val (.double (FP.l2d (fS (gco p2) (gco p3) 2))), .second]) (pc' := 78) X73 hx (hb hby at_76) rfl rfl ?_
    refine o_dload (pc' := 80) X73 hx (hb hby at_78) rfl rfl ?_
    refine o_lload (pc' := 82) X73 hx (hb hby at_80) rfl rfl ?_
    refine o_l2d (pc' := 83) (v := FP.l2d ex) X73 hx (hb hby at_82) rfl rfl ?_
    refine o_dcmp (pc' := 84) (v := (0 : Int32)) X73 hx (hb hby at_83) (dcmpV_eq (by rw [hS]) (nn_w rfl) _) rfl ?_
    refine o_if_ne (p1 := 87) (p2 := 91) X73 hx (hb hby at_84) rfl (by decide) (by decide) (fun hc84 => absurd (by decide) hc84) (fun hc84 => ?_)
    refine o_iconst (v := (1 : Int32)) (pc' := 88) X73 hx (hb hby at_87) (by decide) rfl ?_
    refine o_goto (pc' := 92) X73 hx (hb hby at_88) (by decide) (by decide) ?_
    exact o_retZ X73 hx hlk hret (hb hby at_92) (by decide) ⟨rfl, by first | exact N | simpa using N⟩ (by decide) (by decide)
  · refine o_newarr (pc' := 12) (cap := 3) X0 hx hZ (hw _ (List.mem_of_getElem? (i := 1) rfl)) e0 (hb hby at_10) rfl (by decide) (by decide) (by decide) (by decide) (by decide) ?_
    intro T10 h10 cA10 t gt e10 E10 At X10
    have Ct := Cont.new cA10 .double (3 : Int32) 3 (by decide)
    have qt : h0.size ≤ t := Nat.le_of_eq gt.symm
    have N := Fr.nil h0.size
    refine o_astore (Ls' := #[.val (.int p1), .val (.long p2), .second, .val (.long p3), .second, .val (.int (3 : Int32)), .val (.ref t), .unset, .unset, .unset, .unset, .unset]) (pc' := 14) X10 hx (hb hby at_12) rfl rfl rfl ?_
    refine o_iload (pc' := 16) X10 hx (hb hby at_14) rfl rfl ?_
    refine o_newarr (pc' := 18) (cap := 3) X10 hx hZ (hw _ (List.mem_of_getElem? (i := 1) rfl)) e10 (hb hby at_16) rfl (by decide) (by decide) (by decide) (by decide) (by decide) ?_
    intro T16 h16 cA16 u gu e16 E16 Au X16
    have Cu := Cont.new cA16 .double (3 : Int32) 3 (by decide)
    have qu : h0.size ≤ u := by rw [gu]; exact E10.1
    have htu : t ≠ u := by rw [gu]; exact Nat.ne_of_lt At.lt
    replace At := At.ext E16
    refine o_astore (Ls' := #[.val (.int p1), .val (.long p2), .second, .val (.long p3), .second, .val (.int (3 : Int32)), .val (.ref t), .val (.ref u), .unset, .unset, .unset, .unset]) (pc' := 20) X16 hx (hb hby at_18) rfl rfl rfl ?_
    refine o_aload (pc' := 22) X16 hx (hb hby at_20) rfl rfl rfl ?_
    refine o_lloadN (pc' := 23) X16 hx (hb hby at_22) rfl rfl ?_
    refine o_callS (W := 0) (pc' := 26) (rm := ({ frames := 1, cells := 0, slots := 0, locals := 16 } : Room)) (argsL := [(.ref t), (.long p2)]) (rest := []) X16 hx hZ hown (hw _ (List.mem_of_getElem? (i := 2) rfl)) (hw _ (List.mem_of_getElem? (i := 3) rfl)) (hw _ (List.mem_of_getElem? (i := 4) rfl)) (hw _ (List.mem_of_getElem? (i := 5) rfl)) (by decide) e16 (rmF3 l Z a0 hw t h0.size p2 _ h16 qt At Ct) (by rw [hml]; rfl) pd_1 rfl rfl (hb hby at_23) rfl (by decide) rfl (by decide) (by decide) (by decide) ?_
    rintro _ T23 L23 ⟨rfl, N1, K1, ct, At, Ct⟩ X23
    show Ends p e below s (Q0 Z p1 p2 p3 h0) room_1.cells room_1.slots (T23.setTop (mkF m 26 #[.val (.int p1), .val (.long p2), .second, .val (.long p3), .second, .val (.int (3 : Int32)), .val (.ref t), .val (.ref u), .unset, .unset, .unset, .unset] []))
    replace N := N.app N1
    replace Au := own_arrK Au K1 (ninS (Ne.symm htu) nin0)
    refine o_aload (pc' := 28) X23 hx (hb hby at_26) rfl rfl rfl ?_
    refine o_lloadN (pc' := 29) X23 hx (hb hby at_28) rfl rfl ?_
    refine o_callS (W := 0) (pc' := 32) (rm := ({ frames := 1, cells := 0, slots := 0, locals := 16 } : Room)) (argsL := [(.ref u), (.long p3)]) (rest := []) X23 hx hZ hown (hw _ (List.mem_of_getElem? (i := 2) rfl)) (hw _ (List.mem_of_getElem? (i := 3) rfl)) (hw _ (List.mem_of_getElem? (i := 4) rfl)) (hw _ (List.mem_of_getElem? (i := 5) rfl)) (by decide) rfl (rmF3 l Z a0 hw u h0.size p3 _ T23.heap qu Au Cu) (by rw [hml]; rfl) pd_1 rfl rfl (hb hby at_29) rfl (by decide) rfl (by decide) (by decide) (by decide) ?_
    rintro _ T29 L29 ⟨rfl, N2, K2, cu, Au, Cu⟩ X29
    show Ends p e below s (Q0 Z p1 p2 p3 h0) room_1.cells room_1.slots (T29.setTop (mkF m 32 #[.val (.int p1), .val (.long p2), .second, .val (.long p3), .second, .val (.int (3 : Int32)), .val (.ref t), .val (.ref u), .unset, .unset, .unset, .unset] []))
    replace N := N.app N2
    replace At := own_arrK At K2 (ninS htu nin0)
    obtain ⟨hp, ehp⟩ : ∃ hp, T29.heap = hp := ⟨_, rfl⟩
    rw [ehp] at At Au
    refine o_lloadN (pc' := 33) X29 hx (hb hby at_32) rfl rfl ?_
    refine o_lloadN (pc' := 34) X29 hx (hb hby at_33) rfl rfl ?_
    refine o_iconst (v := (0 : Int32)) (pc' := 35) X29 hx (hb hby at_34) (by decide) rfl ?_
    refine o_iload (pc' := 37) X29 hx (hb hby at_35) rfl rfl ?_
    refine o_callS (W := 0) (pc' := 40) (rm := ({ frames := 1, cells := 0, slots := 0, locals := 16 } : Room)) (argsL := [(.long p2), (.long p3), (.int (0 : Int32)), (.int (3 : Int32))]) (rest := []) X29 hx hZ hown (hw _ (List.mem_of_getElem? (i := 6) rfl)) (hw _ (List.mem_of_getElem? (i := 7) rfl)) (hw _ (List.mem_of_getElem? (i := 4) rfl)) (hw _ (List.mem_of_getElem? (i := 8) rfl)) (by decide) ehp (rm2 l Z a0 hw p2 p3 (0 : Int32) (3 : Int32) hp) (by rw [hml]; rfl) pd_2 rfl rfl (hb hby at_37) rfl (by decide) rfl (by decide) (by decide) (by decide) ?_
    rintro _ T37 L37 ⟨rfl, rfl, e37⟩ X37
    show Ends p e below s (Q0 Z p1 p2 p3 h0) room_1.cells room_1.slots (T37.setTop (mkF m 40 #[.val (.int p1), .val (.long p2), .second, .val (.long p3), .second, .val (.int (3 : Int32)), .val (.ref t), .val (.ref u), .unset, .unset, .unset, .unset] [(.long (fte p2 p3 (0 : Int32) (3 : Int32)))]))
    refine o_lloadN (pc' := 41) X37 hx (hb hby at_40) rfl rfl ?_
    refine o_lloadN (pc' := 42) X37 hx (hb hby at_41) rfl rfl ?_
    refine o_iconst (v := (1 : Int32)) (pc' := 43) X37 hx (hb hby at_42) (by decide) rfl ?_
    refine o_iload (pc' := 45) X37 hx (hb hby at_43) rfl rfl ?_
    refine o_callS (W := 2) (pc' := 48) (rm := ({ frames := 1, cells := 0, slots := 0, locals := 16 } : Room)) (argsL := [(.long p2), (.long p3), (.int (1 : Int32)), (.int (3 : Int32))]) (rest := [(.long (fte p2 p3 (0 : Int32) (3 : Int32)))]) X37 hx hZ hown (hw _ (List.mem_of_getElem? (i := 6) rfl)) (hw _ (List.mem_of_getElem? (i := 7) rfl)) (hw _ (List.mem_of_getElem? (i := 4) rfl)) (hw _ (List.mem_of_getElem? (i := 8) rfl)) (by decide) e37 (rm2 l Z a0 hw p2 p3 (1 : Int32) (3 : Int32) hp) (by rw [hml]; rfl) pd_2 rfl rfl (hb hby at_45) rfl (by decide) rfl (by decide) (by decide) (by decide) ?_
    rintro _ T45 L45 ⟨rfl, rfl, e45⟩ X45
    show Ends p e below s (Q0 Z p1 p2 p3 h0) room_1.cells room_1.slots (T45.setTop (mkF m 48 #[.val (.int p1), .val (.long p2), .second, .val (.long p3), .second, .val (.int (3 : Int32)), .val (.ref t), .val (.ref u), .unset, .unset, .unset, .unset] [(.long (fte p2 p3 (1 : Int32) (3 : Int32))), (.long (fte p2 p3 (0 : Int32) (3 : Int32)))]))
    refine o_ladd (pc' := 49) X45 hx (hb hby at_48) rfl ?_
    refine o_lloadN (pc' := 50) X45 hx (hb hby at_49) rfl rfl ?_
    refine o_lloadN (pc' := 51) X45 hx (hb hby at_50) rfl rfl ?_
    refine o_iconst (v := (2 : Int32)) (pc' := 52) X45 hx (hb hby at_51) (by decide) rfl ?_
    refine o_iload (pc' := 54) X45 hx (hb hby at_52) rfl rfl ?_
    refine o_callS (W := 2) (pc' := 57) (rm := ({ frames := 1, cells := 0, slots := 0, locals := 16 } : Room)) (argsL := [(.long p2), (.long p3), (.int (2 : Int32)), (.int (3 : Int32))]) (rest := [(.long ((fte p2 p3 (0 : Int32) (3 : Int32)) + (fte p2 p3 (1 : Int32) (3 : Int32))))]) X45 hx hZ hown (hw _ (List.mem_of_getElem? (i := 6) rfl)) (hw _ (List.mem_of_getElem? (i := 7) rfl)) (hw _ (List.mem_of_getElem? (i := 4) rfl)) (hw _ (List.mem_of_getElem? (i := 8) rfl)) (by decide) e45 (rm2 l Z a0 hw p2 p3 (2 : Int32) (3 : Int32) hp) (by rw [hml]; rfl) pd_2 rfl rfl (hb hby at_54) rfl (by decide) rfl (by decide) (by decide) (by decide) ?_
    rintro _ T54 L54 ⟨rfl, rfl, e54⟩ X54
    show Ends p e below s (Q0 Z p1 p2 p3 h0) room_1.cells room_1.slots (T54.setTop (mkF m 57 #[.val (.int p1), .val (.long p2), .second, .val (.long p3), .second, .val (.int (3 : Int32)), .val (.ref t), .val (.ref u), .unset, .unset, .unset, .unset] [(.long (fte p2 p3 (2 : Int32) (3 : Int32))), (.long ((fte p2 p3 (0 : Int32) (3 : Int32)) + (fte p2 p3 (1 : Int32) (3 : Int32))))]))
    refine o_ladd (pc' := 58) X54 hx (hb hby at_57) rfl ?_
    refine o_lloadN (pc' := 59) X54 hx (hb hby at_58) rfl rfl ?_
    refine o_lloadN (pc' := 60) X54 hx (hb hby at_59) rfl rfl ?_
    refine o_iconst (v := (3 : Int32)) (pc' := 61) X54 hx (hb hby at_60) (by decide) rfl ?_
    refine o_iload (pc' := 63) X54 hx (hb hby at_61) rfl rfl ?_
    refine o_callS (W := 2) (pc' := 66) (rm := ({ frames := 1, cells := 0, slots := 0, locals := 16 } : Room)) (argsL := [(.long p2), (.long p3), (.int (3 : Int32)), (.int (3 : Int32))]) (rest := [(.long (((fte p2 p3 (0 : Int32) (3 : Int32)) + (fte p2 p3 (1 : Int32) (3 : Int32))) + (fte p2 p3 (2 : Int32) (3 : Int32))))]) X54 hx hZ hown (hw _ (List.mem_of_getElem? (i := 6) rfl)) (hw _ (List.mem_of_getElem? (i := 7) rfl)) (hw _ (List.mem_of_getElem? (i := 4) rfl)) (hw _ (List.mem_of_getElem? (i := 8) rfl)) (by decide) e54 (rm2 l Z a0 hw p2 p3 (3 : Int32) (3 : Int32) hp) (by rw [hml]; rfl) pd_2 rfl rfl (hb hby at_63) rfl (by decide) rfl (by decide) (by decide) (by decide) ?_
    rintro _ T63 L63 ⟨rfl, rfl, e63⟩ X63
    show Ends p e below s (Q0 Z p1 p2 p3 h0) room_1.cells room_1.slots (T63.setTop (mkF m 66 #[.val (.int p1), .val (.long p2), .second, .val (.long p3), .second, .val (.int (3 : Int32)), .val (.ref t), .val (.ref u), .unset, .unset, .unset, .unset] [(.long (fte p2 p3 (3 : Int32) (3 : Int32))), (.long (((fte p2 p3 (0 : Int32) (3 : Int32)) + (fte p2 p3 (1 : Int32) (3 : Int32))) + (fte p2 p3 (2 : Int32) (3 : Int32))))]))
    refine o_ladd (pc' := 67) X63 hx (hb hby at_66) rfl ?_
    generalize hex : (((fte p2 p3 (0 : Int32) (3 : Int32)) + (fte p2 p3 (1 : Int32) (3 : Int32))) + (fte p2 p3 (2 : Int32) (3 : Int32))) + (fte p2 p3 (3 : Int32) (3 : Int32)) = ex
    refine o_lstore (Ls' := #[.val (.int p1), .val (.long p2), .second, .val (.long p3), .second, .val (.int (3 : Int32)), .val (.ref t), .val (.ref u), .val (.long ex), .second, .unset, .unset]) (pc' := 69) X63 hx (hb hby at_67) rfl rfl ?_
    refine o_aload (pc' := 71) X63 hx (hb hby at_69) rfl rfl rfl ?_
    refine o_aload (pc' := 73) X63 hx (hb hby at_71) rfl rfl rfl ?_
    have hS : fS (gco p2) (gco p3) 3 = ex := by rw [← hex]; simp +decide [fS, fte, gco, dq]
    refine o_callS (W := 0) (pc' := 76) (rm := ({ frames := 0, cells := 0, slots := 0, locals := 0 } : Room)) (argsL := [(.ref t), (.ref u)]) (rest := []) X63 hx hZ hown (hw _ (List.mem_of_getElem? (i := 9) rfl)) (hw _ (List.mem_of_getElem? (i := 10) rfl)) (hw _ (List.mem_of_getElem? (i := 11) rfl)) (hw _ (List.mem_of_getElem? (i := 12) rfl)) (by decide) e63 (rmS3 l Z a0 hw t u _ _ (gco p2) (gco p3) hp At Ct Au Cu (own_gco p2) (own_gco p3)) (by rw [hml]; rfl) pd_3 rfl rfl (hb hby at_73) rfl (by decide) rfl (by decide) (by decide) (by decide) ?_
    rintro _ T73 L73 ⟨rfl, rfl, e73⟩ X73
    show Ends p e below s (Q0 Z p1 p2 p3 h0) room_1.cells room_1.slots (T73.setTop (mkF m 76 #[.val (.int p1), .val (.long p2), .second, .val (.long p3), .second, .val (.int (3 : Int32)), .val (.ref t), .val (.ref u), .val (.long ex), .second, .unset, .unset] [(.double (FP.l2d (fS (gco p2) (gco p3) 3)))]))
    refine o_dstore (Ls' := #[.val (.int p1), .val (.long p2), .second, .val (.long p3), .second, .val (.int (3 : Int32)), .val (.ref t), .val (.ref u), .val (.long ex), .second, .val (.double (FP.l2d (fS (gco p2) (gco p3) 3))), .second]) (pc' := 78) X73 hx (hb hby at_76) rfl rfl ?_
    refine o_dload (pc' := 80) X73 hx (hb hby at_78) rfl rfl ?_
    refine o_lload (pc' := 82) X73 hx (hb hby at_80) rfl rfl ?_
    refine o_l2d (pc' := 83) (v := FP.l2d ex) X73 hx (hb hby at_82) rfl rfl ?_
    refine o_dcmp (pc' := 84) (v := (0 : Int32)) X73 hx (hb hby at_83) (dcmpV_eq (by rw [hS]) (nn_w rfl) _) rfl ?_
    refine o_if_ne (p1 := 87) (p2 := 91) X73 hx (hb hby at_84) rfl (by decide) (by decide) (fun hc84 => absurd (by decide) hc84) (fun hc84 => ?_)
    refine o_iconst (v := (1 : Int32)) (pc' := 88) X73 hx (hb hby at_87) (by decide) rfl ?_
    refine o_goto (pc' := 92) X73 hx (hb hby at_88) (by decide) (by decide) ?_
    exact o_retZ X73 hx hlk hret (hb hby at_92) (by decide) ⟨rfl, by first | exact N | simpa using N⟩ (by decide) (by decide)
  · refine o_newarr (pc' := 12) (cap := 4) X0 hx hZ (hw _ (List.mem_of_getElem? (i := 1) rfl)) e0 (hb hby at_10) rfl (by decide) (by decide) (by decide) (by decide) (by decide) ?_
    intro T10 h10 cA10 t gt e10 E10 At X10
    have Ct := Cont.new cA10 .double (4 : Int32) 4 (by decide)
    have qt : h0.size ≤ t := Nat.le_of_eq gt.symm
    have N := Fr.nil h0.size
    refine o_astore (Ls' := #[.val (.int p1), .val (.long p2), .second, .val (.long p3), .second, .val (.int (4 : Int32)), .val (.ref t), .unset, .unset, .unset, .unset, .unset]) (pc' := 14) X10 hx (hb hby at_12) rfl rfl rfl ?_
    refine o_iload (pc' := 16) X10 hx (hb hby at_14) rfl rfl ?_
    refine o_newarr (pc' := 18) (cap := 4) X10 hx hZ (hw _ (List.mem_of_getElem? (i := 1) rfl)) e10 (hb hby at_16) rfl (by decide) (by decide) (by decide) (by decide) (by decide) ?_
    intro T16 h16 cA16 u gu e16 E16 Au X16
    have Cu := Cont.new cA16 .double (4 : Int32) 4 (by decide)
    have qu : h0.size ≤ u := by rw [gu]; exact E10.1
    have htu : t ≠ u := by rw [gu]; exact Nat.ne_of_lt At.lt
    replace At := At.ext E16
    refine o_astore (Ls' := #[.val (.int p1), .val (.long p2), .second, .val (.long p3), .second, .val (.int (4 : Int32)), .val (.ref t), .val (.ref u), .unset, .unset, .unset, .unset]) (pc' := 20) X16 hx (hb hby at_18) rfl rfl rfl ?_
    refine o_aload (pc' := 22) X16 hx (hb hby at_20) rfl rfl rfl ?_
    refine o_lloadN (pc' := 23) X16 hx (hb hby at_22) rfl rfl ?_
    refine o_callS (W := 0) (pc' := 26) (rm := ({ frames := 1, cells := 0, slots := 0, locals := 16 } : Room)) (argsL := [(.ref t), (.long p2)]) (rest := []) X16 hx hZ hown (hw _ (List.mem_of_getElem? (i := 2) rfl)) (hw _ (List.mem_of_getElem? (i := 3) rfl)) (hw _ (List.mem_of_getElem? (i := 4) rfl)) (hw _ (List.mem_of_getElem? (i := 5) rfl)) (by decide) e16 (rmF4 l Z a0 hw t h0.size p2 _ h16 qt At Ct) (by rw [hml]; rfl) pd_1 rfl rfl (hb hby at_23) rfl (by decide) rfl (by decide) (by decide) (by decide) ?_
    rintro _ T23 L23 ⟨rfl, N1, K1, ct, At, Ct⟩ X23
    show Ends p e below s (Q0 Z p1 p2 p3 h0) room_1.cells room_1.slots (T23.setTop (mkF m 26 #[.val (.int p1), .val (.long p2), .second, .val (.long p3), .second, .val (.int (4 : Int32)), .val (.ref t), .val (.ref u), .unset, .unset, .unset, .unset] []))
    replace N := N.app N1
    replace Au := own_arrK Au K1 (ninS (Ne.symm htu) nin0)
    refine o_aload (pc' := 28) X23 hx (hb hby at_26) rfl rfl rfl ?_
    refine o_lloadN (pc' := 29) X23 hx (hb hby at_28) rfl rfl ?_
    refine o_callS (W := 0) (pc' := 32) (rm := ({ frames := 1, cells := 0, slots := 0, locals := 16 } : Room)) (argsL := [(.ref u), (.long p3)]) (rest := []) X23 hx hZ hown (hw _ (List.mem_of_getElem? (i := 2) rfl)) (hw _ (List.mem_of_getElem? (i := 3) rfl)) (hw _ (List.mem_of_getElem? (i := 4) rfl)) (hw _ (List.mem_of_getElem? (i := 5) rfl)) (by decide) rfl (rmF4 l Z a0 hw u h0.size p3 _ T23.heap qu Au Cu) (by rw [hml]; rfl) pd_1 rfl rfl (hb hby at_29) rfl (by decide) rfl (by decide) (by decide) (by decide) ?_
    rintro _ T29 L29 ⟨rfl, N2, K2, cu, Au, Cu⟩ X29
    show Ends p e below s (Q0 Z p1 p2 p3 h0) room_1.cells room_1.slots (T29.setTop (mkF m 32 #[.val (.int p1), .val (.long p2), .second, .val (.long p3), .second, .val (.int (4 : Int32)), .val (.ref t), .val (.ref u), .unset, .unset, .unset, .unset] []))
    replace N := N.app N2
    replace At := own_arrK At K2 (ninS htu nin0)
    obtain ⟨hp, ehp⟩ : ∃ hp, T29.heap = hp := ⟨_, rfl⟩
    rw [ehp] at At Au
    refine o_lloadN (pc' := 33) X29 hx (hb hby at_32) rfl rfl ?_
    refine o_lloadN (pc' := 34) X29 hx (hb hby at_33) rfl rfl ?_
    refine o_iconst (v := (0 : Int32)) (pc' := 35) X29 hx (hb hby at_34) (by decide) rfl ?_
    refine o_iload (pc' := 37) X29 hx (hb hby at_35) rfl rfl ?_
    refine o_callS (W := 0) (pc' := 40) (rm := ({ frames := 1, cells := 0, slots := 0, locals := 16 } : Room)) (argsL := [(.long p2), (.long p3), (.int (0 : Int32)), (.int (4 : Int32))]) (rest := []) X29 hx hZ hown (hw _ (List.mem_of_getElem? (i := 6) rfl)) (hw _ (List.mem_of_getElem? (i := 7) rfl)) (hw _ (List.mem_of_getElem? (i := 4) rfl)) (hw _ (List.mem_of_getElem? (i := 8) rfl)) (by decide) ehp (rm2 l Z a0 hw p2 p3 (0 : Int32) (4 : Int32) hp) (by rw [hml]; rfl) pd_2 rfl rfl (hb hby at_37) rfl (by decide) rfl (by decide) (by decide) (by decide) ?_
    rintro _ T37 L37 ⟨rfl, rfl, e37⟩ X37
    show Ends p e below s (Q0 Z p1 p2 p3 h0) room_1.cells room_1.slots (T37.setTop (mkF m 40 #[.val (.int p1), .val (.long p2), .second, .val (.long p3), .second, .val (.int (4 : Int32)), .val (.ref t), .val (.ref u), .unset, .unset, .unset, .unset] [(.long (fte p2 p3 (0 : Int32) (4 : Int32)))]))
    refine o_lloadN (pc' := 41) X37 hx (hb hby at_40) rfl rfl ?_
    refine o_lloadN (pc' := 42) X37 hx (hb hby at_41) rfl rfl ?_
    refine o_iconst (v := (1 : Int32)) (pc' := 43) X37 hx (hb hby at_42) (by decide) rfl ?_
    refine o_iload (pc' := 45) X37 hx (hb hby at_43) rfl rfl ?_
    refine o_callS (W := 2) (pc' := 48) (rm := ({ frames := 1, cells := 0, slots := 0, locals := 16 } : Room)) (argsL := [(.long p2), (.long p3), (.int (1 : Int32)), (.int (4 : Int32))]) (rest := [(.long (fte p2 p3 (0 : Int32) (4 : Int32)))]) X37 hx hZ hown (hw _ (List.mem_of_getElem? (i := 6) rfl)) (hw _ (List.mem_of_getElem? (i := 7) rfl)) (hw _ (List.mem_of_getElem? (i := 4) rfl)) (hw _ (List.mem_of_getElem? (i := 8) rfl)) (by decide) e37 (rm2 l Z a0 hw p2 p3 (1 : Int32) (4 : Int32) hp) (by rw [hml]; rfl) pd_2 rfl rfl (hb hby at_45) rfl (by decide) rfl (by decide) (by decide) (by decide) ?_
    rintro _ T45 L45 ⟨rfl, rfl, e45⟩ X45
    show Ends p e below s (Q0 Z p1 p2 p3 h0) room_1.cells room_1.slots (T45.setTop (mkF m 48 #[.val (.int p1), .val (.long p2), .second, .val (.long p3), .second, .val (.int (4 : Int32)), .val (.ref t), .val (.ref u), .unset, .unset, .unset, .unset] [(.long (fte p2 p3 (1 : Int32) (4 : Int32))), (.long (fte p2 p3 (0 : Int32) (4 : Int32)))]))
    refine o_ladd (pc' := 49) X45 hx (hb hby at_48) rfl ?_
    refine o_lloadN (pc' := 50) X45 hx (hb hby at_49) rfl rfl ?_
    refine o_lloadN (pc' := 51) X45 hx (hb hby at_50) rfl rfl ?_
    refine o_iconst (v := (2 : Int32)) (pc' := 52) X45 hx (hb hby at_51) (by decide) rfl ?_
    refine o_iload (pc' := 54) X45 hx (hb hby at_52) rfl rfl ?_
    refine o_callS (W := 2) (pc' := 57) (rm := ({ frames := 1, cells := 0, slots := 0, locals := 16 } : Room)) (argsL := [(.long p2), (.long p3), (.int (2 : Int32)), (.int (4 : Int32))]) (rest := [(.long ((fte p2 p3 (0 : Int32) (4 : Int32)) + (fte p2 p3 (1 : Int32) (4 : Int32))))]) X45 hx hZ hown (hw _ (List.mem_of_getElem? (i := 6) rfl)) (hw _ (List.mem_of_getElem? (i := 7) rfl)) (hw _ (List.mem_of_getElem? (i := 4) rfl)) (hw _ (List.mem_of_getElem? (i := 8) rfl)) (by decide) e45 (rm2 l Z a0 hw p2 p3 (2 : Int32) (4 : Int32) hp) (by rw [hml]; rfl) pd_2 rfl rfl (hb hby at_54) rfl (by decide) rfl (by decide) (by decide) (by decide) ?_
    rintro _ T54 L54 ⟨rfl, rfl, e54⟩ X54
    show Ends p e below s (Q0 Z p1 p2 p3 h0) room_1.cells room_1.slots (T54.setTop (mkF m 57 #[.val (.int p1), .val (.long p2), .second, .val (.long p3), .second, .val (.int (4 : Int32)), .val (.ref t), .val (.ref u), .unset, .unset, .unset, .unset] [(.long (fte p2 p3 (2 : Int32) (4 : Int32))), (.long ((fte p2 p3 (0 : Int32) (4 : Int32)) + (fte p2 p3 (1 : Int32) (4 : Int32))))]))
    refine o_ladd (pc' := 58) X54 hx (hb hby at_57) rfl ?_
    refine o_lloadN (pc' := 59) X54 hx (hb hby at_58) rfl rfl ?_
    refine o_lloadN (pc' := 60) X54 hx (hb hby at_59) rfl rfl ?_
    refine o_iconst (v := (3 : Int32)) (pc' := 61) X54 hx (hb hby at_60) (by decide) rfl ?_
    refine o_iload (pc' := 63) X54 hx (hb hby at_61) rfl rfl ?_
    refine o_callS (W := 2) (pc' := 66) (rm := ({ frames := 1, cells := 0, slots := 0, locals := 16 } : Room)) (argsL := [(.long p2), (.long p3), (.int (3 : Int32)), (.int (4 : Int32))]) (rest := [(.long (((fte p2 p3 (0 : Int32) (4 : Int32)) + (fte p2 p3 (1 : Int32) (4 : Int32))) + (fte p2 p3 (2 : Int32) (4 : Int32))))]) X54 hx hZ hown (hw _ (List.mem_of_getElem? (i := 6) rfl)) (hw _ (List.mem_of_getElem? (i := 7) rfl)) (hw _ (List.mem_of_getElem? (i := 4) rfl)) (hw _ (List.mem_of_getElem? (i := 8) rfl)) (by decide) e54 (rm2 l Z a0 hw p2 p3 (3 : Int32) (4 : Int32) hp) (by rw [hml]; rfl) pd_2 rfl rfl (hb hby at_63) rfl (by decide) rfl (by decide) (by decide) (by decide) ?_
    rintro _ T63 L63 ⟨rfl, rfl, e63⟩ X63
    show Ends p e below s (Q0 Z p1 p2 p3 h0) room_1.cells room_1.slots (T63.setTop (mkF m 66 #[.val (.int p1), .val (.long p2), .second, .val (.long p3), .second, .val (.int (4 : Int32)), .val (.ref t), .val (.ref u), .unset, .unset, .unset, .unset] [(.long (fte p2 p3 (3 : Int32) (4 : Int32))), (.long (((fte p2 p3 (0 : Int32) (4 : Int32)) + (fte p2 p3 (1 : Int32) (4 : Int32))) + (fte p2 p3 (2 : Int32) (4 : Int32))))]))
    refine o_ladd (pc' := 67) X63 hx (hb hby at_66) rfl ?_
    generalize hex : (((fte p2 p3 (0 : Int32) (4 : Int32)) + (fte p2 p3 (1 : Int32) (4 : Int32))) + (fte p2 p3 (2 : Int32) (4 : Int32))) + (fte p2 p3 (3 : Int32) (4 : Int32)) = ex
    refine o_lstore (Ls' := #[.val (.int p1), .val (.long p2), .second, .val (.long p3), .second, .val (.int (4 : Int32)), .val (.ref t), .val (.ref u), .val (.long ex), .second, .unset, .unset]) (pc' := 69) X63 hx (hb hby at_67) rfl rfl ?_
    refine o_aload (pc' := 71) X63 hx (hb hby at_69) rfl rfl rfl ?_
    refine o_aload (pc' := 73) X63 hx (hb hby at_71) rfl rfl rfl ?_
    have hS : fS (gco p2) (gco p3) 4 = ex := by rw [← hex]; simp +decide [fS, fte, gco, dq]
    refine o_callS (W := 0) (pc' := 76) (rm := ({ frames := 0, cells := 0, slots := 0, locals := 0 } : Room)) (argsL := [(.ref t), (.ref u)]) (rest := []) X63 hx hZ hown (hw _ (List.mem_of_getElem? (i := 9) rfl)) (hw _ (List.mem_of_getElem? (i := 10) rfl)) (hw _ (List.mem_of_getElem? (i := 11) rfl)) (hw _ (List.mem_of_getElem? (i := 12) rfl)) (by decide) e63 (rmS4 l Z a0 hw t u _ _ (gco p2) (gco p3) hp At Ct Au Cu (own_gco p2) (own_gco p3)) (by rw [hml]; rfl) pd_3 rfl rfl (hb hby at_73) rfl (by decide) rfl (by decide) (by decide) (by decide) ?_
    rintro _ T73 L73 ⟨rfl, rfl, e73⟩ X73
    show Ends p e below s (Q0 Z p1 p2 p3 h0) room_1.cells room_1.slots (T73.setTop (mkF m 76 #[.val (.int p1), .val (.long p2), .second, .val (.long p3), .second, .val (.int (4 : Int32)), .val (.ref t), .val (.ref u), .val (.long ex), .second, .unset, .unset] [(.double (FP.l2d (fS (gco p2) (gco p3) 4)))]))
    refine o_dstore (Ls' := #[.val (.int p1), .val (.long p2), .second, .val (.long p3), .second, .val (.int (4 : Int32)), .val (.ref t), .val (.ref u), .val (.long ex), .second, .val (.double (FP.l2d (fS (gco p2) (gco p3) 4))), .second]) (pc' := 78) X73 hx (hb hby at_76) rfl rfl ?_
    refine o_dload (pc' := 80) X73 hx (hb hby at_78) rfl rfl ?_
    refine o_lload (pc' := 82) X73 hx (hb hby at_80) rfl rfl ?_
    refine o_l2d (pc' := 83) (v := FP.l2d ex) X73 hx (hb hby at_82) rfl rfl ?_
    refine o_dcmp (pc' := 84) (v := (0 : Int32)) X73 hx (hb hby at_83) (dcmpV_eq (by rw [hS]) (nn_w rfl) _) rfl ?_
    refine o_if_ne (p1 := 87) (p2 := 91) X73 hx (hb hby at_84) rfl (by decide) (by decide) (fun hc84 => absurd (by decide) hc84) (fun hc84 => ?_)
    refine o_iconst (v := (1 : Int32)) (pc' := 88) X73 hx (hb hby at_87) (by decide) rfl ?_
    refine o_goto (pc' := 92) X73 hx (hb hby at_88) (by decide) (by decide) ?_
    exact o_retZ X73 hx hlk hret (hb hby at_92) (by decide) ⟨rfl, by first | exact N | simpa using N⟩ (by decide) (by decide)
set_option maxRecDepth 65536 in
set_option maxHeartbeats 40000000 in
theorem comes_1 {Post : Tables → Env → Array Value → State → Outcome → State → Prop} (hpost : ∀ tb e args s v u, (limb_1_1.after args s (.returned v) u = true ∧ limb_1_2.after args s (.returned v) u = true ∧ True) → FrameEnd s (.returned v) u (Jvm.fieldLocs frame_1_writes args s ++ Jvm.arrayLocs frame_1_arrays args s ++ Jvm.staticLocs frame_1_statics s) 16 128 → Post tb e args s (.returned v) u) :
    ArmFor flags0 classFile x code maxLocals ret World_1 tables_1 room_1 Calls_1 rest_1 Pre_1 Post := by
  intro l hfl _ _ p e ha hc hk s m args below hf hA hF happ hP
  obtain ⟨hcalls, hrest, hpre⟩ := hP
  obtain ⟨-, -, -, hnamed, -, -, -, hat⟩ := (Spec.applies_iff hf).mp happ
  obtain ⟨hg, hn⟩ := and_e (Cond.before_iff.mp (show (Jvm.Cond.and given_1 narrow_1).before args s = true from hpre))
  obtain ⟨g0, gr0⟩ := and_e hg
  obtain ⟨g1, gr1⟩ := and_e gr0
  obtain ⟨g2, gr2⟩ := and_e gr1
  obtain ⟨w0, w1, w2, rfl⟩ : ∃ w0 w1 w2 : Value, args = #[w0, w1, w2] := by
    have hs : args.size = 3 := by simpa [Cond.value, given_1] using g0
    obtain ⟨L⟩ := args
    match L, hs with
    | [w0, w1, w2], _ => exact ⟨w0, w1, w2, rfl⟩
  have hw := fun d (hd : d ∈ tables_1) => atoms_spec (ws := Jvm.Cond.code x code maxLocals ret :: tables_1) hat d (List.mem_cons_of_mem _ hd)
  have hfit : Fit s := fun {y c} hc i hi => by
    obtain ⟨ha, rfl⟩ := Array.getElem?_eq_some_iff.mp hc
    have q := List.all_eq_true.mp ((Array.all_eq_true_iff_forall_mem.mp hF) _ (Array.getElem_mem ha)) i (List.mem_range.mpr hi)
    simpa [Array.getElem?_eq_getElem hi] using q
  obtain ⟨i0, ei0⟩ := is_v g1
  obtain rfl : w0 = (.int i0) := Option.some.inj ei0
  obtain ⟨i1, ei1⟩ := isL_v g2
  obtain rfl : w1 = (.long i1) := Option.some.inj ei1
  obtain ⟨i2, ei2⟩ := isL_v gr2
  obtain rfl : w2 = (.long i2) := Option.some.inj ei2
  obtain ⟨n, o, h1, h2, h3, _, L, rfl, ⟨rfl, N⟩, hq⟩ := rm0 l s _ hw i0 i1 i2 s.heap tables_1 p e ha hc hk s m _ below hf ((Spec.applies_iff_loose hf).mp happ).1 ⟨rfl, State.Warmed39.refl s, rfl⟩ trivial
  refine ⟨n, _, h1, h2, h3, hpost _ _ _ _ _ _ ⟨Cond.after_iff.mpr rfl, Cond.after_iff.mpr (eq_i res_at (Term.int_eval (1)) rfl), trivial⟩ ⟨hq.1, hq.2.1, (hq.2.2.sift fun y hy => Or.inr (N y hy)).mono (by decide) (by decide)⟩⟩
theorem main_1_1 : Claimed_1_1 := comes_1 fun _ _ _ _ _ _ h hF => ⟨h.1, hF⟩
theorem main_1_2 : Claimed_1_2 := comes_1 fun _ _ _ _ _ _ h hF => ⟨h.2.1, hF⟩
end Jvm.Pilot.@@N@@
namespace Jvm.Pilot.@@N@@
open Jvm Jvm.ClassFile Sem Op Lib Jvm.Free Jvm.Stand Jvm.Pilot.@@N@@.Jvm.D
/-! MADE BY PROGRAM (witnessworld.py) out of the Statement's table words and the real class files: 11 classes; the members and pool entries that the words name. The judged class is class 1, her method 1. -/
namespace start1
open Jvm.ClassFile
def u (s : String) : CpInfo := .utf8 (stringToUtf16 s)
/-- a pool by its gaps: so many unusable entries, then the entry; so many at the end -/
def gap : Nat → List CpInfo → List CpInfo
  | 0, r => r
  | n + 1, r => .unusable :: gap n r
def poolList (es : List (Nat × CpInfo)) (last : Nat) : List CpInfo := es.foldr (fun e r => gap e.1 (e.2 :: r)) (gap last [])
def pool (es : List (Nat × CpInfo)) (last : Nat) : Array CpInfo := ⟨poolList es last⟩
def fileOf (pool : Array CpInfo) (this : Nat) (attrs : Array Attribute := #[]) (ms : Array MethodInfo := #[]) (fl : Nat := 33) (sup : Nat := 0) (ifs : Array Nat := #[]) (fds : Array FieldInfo := #[]) : ClassFile where
  minorVersion := 0
  majorVersion := 65
  constantPool := pool
  accessFlags := fl
  thisClass := this
  superClass := sup
  interfaces := ifs
  fields := fds
  methods := ms
  attributes := attrs
def plain (name : String) (sup : Option ClassId) : Class where
  name := name
  kind := .ordinary
  loader := none
  accessFlags := 33
  super := sup
  interfaces := #[]
  cf := none
  fields := #[]
  methods := #[]
  instanceTypes := #[]
  staticTypes := #[]
  resolved := #[]
  callSites := []
  init := .initialized
  statics := none
  mirror := none

def pool0 : Array CpInfo := pool [(5, u "<init>"), (0, u "()V"), (1, .class_ 10), (1, u "java/lang/Object")] 113

def k0m0 : Method := { name := "<init>", desc := "()V", sig := { parameters := [], returnType := none }, accessFlags := 1, code := none }
/-- java/lang/Object -/
def k0 : Class := { plain "java/lang/Object" none with
  accessFlags := 33
  interfaces := #[]
  cf := some (fileOf pool0 8 #[] #[{ accessFlags := 1, nameIndex := 5, descriptorIndex := 6, attributes := #[] }] 33 0 #[] #[])
  fields := #[]
  methods := #[k0m0]
  instanceTypes := #[]
  staticTypes := #[]
  resolved := Array.replicate 124 none
  statics := none }

def pool1 : Array CpInfo := pool [(2, .class_ 4), (1, u "java/lang/Object"), (0, u "<init>"), (0, u "()V"), (0, .integer 2147483647), (0, .methodref 9 10), (0, .class_ 11), (0, .nameAndType 12 13), (0, u "com/example/shiftwise/shiftwise/SubPopulationSquaredDistancePinLaw"), (0, u "fill"), (0, u "([DJ)V"), (0, .methodref 9 15), (0, .nameAndType 16 17), (0, u "term"), (0, u "(JJII)J"), (0, .methodref 19 20), (0, .class_ 21), (0, .nameAndType 22 23), (0, u "com/example/shiftwise/shiftwise/SubPopulation"), (0, u "squaredDistance"), (0, u "([D[D)D"), (0, .methodref 9 25), (0, .nameAndType 26 27), (0, u "coord"), (0, u "(JI)J"), (2, u "law"), (0, u "(IJJ)Z")] 5

def k1m0 : Method := { name := "<init>", desc := "()V", sig := { parameters := [], returnType := none }, accessFlags := 1, code := none }
def k1c1 : Code := { maxStack := 8, maxLocals := 12, code := code, exceptionTable := #[], attributes := #[] }
def k1m1 : Method := { name := "law", desc := "(IJJ)Z", sig := { parameters := [.int, .long, .long], returnType := some .boolean }, accessFlags := 9, code := some k1c1 }
def k1c2 : Code := { maxStack := 4, maxLocals := 3, code := method_3_code, exceptionTable := #[], attributes := #[] }
def k1m2 : Method := { name := "coord", desc := "(JI)J", sig := { parameters := [.long, .int], returnType := some .long }, accessFlags := 10, code := some k1c2 }
def k1c3 : Code := { maxStack := 5, maxLocals := 3, code := method_4_code, exceptionTable := #[], attributes := #[] }
def k1m3 : Method := { name := "fill", desc := "([DJ)V", sig := { parameters := [(.array .double), .long], returnType := none }, accessFlags := 10, code := some k1c3 }
def k1c4 : Code := { maxStack := 5, maxLocals := 8, code := method_5_code, exceptionTable := #[], attributes := #[] }
def k1m4 : Method := { name := "term", desc := "(JJII)J", sig := { parameters := [.long, .long, .int, .int], returnType := some .long }, accessFlags := 10, code := some k1c4 }
/-- com/example/shiftwise/shiftwise/SubPopulationSquaredDistancePinLaw -/
def k1 : Class := { plain "com/example/shiftwise/shiftwise/SubPopulationSquaredDistancePinLaw" (some 0) with
  accessFlags := 49
  interfaces := #[]
  cf := some (fileOf pool1 9 #[] #[{ accessFlags := 1, nameIndex := 5, descriptorIndex := 6, attributes := #[] }, { accessFlags := 9, nameIndex := 30, descriptorIndex := 31, attributes := #[] }, { accessFlags := 10, nameIndex := 26, descriptorIndex := 27, attributes := #[] }, { accessFlags := 10, nameIndex := 12, descriptorIndex := 13, attributes := #[] }, { accessFlags := 10, nameIndex := 16, descriptorIndex := 17, attributes := #[] }] 49 2 #[] #[])
  fields := #[]
  methods := #[k1m0, k1m1, k1m2, k1m3, k1m4]
  instanceTypes := #[]
  staticTypes := #[]
  resolved := Array.replicate 37 none
  statics := none }

def pool2 : Array CpInfo := pool [(2, .class_ 4), (1, u "java/lang/Object"), (2, .class_ 8), (0, u "com/example/shiftwise/shiftwise/SubPopulation"), (2, u "gains"), (0, u "[D"), (2, u "problem"), (0, u "Lcom/example/shiftwise/shiftwise/Problem;"), (2, u "control"), (0, u "Lcom/example/shiftwise/shiftwise/ParameterControl;"), (8, u "lower"), (0, u "D"), (5, u "upper"), (5, u "[[D"), (2, u "individuals"), (2, u "values"), (2, u "scaleFactors"), (2, u "crossoverRates"), (2, u "keptBest"), (2, u "trial"), (2, u "others"), (0, u "[I"), (2, u "weakest"), (0, u "[Z"), (48, u "record"), (0, u "Lcom/example/shiftwise/shiftwise/PeakRecord;"), (33, u "best"), (0, u "I"), (57, u "keptValue"), (8, u "squaredDistance"), (0, u "([D[D)D"), (11, u "nextGain"), (19, .class_ 254), (0, u "com/example/shiftwise/shiftwise/SubPopulation$BudgetSpent"), (2, u "DIFFERENCE_VECTORS"), (2, u "GAINS_KEPT")] 32

def k2c0 : Code := { maxStack := 6, maxLocals := 7, code := prog_41_method_25_code, exceptionTable := #[], attributes := #[] }
def k2m0 : Method := { name := "squaredDistance", desc := "([D[D)D", sig := { parameters := [(.array .double), (.array .double)], returnType := some .double }, accessFlags := 8, code := some k2c0 }
/-- com/example/shiftwise/shiftwise/SubPopulation -/
def k2 : Class := { plain "com/example/shiftwise/shiftwise/SubPopulation" (some 0) with
  accessFlags := 48
  interfaces := #[]
  cf := some (fileOf pool2 7 #[.nestMembers #[253]] #[{ accessFlags := 8, nameIndex := 220, descriptorIndex := 221, attributes := #[] }] 48 2 #[] #[{ accessFlags := 26, nameIndex := 257, descriptorIndex := 153, attributes := #[] }, { accessFlags := 26, nameIndex := 260, descriptorIndex := 153, attributes := #[] }, { accessFlags := 18, nameIndex := 15, descriptorIndex := 16, attributes := #[] }, { accessFlags := 18, nameIndex := 19, descriptorIndex := 20, attributes := #[] }, { accessFlags := 18, nameIndex := 29, descriptorIndex := 30, attributes := #[] }, { accessFlags := 18, nameIndex := 36, descriptorIndex := 30, attributes := #[] }, { accessFlags := 18, nameIndex := 45, descriptorIndex := 42, attributes := #[] }, { accessFlags := 18, nameIndex := 48, descriptorIndex := 12, attributes := #[] }, { accessFlags := 18, nameIndex := 51, descriptorIndex := 12, attributes := #[] }, { accessFlags := 18, nameIndex := 54, descriptorIndex := 12, attributes := #[] }, { accessFlags := 2, nameIndex := 152, descriptorIndex := 153, attributes := #[] }, { accessFlags := 18, nameIndex := 11, descriptorIndex := 12, attributes := #[] }, { accessFlags := 2, nameIndex := 233, descriptorIndex := 153, attributes := #[] }, { accessFlags := 18, nameIndex := 57, descriptorIndex := 12, attributes := #[] }, { accessFlags := 2, nameIndex := 211, descriptorIndex := 30, attributes := #[] }, { accessFlags := 2, nameIndex := 117, descriptorIndex := 118, attributes := #[] }, { accessFlags := 18, nameIndex := 60, descriptorIndex := 12, attributes := #[] }, { accessFlags := 18, nameIndex := 63, descriptorIndex := 64, attributes := #[] }, { accessFlags := 18, nameIndex := 67, descriptorIndex := 68, attributes := #[] }])
  fields := #[{ name := "DIFFERENCE_VECTORS", type := .int, accessFlags := 26, slot := 0, constantValue := 0 }, { name := "GAINS_KEPT", type := .int, accessFlags := 26, slot := 1, constantValue := 0 }, { name := "problem", type := (.object "com/example/shiftwise/shiftwise/Problem"), accessFlags := 18, slot := 0, constantValue := 0 }, { name := "control", type := (.object "com/example/shiftwise/shiftwise/ParameterControl"), accessFlags := 18, slot := 1, constantValue := 0 }, { name := "lower", type := .double, accessFlags := 18, slot := 2, constantValue := 0 }, { name := "upper", type := .double, accessFlags := 18, slot := 3, constantValue := 0 }, { name := "individuals", type := (.array (.array .double)), accessFlags := 18, slot := 4, constantValue := 0 }, { name := "values", type := (.array .double), accessFlags := 18, slot := 5, constantValue := 0 }, { name := "scaleFactors", type := (.array .double), accessFlags := 18, slot := 6, constantValue := 0 }, { name := "crossoverRates", type := (.array .double), accessFlags := 18, slot := 7, constantValue := 0 }, { name := "best", type := .int, accessFlags := 2, slot := 8, constantValue := 0 }, { name := "gains", type := (.array .double), accessFlags := 18, slot := 9, constantValue := 0 }, { name := "nextGain", type := .int, accessFlags := 2, slot := 10, constantValue := 0 }, { name := "keptBest", type := (.array .double), accessFlags := 18, slot := 11, constantValue := 0 }, { name := "keptValue", type := .double, accessFlags := 2, slot := 12, constantValue := 0 }, { name := "record", type := (.object "com/example/shiftwise/shiftwise/PeakRecord"), accessFlags := 2, slot := 13, constantValue := 0 }, { name := "trial", type := (.array .double), accessFlags := 18, slot := 14, constantValue := 0 }, { name := "others", type := (.array .int), accessFlags := 18, slot := 15, constantValue := 0 }, { name := "weakest", type := (.array .boolean), accessFlags := 18, slot := 16, constantValue := 0 }]
  methods := #[k2m0]
  instanceTypes := #[(.object "com/example/shiftwise/shiftwise/Problem"), (.object "com/example/shiftwise/shiftwise/ParameterControl"), .double, .double, (.array (.array .double)), (.array .double), (.array .double), (.array .double), .int, (.array .double), .int, (.array .double), .double, (.object "com/example/shiftwise/shiftwise/PeakRecord"), (.array .double), (.array .int), (.array .boolean)]
  staticTypes := #[.int, .int]
  resolved := Array.replicate 293 none
  statics := none }

def pool3 : Array CpInfo := pool [(1, u "java/lang/Cloneable"), (0, .class_ 1), (0, u "java/lang/Object"), (0, .class_ 3)] 3

/-- java/lang/Cloneable -/
def k3 : Class := { plain "java/lang/Cloneable" (some 0) with
  accessFlags := 1537
  interfaces := #[]
  cf := some (fileOf pool3 2 #[] #[] 1537 4 #[] #[])
  fields := #[]
  methods := #[]
  instanceTypes := #[]
  staticTypes := #[]
  resolved := Array.replicate 8 none
  statics := none }

def pool4 : Array CpInfo := pool [(1, u "java/io/Serializable"), (0, .class_ 1), (0, u "java/lang/Object"), (0, .class_ 3)] 3

/-- java/io/Serializable -/
def k4 : Class := { plain "java/io/Serializable" (some 0) with
  accessFlags := 1537
  interfaces := #[]
  cf := some (fileOf pool4 2 #[] #[] 1537 4 #[] #[])
  fields := #[]
  methods := #[]
  instanceTypes := #[]
  staticTypes := #[]
  resolved := Array.replicate 8 none
  statics := none }

/-- the primitive byte -/
def k5 : Class := { plain "byte" none with kind := .primitive 'B', accessFlags := 0x411 }
/-- [B -/
def k6 : Class := { plain "[B" (some 0) with kind := .array 5 .byte, interfaces := #[3, 4], accessFlags := 1041 }

/-- the primitive double -/
def k7 : Class := { plain "double" none with kind := .primitive 'D', accessFlags := 0x411 }
/-- [D -/
def k8 : Class := { plain "[D" (some 0) with kind := .array 7 .double, interfaces := #[3, 4], accessFlags := 1041 }

/-- the primitive int -/
def k9 : Class := { plain "int" none with kind := .primitive 'I', accessFlags := 0x411 }
/-- [I -/
def k10 : Class := { plain "[I" (some 0) with kind := .array 9 .int, interfaces := #[3, 4], accessFlags := 1041 }

def heap : Heap := #[]
def classes : Array Class := #[k0, k1, k2, k3, k4, k5, k6, k7, k8, k9, k10]
def interned : List (Array UInt16 × Addr) := []
def slotsUsed : Nat := 0
def theMethod : MethodId := ⟨1, 1⟩
def args0 : Array Value := #[.int 3, .long 4295098369, .long 77]
def aboutOver (below : List Frame) : State where
  vm := { classes := classes, interned := interned.toArray }
  heap := heap
  slotsUsed := slotsUsed
  threads := #[{ frames := .invoking theMethod args0 :: below }]
def below0 : List Frame := [.native { method := ⟨0, 0⟩, args := #[] }]
def about1 : State := aboutOver below0
def p0 : Program := .bare "" "" ""
def e0 : Env := launch0.env 0 0 0
theorem w_frames : about1.frames = Frame.invoking theMethod args0 :: below0 := rfl
set_option maxRecDepth 65536 in
theorem w_args : argsFit about1.vm theMethod args0 = true := by decide +kernel
set_option maxRecDepth 65536 in
theorem w_heap : heapFits about1 = true := by decide +kernel
set_option maxRecDepth 65536 in
theorem w_runnable : about1.curStatus? = some .runnable := by decide +kernel
set_option maxRecDepth 65536 in
theorem w_alone : about1.alone = true := by decide +kernel
set_option maxRecDepth 65536 in
theorem w_named : about1.methodNamed? x = some theMethod := by decide +kernel
set_option maxRecDepth 65536 in
theorem w_hears : about1.hears theMethod below0 = true := by decide +kernel
set_option maxRecDepth 65536 in
theorem w_ripe : about1.ripe theMethod args0 below0 = true := by decide +kernel
theorem w_running : about1.status = .running := rfl
set_option maxRecDepth 65536 in
theorem w_room : about1.hasRoom e0.platform room_1 = true :=
  launch0.hasRoom_least _ room_1 (by decide +kernel) (by decide +kernel) (by decide +kernel) (by decide +kernel) (by decide +kernel) (by decide +kernel)
theorem allAtoms_all (ts : List Jvm.Cond) (a : Array Jvm.Value) (st : Jvm.State) : (allAtoms ts).before a st = ts.all (fun c => c.before a st) := by
  induction ts with
  | nil => rfl
  | cons c t ih =>
    show (Jvm.Cond.and c (allAtoms t)).before a st = _
    rw [Jvm.Cond.before_and, ih, List.all_cons]
def words1 : List Jvm.Cond := Jvm.Cond.code x code maxLocals ret :: tables_1
/-- a 'code' word, met by the world's own term for the bytes: nothing is compared byte by byte -/
theorem code_word {y : MethodName} {bytes : ByteArray} {mx : Nat} {rt : Option FieldType} {a : Array Value} {s : State} {m : MethodId} {meth : Method} {c : Code} (h1 : s.methodNamed? y = some m) (h2 : s.vm.method? m = some meth) (h3 : meth.code = some c) (h4 : c.code = bytes)
    (h5 : (c.maxLocals == mx && c.exceptionTable.isEmpty && decide (c.maxStack ≤ mostOperands) && decide (meth.sig.returnType = rt) && !meth.locks && decide (parseMethodDescriptor y.desc = some meth.sig)) = true) : (Jvm.Cond.code y bytes mx rt).before a s = true := by
  simp only [Bool.and_eq_true, beq_iff_eq, Bool.not_eq_true', decide_eq_true_eq] at h5
  obtain ⟨⟨⟨⟨⟨g1, g2⟩, g3⟩, g4⟩, g5⟩, g6⟩ := h5
  simp [Cond.before, Cond.holds, Cond.value, h1, h2, h3, h4, g1, g2, g3, g4, g5, g6]
def isCode : Jvm.Cond → Bool
  | .code _ _ _ _ => true
  | _ => false
theorem all_split {L : List Jvm.Cond} {P : Jvm.Cond → Bool} (h1 : L.all (fun c => isCode c || P c) = true) (h2 : ∀ c ∈ L.filter isCode, P c = true) : L.all P = true := by
  refine List.all_eq_true.mpr fun c hc => ?_
  have h := List.all_eq_true.mp h1 c hc
  rcases Bool.eq_false_or_eq_true (isCode c) with hi | hi
  · exact h2 c (List.mem_filter.mpr ⟨hc, hi⟩)
  · simpa [hi] using h
set_option maxRecDepth 65536 in
theorem w_c0 : (Jvm.Cond.code x code maxLocals ret).before args0 about1 = true := code_word (m := ⟨1, 1⟩) (meth := k1m1) (c := k1c1) (by decide +kernel) rfl rfl rfl (by decide +kernel)
set_option maxRecDepth 65536 in
theorem w_c1 : (Jvm.Cond.code ({ cls := "com/example/shiftwise/shiftwise/SubPopulationSquaredDistancePinLaw", name := "fill", desc := "([DJ)V" } : Jvm.MethodName) method_4_code (3 : Nat) (Option.none : Option Jvm.ClassFile.FieldType)).before args0 about1 = true := code_word (m := ⟨1, 3⟩) (meth := k1m3) (c := k1c3) (by decide +kernel) rfl rfl rfl (by decide +kernel)
set_option maxRecDepth 65536 in
theorem w_c2 : (Jvm.Cond.code ({ cls := "com/example/shiftwise/shiftwise/SubPopulationSquaredDistancePinLaw", name := "term", desc := "(JJII)J" } : Jvm.MethodName) method_5_code (8 : Nat) (Option.some Jvm.ClassFile.FieldType.long)).before args0 about1 = true := code_word (m := ⟨1, 4⟩) (meth := k1m4) (c := k1c4) (by decide +kernel) rfl rfl rfl (by decide +kernel)
set_option maxRecDepth 65536 in
theorem w_c3 : (Jvm.Cond.code ({ cls := "com/example/shiftwise/shiftwise/SubPopulation", name := "squaredDistance", desc := "([D[D)D" } : Jvm.MethodName) prog_41_method_25_code (7 : Nat) (Option.some Jvm.ClassFile.FieldType.double)).before args0 about1 = true := code_word (m := ⟨2, 0⟩) (meth := k2m0) (c := k2c0) (by decide +kernel) rfl rfl rfl (by decide +kernel)
set_option maxRecDepth 65536 in
theorem w_c4 : (Jvm.Cond.code ({ cls := "com/example/shiftwise/shiftwise/SubPopulationSquaredDistancePinLaw", name := "coord", desc := "(JI)J" } : Jvm.MethodName) method_3_code (3 : Nat) (Option.some Jvm.ClassFile.FieldType.long)).before args0 about1 = true := code_word (m := ⟨1, 2⟩) (meth := k1m2) (c := k1c2) (by decide +kernel) rfl rfl rfl (by decide +kernel)
def codes1 : List Jvm.Cond := [Jvm.Cond.code x code maxLocals ret, Jvm.Cond.code ({ cls := "com/example/shiftwise/shiftwise/SubPopulationSquaredDistancePinLaw", name := "fill", desc := "([DJ)V" } : Jvm.MethodName) method_4_code (3 : Nat) (Option.none : Option Jvm.ClassFile.FieldType), Jvm.Cond.code ({ cls := "com/example/shiftwise/shiftwise/SubPopulationSquaredDistancePinLaw", name := "term", desc := "(JJII)J" } : Jvm.MethodName) method_5_code (8 : Nat) (Option.some Jvm.ClassFile.FieldType.long), Jvm.Cond.code ({ cls := "com/example/shiftwise/shiftwise/SubPopulation", name := "squaredDistance", desc := "([D[D)D" } : Jvm.MethodName) prog_41_method_25_code (7 : Nat) (Option.some Jvm.ClassFile.FieldType.double), Jvm.Cond.code ({ cls := "com/example/shiftwise/shiftwise/SubPopulationSquaredDistancePinLaw", name := "coord", desc := "(JI)J" } : Jvm.MethodName) method_3_code (3 : Nat) (Option.some Jvm.ClassFile.FieldType.long)]
set_option maxRecDepth 65536 in
theorem codes_eq : words1.filter isCode = codes1 := rfl
theorem w_codes : ∀ c ∈ words1.filter isCode, c.before args0 about1 = true := by
  rw [codes_eq]
  intro c hc
  simp only [codes1, List.mem_cons, List.not_mem_nil, or_false] at hc
  rcases hc with rfl | rfl | rfl | rfl | rfl
  · exact w_c0
  · exact w_c1
  · exact w_c2
  · exact w_c3
  · exact w_c4
set_option maxRecDepth 65536 in
theorem w_t1 : words1.all (fun c => isCode c || c.before args0 about1) = true := by decide +kernel
theorem w_tables : (allAtoms (Jvm.Cond.code x code maxLocals ret :: tables_1)).before args0 about1 = true := by
  rw [allAtoms_all]
  show words1.all (fun c => c.before args0 about1) = true
  refine all_split ?_ w_codes
  rw [w_t1]
set_option maxRecDepth 65536 in
theorem w_case : (Jvm.Cond.and given_1 narrow_1).before args0 about1 = true := by decide +kernel
theorem w_applies : (headSpec (Jvm.Cond.code x code maxLocals ret :: tables_1) room_1).applies x e0.platform about1 = true :=
  (Spec.applies_iff w_frames).mpr ⟨w_running, w_runnable, w_alone, w_named, w_hears, w_ripe, w_room, w_tables⟩
theorem atStart : AtStart classFile x code maxLocals ret World_1 tables_1 room_1 Calls_1 rest_1 Pre_1 launch0 p0 e0 about1 theMethod args0 below0 :=
  ⟨lists_1, trivial, launch0.admits_env _ _ _, launch0.least_env, fairChoices_fair.cas, fairChoices_fair.clock, w_frames, w_args, w_heap, w_applies, trivial, trivial, w_case⟩
end start1
theorem witness_1 : WitnessClaimed_1 := ⟨start1.p0, start1.e0, start1.about1, start1.theMethod, start1.args0, start1.below0, start1.atStart⟩
end Jvm.Pilot.@@N@@
