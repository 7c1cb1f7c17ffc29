import JvmDerived
import JvmDerived.Pilot.@@N@@Statement
import JvmDerived.Pilot.@@N@@Code
set_option linter.unusedVariables false
set_option linter.unusedSimpArgs false

namespace Jvm.Pilot.@@N@@
open Jvm Jvm.ClassFile Sem Op Lib Jvm.Free Jvm.Stand Jvm.LawKit Jvm.RoadKit Bundle Jvm.Pilot.@@N@@.Jvm.D
/-- from the state S the invocation runs to its end and Q holds there -/
def Ends (p : Program) (e : Env) (below : List Frame) (s : State) (Q : Option Value → Heap → List Loc → Prop) (K N : Nat) (S : State) : Prop :=
  ∃ s₂ o, Steps p.tables e below S s₂ ∧ s₂.status = .running ∧ Ended s₂ below o ∧ ∃ v L, o = .returned v ∧ Q v s₂.heap L ∧ FrameEnd s o s₂ L K N
/-- a method's contract at given arguments and heap -/
def Con (l : Launch) (Z : State) (y : MethodName) (bytes : ByteArray) (maxL : Nat) (rt : Option FieldType) (rm : Room) (as' : Array Value) (h0 : Heap) (Q : Option Value → Heap → List Loc → Prop) : Prop :=
  ∀ ws, MetFree l y (head1 (Jvm.Cond.code y bytes maxL rt :: ws) rm) (fun a U => a = as' ∧ Z.Warmed39 U.vm ∧ U.heap = h0) (fun _ _ _ _ _ => True) (fun _ U o U' => ∃ v L, o = .returned v ∧ Q v U'.heap L ∧ FrameEnd U o U' L rm.cells rm.slots)
section Own
variable {p : Program} {l : Launch} {e : Env} {R : Room} {s : State} {m : MethodId} {args : Array Value} {below : List Frame} {meth : Method} {c : Code} {T : State} {locs : List Loc} {cells slots : Nat} {Q : Option Value → Heap → List Loc → Prop} {K N : Nat} {pc pc' : Nat} {Ls Ls' : Array Slot} {st : List Value} {Z : State} {a0 : Array Value} {h : Heap}
theorem Ends.go {S S' : State} (g : ∀ t, Steps p.tables e below S' t → Steps p.tables e below S t) (E : Ends p e below s Q K N S') : Ends p e below s Q K N S := by
  obtain ⟨s2, o, h1, r⟩ := E; exact ⟨s2, o, g _ h1, r⟩
theorem Con.ofP {y : MethodName} {bytes : ByteArray} {maxL : Nat} {rt : Option FieldType} {rm : Room} {as' : Array Value} {h0 : Heap} (hn : plainFor y = true)
    (body : ∀ (p : Program) (e : Env) (s : State) (m : MethodId) (below : List Frame) (meth : Method) (c : Code) (T : State), Stand p l e rm s m as' below meth c T [] 0 0 → p.tables.exec = Jvm.exec → c.code = bytes → c.maxLocals = maxL → meth.sig.returnType = rt → meth.locks = false → s.vm.findClass y.cls = some m.cls → meth.name = y.name → Z.Warmed39 s.vm → T.heap = h0 →
      Ends p e below s Q rm.cells rm.slots (T.setTop (entryFrame m as' maxL))) : Con l Z y bytes maxL rt rm as' h0 Q := by
  intro ws
  refine MetFree.of_bodySF hn hisR ?_
  intro p e s m args below meth c s₁ Bd hml0 hP hK
  obtain ⟨ha, hZ, hh⟩ := hP
  subst ha
  have X0 : Stand p l e rm s m _ below meth c s₁ [] 0 0 := Stand.of_body Bd
  have e0 : s₁.heap = h0 := by rw [← hh, Bd.state]; rfl
  exact body p e s m below meth c s₁ X0 Bd.exec Bd.bytes hml0 Bd.returns (BodyLoose.notSynchronized Bd) (findClass_of_methodNamed Bd.named) (name_of_methodNamed Bd.named Bd.method).1 hZ e0
theorem Con.of {y : MethodName} {bytes : ByteArray} {maxL : Nat} {rt : Option FieldType} {rm : Room} {as' : Array Value} {h0 : Heap} (hn : plainName y.cls = true)
    (body : ∀ (p : Program) (e : Env) (s : State) (m : MethodId) (below : List Frame) (meth : Method) (c : Code) (T : State), Stand p l e rm s m as' below meth c T [] 0 0 → p.tables.exec = Jvm.exec → c.code = bytes → c.maxLocals = maxL → meth.sig.returnType = rt → meth.locks = false → s.vm.findClass y.cls = some m.cls → meth.name = y.name → Z.Warmed39 s.vm → T.heap = h0 →
      Ends p e below s Q rm.cells rm.slots (T.setTop (entryFrame m as' maxL))) : Con l Z y bytes maxL rt rm as' h0 Q := Con.ofP (plainFor_of_name hn) body
theorem o_aloadN (X : Stand p l e R s m args below meth c T locs cells slots) (hx : p.tables.exec = Jvm.exec) {k : Fin 4} {v : Value} (hd : decode c.code pc = .ok (.aload_n k, 1)) (hl : Ls[k.val]? = some (.val v)) (hv : v.isRef = true) (hp : pc + 1 = pc') (E : Ends p e below s Q K N (T.setTop (mkF m pc' Ls (v :: st)))) : Ends p e below s Q K N (T.setTop (mkF m pc Ls st)) := by
  subst hp; exact Ends.go (fun t q => XS.aloadN X.here hx rfl hd hl hv q) E
theorem o_aload (X : Stand p l e R s m args below meth c T locs cells slots) (hx : p.tables.exec = Jvm.exec) {k : Nat} {v : Value} (hd : decode c.code pc = .ok (.aload k, 2)) (hl : Ls[k]? = some (.val v)) (hv : v.isRef = true) (hp : pc + 2 = pc') (E : Ends p e below s Q K N (T.setTop (mkF m pc' Ls (v :: st)))) : Ends p e below s Q K N (T.setTop (mkF m pc Ls st)) := by
  subst hp; exact Ends.go (fun t q => XS.aload X.here hx rfl hd hl hv q) E
theorem o_iloadN (X : Stand p l e R s m args below meth c T locs cells slots) (hx : p.tables.exec = Jvm.exec) {k : Fin 4} {v : Int32} (hd : decode c.code pc = .ok (.iload_n k, 1)) (hl : Ls[k.val]? = some (.val (.int v))) (hp : pc + 1 = pc') (E : Ends p e below s Q K N (T.setTop (mkF m pc' Ls (.int v :: st)))) : Ends p e below s Q K N (T.setTop (mkF m pc Ls st)) := by
  subst hp; exact Ends.go (fun t q => XS.iloadN X.here hx rfl hd hl q) E
theorem o_iload (X : Stand p l e R s m args below meth c T locs cells slots) (hx : p.tables.exec = Jvm.exec) {k : Nat} {v : Int32} (hd : decode c.code pc = .ok (.iload k, 2)) (hl : Ls[k]? = some (.val (.int v))) (hp : pc + 2 = pc') (E : Ends p e below s Q K N (T.setTop (mkF m pc' Ls (.int v :: st)))) : Ends p e below s Q K N (T.setTop (mkF m pc Ls st)) := by
  subst hp; exact Ends.go (fun t q => XS.iload X.here hx rfl hd hl q) E
theorem o_istoreN (X : Stand p l e R s m args below meth c T locs cells slots) (hx : p.tables.exec = Jvm.exec) {k : Fin 4} {v : Int32} (hd : decode c.code pc = .ok (.istore_n k, 1)) (hl : storeLocals Ls k.val (.int v) = some Ls') (hp : pc + 1 = pc') (E : Ends p e below s Q K N (T.setTop (mkF m pc' Ls' st))) : Ends p e below s Q K N (T.setTop (mkF m pc Ls (.int v :: st))) := by
  subst hp; exact Ends.go (fun t q => XS.istoreN X.here hx rfl hd rfl hl q) E
theorem o_istore (X : Stand p l e R s m args below meth c T locs cells slots) (hx : p.tables.exec = Jvm.exec) {k : Nat} {v : Int32} (hd : decode c.code pc = .ok (.istore k, 2)) (hl : storeLocals Ls k (.int v) = some Ls') (hp : pc + 2 = pc') (E : Ends p e below s Q K N (T.setTop (mkF m pc' Ls' st))) : Ends p e below s Q K N (T.setTop (mkF m pc Ls (.int v :: st))) := by
  subst hp; exact Ends.go (fun t q => XS.istore X.here hx rfl hd rfl hl q) E
theorem o_astoreN (X : Stand p l e R s m args below meth c T locs cells slots) (hx : p.tables.exec = Jvm.exec) {k : Fin 4} {v : Value} (hd : decode c.code pc = .ok (.astore_n k, 1)) (hv : v.isRef = true) (hl : storeLocals Ls k.val v = some Ls') (hp : pc + 1 = pc') (E : Ends p e below s Q K N (T.setTop (mkF m pc' Ls' st))) : Ends p e below s Q K N (T.setTop (mkF m pc Ls (v :: st))) := by
  subst hp; exact Ends.go (fun t q => XS.astoreN X.here hx rfl hd rfl hv hl q) E
theorem o_astore (X : Stand p l e R s m args below meth c T locs cells slots) (hx : p.tables.exec = Jvm.exec) {k : Nat} {v : Value} (hd : decode c.code pc = .ok (.astore k, 2)) (hv : v.isRef = true) (hl : storeLocals Ls k v = some Ls') (hp : pc + 2 = pc') (E : Ends p e below s Q K N (T.setTop (mkF m pc' Ls' st))) : Ends p e below s Q K N (T.setTop (mkF m pc Ls (v :: st))) := by
  subst hp; exact Ends.go (fun t q => XS.astore X.here hx rfl hd rfl hv hl q) E
theorem o_iconst (X : Stand p l e R s m args below meth c T locs cells slots) (hx : p.tables.exec = Jvm.exec) {i : Int} {v : Int32} (hd : decode c.code pc = .ok (.iconst i, 1)) (hv : Int32.ofInt i = v) (hp : pc + 1 = pc') (E : Ends p e below s Q K N (T.setTop (mkF m pc' Ls (.int v :: st)))) : Ends p e below s Q K N (T.setTop (mkF m pc Ls st)) := by
  subst hp; exact Ends.go (fun t q => XS.iconst X.here hx rfl hd  (by rw [hv]; exact q)) E
theorem o_bipush (X : Stand p l e R s m args below meth c T locs cells slots) (hx : p.tables.exec = Jvm.exec) {i : Int} {v : Int32} (hd : decode c.code pc = .ok (.bipush i, 2)) (hv : (Int8.ofInt i).toInt32 = v) (hp : pc + 2 = pc') (E : Ends p e below s Q K N (T.setTop (mkF m pc' Ls (.int v :: st)))) : Ends p e below s Q K N (T.setTop (mkF m pc Ls st)) := by
  subst hp; exact Ends.go (fun t q => XS.bipush X.here hx rfl hd  (by rw [hv]; exact q)) E
theorem o_iand (X : Stand p l e R s m args below meth c T locs cells slots) (hx : p.tables.exec = Jvm.exec) {x y : Int32} (hd : decode c.code pc = .ok (.iand, 1))  (hp : pc + 1 = pc') (E : Ends p e below s Q K N (T.setTop (mkF m pc' Ls (.int (x &&& y) :: st)))) : Ends p e below s Q K N (T.setTop (mkF m pc Ls (.int y :: .int x :: st))) := by
  subst hp; exact Ends.go (fun t q => XS.iand X.here hx rfl hd rfl q) E
theorem o_irem (X : Stand p l e R s m args below meth c T locs cells slots) (hx : p.tables.exec = Jvm.exec) {x y : Int32} (hd : decode c.code pc = .ok (.irem, 1)) (hy : y ≠ 0) (hp : pc + 1 = pc') (E : Ends p e below s Q K N (T.setTop (mkF m pc' Ls (.int (x % y) :: st)))) : Ends p e below s Q K N (T.setTop (mkF m pc Ls (.int y :: .int x :: st))) := by
  subst hp; exact Ends.go (fun t q => iremM (g := mkF m pc Ls (.int y :: .int x :: st)) X hx rfl hd rfl hy q) E
theorem o_ldc (X : Stand p l e R s m args below meth c T locs cells slots) (hx : p.tables.exec = Jvm.exec) {own : String} {index : Nat} {v : Int32} (hd : decode c.code pc = .ok (.ldc index, 2)) (hZ : Z.Warmed39 s.vm) (hown : s.vm.findClass own = some m.cls) (w : (Jvm.Cond.constant own index v).before a0 Z = true) (hp : pc + 2 = pc') (E : Ends p e below s Q K N (T.setTop (mkF m pc' Ls (.int v :: st)))) : Ends p e below s Q K N (T.setTop (mkF m pc Ls st)) := by
  subst hp; exact Ends.go (fun t q => X.ldcInt hx hown (mvT hZ w) (g := mkF m pc Ls st) rfl hd t q) E
theorem o_goto (X : Stand p l e R s m args below meth c T locs cells slots) (hx : p.tables.exec = Jvm.exec) {o : Int} (hd : decode c.code pc = .ok (.goto o, 3)) (ho : 0 ≤ (pc : Int) + o) (hp : ((pc : Int) + o).toNat = pc') (E : Ends p e below s Q K N (T.setTop (mkF m pc' Ls st))) : Ends p e below s Q K N (T.setTop (mkF m pc Ls st)) :=
  Ends.go (fun t q => XS.goto X.here hx rfl (pc0 := pc) rfl hd ho hp q) E
theorem o_icmp_eq (X : Stand p l e R s m args below meth c T locs cells slots) (hx : p.tables.exec = Jvm.exec) {x y : Int32} {o : Int} {p1 p2 : Nat} (hd : decode c.code pc = .ok (.if_icmp .eq o, 3)) (hp : pc + 3 = p1) (ho : 0 ≤ (pc : Int) + o) (hp2 : ((pc : Int) + o).toNat = p2) (E1 : x = y → Ends p e below s Q K N (T.setTop (mkF m p2 Ls st))) (E2 : ¬ x = y → Ends p e below s Q K N (T.setTop (mkF m p1 Ls st))) : Ends p e below s Q K N (T.setTop (mkF m pc Ls (.int y :: .int x :: st))) := by
  subst hp
  by_cases hc : x = y
  · exact Ends.go (fun t q => XS.icmpYes X.here hx rfl (pc0 := pc) rfl hd rfl ((teq hc).1) ho hp2 q) (E1 hc)
  · exact Ends.go (fun t q => XS.icmpNo X.here hx rfl hd rfl ((feq hc).1) q) (E2 hc)
theorem o_icmp_ne (X : Stand p l e R s m args below meth c T locs cells slots) (hx : p.tables.exec = Jvm.exec) {x y : Int32} {o : Int} {p1 p2 : Nat} (hd : decode c.code pc = .ok (.if_icmp .ne o, 3)) (hp : pc + 3 = p1) (ho : 0 ≤ (pc : Int) + o) (hp2 : ((pc : Int) + o).toNat = p2) (E1 : ¬ x = y → Ends p e below s Q K N (T.setTop (mkF m p2 Ls st))) (E2 : x = y → Ends p e below s Q K N (T.setTop (mkF m p1 Ls st))) : Ends p e below s Q K N (T.setTop (mkF m pc Ls (.int y :: .int x :: st))) := by
  subst hp
  by_cases hc : x = y
  · exact Ends.go (fun t q => XS.icmpNo X.here hx rfl hd rfl ((teq hc).2) q) (E2 hc)
  · exact Ends.go (fun t q => XS.icmpYes X.here hx rfl (pc0 := pc) rfl hd rfl ((feq hc).2) ho hp2 q) (E1 hc)
theorem o_if_eq (X : Stand p l e R s m args below meth c T locs cells slots) (hx : p.tables.exec = Jvm.exec) {x : Int32} {o : Int} {p1 p2 : Nat} (hd : decode c.code pc = .ok (.ifCond .eq o, 3)) (hp : pc + 3 = p1) (ho : 0 ≤ (pc : Int) + o) (hp2 : ((pc : Int) + o).toNat = p2) (E1 : x = 0 → Ends p e below s Q K N (T.setTop (mkF m p2 Ls st))) (E2 : ¬ x = 0 → Ends p e below s Q K N (T.setTop (mkF m p1 Ls st))) : Ends p e below s Q K N (T.setTop (mkF m pc Ls (.int x :: st))) := by
  subst hp
  by_cases hc : x = 0
  · exact Ends.go (fun t q => XS.ifYes X.here hx rfl (pc0 := pc) rfl hd rfl ((if0 _ _).trans ((teq hc).1)) ho hp2 q) (E1 hc)
  · exact Ends.go (fun t q => XS.ifNo X.here hx rfl hd rfl ((if0 _ _).trans ((feq hc).1)) q) (E2 hc)
theorem o_if_ne (X : Stand p l e R s m args below meth c T locs cells slots) (hx : p.tables.exec = Jvm.exec) {x : Int32} {o : Int} {p1 p2 : Nat} (hd : decode c.code pc = .ok (.ifCond .ne o, 3)) (hp : pc + 3 = p1) (ho : 0 ≤ (pc : Int) + o) (hp2 : ((pc : Int) + o).toNat = p2) (E1 : ¬ x = 0 → Ends p e below s Q K N (T.setTop (mkF m p2 Ls st))) (E2 : x = 0 → Ends p e below s Q K N (T.setTop (mkF m p1 Ls st))) : Ends p e below s Q K N (T.setTop (mkF m pc Ls (.int x :: st))) := by
  subst hp
  by_cases hc : x = 0
  · exact Ends.go (fun t q => XS.ifNo X.here hx rfl hd rfl ((if0 _ _).trans ((teq hc).2)) q) (E2 hc)
  · exact Ends.go (fun t q => XS.ifYes X.here hx rfl (pc0 := pc) rfl hd rfl ((if0 _ _).trans ((feq hc).2)) ho hp2 q) (E1 hc)
theorem o_acmp (X : Stand p l e R s m args below meth c T locs cells slots) (hx : p.tables.exec = Jvm.exec) {cd : ACond} {a b : Addr} {o : Int} {p1 p2 : Nat} (hd : decode c.code pc = .ok (.if_acmp cd o, 3)) (hp : pc + 3 = p1) (ho : 0 ≤ (pc : Int) + o) (hp2 : ((pc : Int) + o).toNat = p2) (E1 : (cd = .eq ∧ a = b) ∨ (cd = .ne ∧ ¬ a = b) → Ends p e below s Q K N (T.setTop (mkF m p2 Ls st))) (E2 : (cd = .eq ∧ ¬ a = b) ∨ (cd = .ne ∧ a = b) → Ends p e below s Q K N (T.setTop (mkF m p1 Ls st))) : Ends p e below s Q K N (T.setTop (mkF m pc Ls (.ref b :: .ref a :: st))) := by
  subst hp hp2
  by_cases hc : a = b
  · cases cd
    · exact Ends.go (fun t q => Jvm.RoadKit.acmp (g := mkF m pc Ls (.ref b :: .ref a :: st)) X hx rfl rfl rfl (pc0 := pc) (same := true) rfl hd rfl (decide_eq_true (congrArg Value.ref hc)) ho (by simp [acV]) q) (E1 (Or.inl ⟨rfl, hc⟩))
    · exact Ends.go (fun t q => Jvm.RoadKit.acmp (g := mkF m pc Ls (.ref b :: .ref a :: st)) X hx rfl rfl rfl (pc0 := pc) (same := true) rfl hd rfl (decide_eq_true (congrArg Value.ref hc)) ho (by simp [acV]) q) (E2 (Or.inr ⟨rfl, hc⟩))
  · have hn : decide (Value.ref a = Value.ref b) = false := decide_eq_false (fun q => hc (Value.ref.inj q))
    cases cd
    · exact Ends.go (fun t q => Jvm.RoadKit.acmp (g := mkF m pc Ls (.ref b :: .ref a :: st)) X hx rfl rfl rfl (pc0 := pc) (same := false) rfl hd rfl hn ho (by simp [acV]) q) (E2 (Or.inl ⟨rfl, hc⟩))
    · exact Ends.go (fun t q => Jvm.RoadKit.acmp (g := mkF m pc Ls (.ref b :: .ref a :: st)) X hx rfl rfl rfl (pc0 := pc) (same := false) rfl hd rfl hn ho (by simp [acV]) q) (E1 (Or.inr ⟨rfl, hc⟩))
theorem o_acmp_eq (X : Stand p l e R s m args below meth c T locs cells slots) (hx : p.tables.exec = Jvm.exec) {a b : Addr} {o : Int} {p1 p2 : Nat} (hd : decode c.code pc = .ok (.if_acmp .eq o, 3)) (hp : pc + 3 = p1) (ho : 0 ≤ (pc : Int) + o) (hp2 : ((pc : Int) + o).toNat = p2) (E1 : a = b → Ends p e below s Q K N (T.setTop (mkF m p2 Ls st))) (E2 : ¬ a = b → Ends p e below s Q K N (T.setTop (mkF m p1 Ls st))) : Ends p e below s Q K N (T.setTop (mkF m pc Ls (.ref b :: .ref a :: st))) :=
  o_acmp X hx hd hp ho hp2 (fun q => E1 (by rcases q with ⟨-, q⟩ | ⟨q, -⟩; exact q; cases q)) (fun q => E2 (by rcases q with ⟨-, q⟩ | ⟨q, -⟩; exact q; cases q))
theorem o_ret (X : Stand p l e R s m args below meth c T locs cells slots) (hx : p.tables.exec = Jvm.exec) {w : Value} {t : FieldType} {i : Instr} (hlk : meth.locks = false) (hret : meth.sig.returnType = some t) (hd : decode c.code pc = .ok (i, 1)) (hn : narrow t w = w)
    (hi : (i = .ireturn ∧ (t = .int ∨ t = .boolean ∨ t = .byte ∨ t = .char ∨ t = .short) ∧ ∃ z, w = .int z) ∨ (i = .lreturn ∧ t = .long ∧ ∃ z, w = .long z) ∨ (i = .dreturn ∧ t = .double ∧ ∃ z, w = .double z) ∨ (i = .freturn ∧ t = .float ∧ ∃ z, w = .float z) ∨ (i = .areturn ∧ t.isReference = true ∧ w.isRef = true))
    (hq : Q (some w) T.heap locs) (hk : cells ≤ K) (hs : slots ≤ N) : Ends p e below s Q K N (T.setTop (mkF m pc Ls (w :: st))) := by
  obtain ⟨fs, hr, hrun, hended, hW, hsame⟩ := X.leave (v := some w) (fun h => by rw [hret] at h; cases h) hlk
  exact ⟨_, _, retOut X hx hret hn hi hd hr, hrun, hended, _, _, rfl, hq, ⟨_, rfl⟩, hW, hsame.mono hk hs⟩
theorem o_retZ (X : Stand p l e R s m args below meth c T locs cells slots) (hx : p.tables.exec = Jvm.exec) {z : Int32} (hlk : meth.locks = false) (hret : meth.sig.returnType = some .boolean) (hd : decode c.code pc = .ok (.ireturn, 1)) (hz : z &&& 1 = z) (hq : Q (some (.int z)) T.heap locs) (hk : cells ≤ K) (hs : slots ≤ N) : Ends p e below s Q K N (T.setTop (mkF m pc Ls (.int z :: st))) :=
  o_ret X hx hlk hret hd (by show Value.int (z &&& 1) = _; rw [hz]) (Or.inl ⟨rfl, Or.inr (Or.inl rfl), _, rfl⟩) hq hk hs
theorem o_retA (X : Stand p l e R s m args below meth c T locs cells slots) (hx : p.tables.exec = Jvm.exec) {w : Value} {t : FieldType} (ht : t.isReference = true) (hw : w.isRef = true) (hlk : meth.locks = false) (hret : meth.sig.returnType = some t) (hd : decode c.code pc = .ok (.areturn, 1)) (hq : Q (some w) T.heap locs) (hk : cells ≤ K) (hs : slots ≤ N) : Ends p e below s Q K N (T.setTop (mkF m pc Ls (w :: st))) :=
  o_ret X hx hlk hret hd (by cases t <;> first | rfl | (exact absurd ht (by decide))) (Or.inr (Or.inr (Or.inr (Or.inr ⟨rfl, ht, hw⟩)))) hq hk hs
theorem o_callS (X : Stand p l e R s m args below meth c T locs cells slots) (hx : p.tables.exec = Jvm.exec) (hZ : Z.Warmed39 s.vm) {own : String} {index : Nat} {y : MethodName} {bytes : ByteArray} {maxL : Nat} {rt : Option FieldType} {rm : Room} {argsL rest : List Value} {Q' : Option Value → Heap → List Loc → Prop} {ps : List FieldType} {pr : Option FieldType} (hown : s.vm.findClass own = some m.cls) (w1 : (Jvm.Cond.methodLink own index y).before a0 Z = true) (w2 : (Jvm.Cond.static y).before a0 Z = true) (w3 : (Jvm.Cond.initialized y.cls).before a0 Z = true) (w4 : (Jvm.Cond.code y bytes maxL rt).before a0 Z = true)
    (hy : y.cls ≠ "java/lang/invoke/MethodHandle" ∧ y.cls ≠ "java/lang/invoke/VarHandle") (eT : T.heap = h) (hM : Con l Z y bytes maxL rt rm argsL.toArray h Q') (hsz : Ls.size = c.maxLocals) (hpd : parseMethodDescriptor y.desc = some ⟨ps, pr⟩) (hlen : argsL.length = ps.length) (hst : st = argsL.reverse ++ rest) (hd : decode c.code pc = .ok (.invokestatic index, 3)) (hp : pc + 3 = pc')
    {W : Nat} (hf : rm.frames + 1 ≤ R.frames) (hW : (rest.map fun v => v.category).sum = W) (hl : W + (maxL + 11) + rm.locals ≤ R.locals) (hc : cells + rm.cells ≤ R.cells) (hs : slots + rm.slots ≤ R.slots)
    (E : ∀ (v : Option Value) (T' : State) (L : List Loc), Q' v T'.heap L → Stand p l e R s m args below meth c T' (locs ++ L) (cells + rm.cells) (slots + rm.slots) → Ends p e below s Q K N (T'.setTop (mkF m pc' Ls (v.toList ++ rest)))) : Ends p e below s Q K N (T.setTop (mkF m pc Ls st)) := by
  subst hp hst
  obtain ⟨v, _, ⟨T2, L2, k2, n2⟩, -, X2, ⟨Lc2, hQ2, l2, y2, z2⟩, st2⟩ := Jvm.LawKit.callS X hx (y := y) hown (mvT hZ w1) (mvT hZ w2) (mvT hZ w3) (mvT hZ w4) hy (backOf (W := W) (hM []) hZ w4 w3 hf hl) (g := mkF m pc Ls (argsL.reverse ++ rest)) rfl hsz (argsL := argsL) (rest := rest) (lenOf hpd hlen) rfl (by show 2 * 0 + _ ≤ _; omega) hd (fun _ _ => ⟨rfl, eT, hc, hs⟩)
  dsimp only [Pt.U, Pt.locs, Pt.cells, Pt.slots] at X2 l2 y2 z2 st2 hQ2
  subst l2 y2 z2
  exact Ends.go st2 (E v T2 Lc2 hQ2 X2)
theorem o_callV (X : Stand p l e R s m args below meth c T locs cells slots) (hx : p.tables.exec = Jvm.exec) (hZ : Z.Warmed39 s.vm) {own C : String} {index : Nat} {y : MethodName} {bytes : ByteArray} {maxL : Nat} {rt : Option FieldType} {rm : Room} {b : Addr} {argsL rest : List Value} {Q' : Option Value → Heap → List Loc → Prop} {ps : List FieldType} {pr : Option FieldType} (hown : s.vm.findClass own = some m.cls) (w1 : (Jvm.Cond.methodLink own index y).before a0 Z = true) (w2 : (Jvm.Cond.declares y).before a0 Z = true) (w5 : (Jvm.Cond.selects C y y).before a0 Z = true) (w6 : (Jvm.Cond.instanceMethod y).before a0 Z = true) (w3 : (Jvm.Cond.initialized y.cls).before a0 Z = true) (w4 : (Jvm.Cond.code y bytes maxL rt).before a0 Z = true)
    (hy : y.cls ≠ "java/lang/invoke/MethodHandle" ∧ y.cls ≠ "java/lang/invoke/VarHandle") (eT : T.heap = h) (X1 : Exa Z h b C) (hM : Con l Z y bytes maxL rt rm (.ref b :: argsL).toArray h Q') (hsz : Ls.size = c.maxLocals) (hpd : parseMethodDescriptor y.desc = some ⟨ps, pr⟩) (hlen : argsL.length = ps.length) (hst : st = argsL.reverse ++ .ref b :: rest) (hd : decode c.code pc = .ok (.invokevirtual index, 3)) (hp : pc + 3 = pc')
    {W : Nat} (hf : rm.frames + 1 ≤ R.frames) (hW : (rest.map fun v => v.category).sum = W) (hl : W + (maxL + 11) + rm.locals ≤ R.locals) (hc : cells + rm.cells ≤ R.cells) (hs : slots + rm.slots ≤ R.slots)
    (E : ∀ (v : Option Value) (T' : State) (L : List Loc), Q' v T'.heap L → Stand p l e R s m args below meth c T' (locs ++ L) (cells + rm.cells) (slots + rm.slots) → Ends p e below s Q K N (T'.setTop (mkF m pc' Ls (v.toList ++ rest)))) : Ends p e below s Q K N (T.setTop (mkF m pc Ls st)) := by
  subst hp hst
  obtain ⟨cq, kq, qa, qb, qc⟩ := isOf (T := T) hZ eT X1
  obtain ⟨v, _, ⟨T2, L2, k2, n2⟩, -, X2, ⟨Lc2, hQ2, l2, y2, z2⟩, st2⟩ := X.virtualBack hx (y := y) (z := y) hown (mvT hZ w1) (mvT hZ w2) (notFace_of_selects (args := #[]) (mvT hZ w5)) (mvT hZ w5) (mvT hZ w6) hy (backOf (W := W) (hM []) hZ w4 w3 hf hl) qa qc (g := mkF m pc Ls (argsL.reverse ++ .ref b :: rest)) rfl hsz (Steps.refl _) (argsL := argsL) (rest := rest) (lenOf hpd hlen) rfl (by show 2 * 0 + _ ≤ _; omega) hd (fun _ _ => ⟨rfl, eT, hc, hs⟩)
  dsimp only [Pt.U, Pt.locs, Pt.cells, Pt.slots] at X2 l2 y2 z2 st2 hQ2
  subst l2 y2 z2
  exact Ends.go (fun t q => st2.trans q) (E v T2 Lc2 hQ2 X2)
theorem o_getF (X : Stand p l e R s m args below meth c T locs cells slots) (hx : p.tables.exec = Jvm.exec) (hZ : Z.Warmed39 s.vm) {own R0 O n d : String} {index : Nat} {a : Addr} {v : Value} (hown : s.vm.findClass own = some m.cls) (w : (Jvm.Cond.fieldLink own index R0 n d).before a0 Z = true) (via : Via Z R0 O n d) (eT : T.heap = h) (F : Fld Z h a O n d v) (hd : decode c.code pc = .ok (.getfield index, 3)) (hp : pc + 3 = pc')
    (E : ∀ T', T'.heap = h → Stand p l e R s m args below meth c T' locs cells slots → Ends p e below s Q K N (T'.setTop (mkF m pc' Ls (v :: st)))) : Ends p e below s Q K N (T.setTop (mkF m pc Ls (.ref a :: st))) := by
  subst hp
  obtain ⟨T1, X1, e1, s1⟩ := getF X hx hZ hown (host := "") (Or.inl w) via eT F (g := mkF m pc Ls (.ref a :: st)) rfl rfl hd
  exact Ends.go s1 (E T1 e1 X1)
theorem o_getS (X : Stand p l e R s m args below meth c T locs cells slots) (hx : p.tables.exec = Jvm.exec) (hZ : Z.Warmed39 s.vm) {own R0 O n d : String} {index : Nat} {v : Value} (hown : s.vm.findClass own = some m.cls) (w : (Jvm.Cond.fieldLink own index R0 n d).before a0 Z = true) (via : Via Z R0 O n d) (eT : T.heap = h) (F : Sta Z h O n d v) (hd : decode c.code pc = .ok (.getstatic index, 3)) (hp : pc + 3 = pc')
    (E : ∀ T', T'.heap = h → Stand p l e R s m args below meth c T' locs cells slots → Ends p e below s Q K N (T'.setTop (mkF m pc' Ls (v :: st)))) : Ends p e below s Q K N (T.setTop (mkF m pc Ls st)) := by
  subst hp
  obtain ⟨T1, X1, e1, s1⟩ := getS X hx hZ hown (host := "") w via eT F (g := mkF m pc Ls st) rfl hd
  exact Ends.go s1 (E T1 e1 X1)
theorem own_eqI {idx : List Nat} {t : Term} {k : Int32} (h : (Jvm.Cond.eq t (.int k)).value args s none s idx = some true) : t.eval args s none idx s = some (.int k) := by
  obtain ⟨x, y, e1, e2, -, k2⟩ := cmp_v (Or.inl h)
  have hy : y = .int k := (Option.some.inj ((Term.int_eval k).symm.trans e2)).symm
  subst hy
  obtain ⟨z, rfl⟩ := k2
  have hz : z = k := gotT (Cond.eq_ints e1 e2) h
  rw [e1, hz]
theorem own_eqR {idx : List Nat} {t u : Term} {y : Addr} (h : (Jvm.Cond.eq t u).value args s none s idx = some true) (hu : u.eval args s none idx s = some (.ref y)) : t.eval args s none idx s = some (.ref y) := by
  obtain ⟨x, y', e1, e2, k1, k2⟩ := cmp_v (Or.inl h)
  cases hu.symm.trans e2
  have hx1 : x.isRef = true := by cases x <;> simp [Kin, Value.isRef] at k1 k2 ⊢
  have hz : x = .ref y := gotT (eq_R e1 e2 hx1 rfl) h
  rw [e1, hz]
theorem own_fldI {t : Term} {C n d : String} {a : Addr} {k : Int32} (ht : t.eval args s none [] s = some (.ref a)) (h : (Jvm.Cond.eq (.field t C n d) (.int k)).value args s none s [] = some true) : Fld s s.heap a C n d (.int k) :=
  Fld.start ((fld_at ht).symm.trans (own_eqI h))
theorem own_fldR {t u : Term} {C n d : String} {a b : Addr} (ht : t.eval args s none [] s = some (.ref a)) (h : (Jvm.Cond.eq (.field t C n d) u).value args s none s [] = some true) (hu : u.eval args s none [] s = some (.ref b)) : Fld s s.heap a C n d (.ref b) :=
  Fld.start ((fld_at ht).symm.trans (own_eqR h hu))
def Cont (cl : Cell) (n : Nat) (g : Nat → Value) : Prop := cl.slots.size = n ∧ ∀ k, k < n → cl.slots[k]? = some (g k)
theorem Cont.at {cl : Cell} {n : Nat} {g : Nat → Value} (C : Cont cl n g) {j : Int32} (h0 : 0 ≤ j.toInt) (h1 : j.toInt < n) : cl.slots[j.toNatClampNeg]? = some (g j.toNatClampNeg) := C.2 _ (by simp only [Int32.toNatClampNeg]; omega)
end Own
end Jvm.Pilot.@@N@@
namespace Jvm.Pilot.@@N@@
open Jvm Jvm.ClassFile Sem Op Lib Jvm.Free Jvm.Stand Jvm.LawKit Jvm.RoadKit Bundle Jvm.Pilot.@@N@@.Jvm.D
theorem pn_0 : plainName "org/chronolake/AbandonedByWriterPinLaw" = true := by first | (simp [plainName, overriddenIn]; done) | decide +kernel
theorem pd_0 : parseMethodDescriptor "(II)Z" = some ⟨[.int, .int], some .boolean⟩ := by decide +kernel
theorem d1_0 : decode method_2_code 0 = .ok (.iload_n 0, 1) := by decide +kernel
theorem d1_1 : decode method_2_code 1 = .ok (.ifCond .ne 7, 3) := by decide +kernel
theorem d1_4 : decode method_2_code 4 = .ok (.getstatic 7, 3) := by decide +kernel
theorem d1_7 : decode method_2_code 7 = .ok (.areturn, 1) := by decide +kernel
theorem d1_8 : decode method_2_code 8 = .ok (.iload_n 0, 1) := by decide +kernel
theorem d1_9 : decode method_2_code 9 = .ok (.iconst 1, 1) := by decide +kernel
theorem d1_10 : decode method_2_code 10 = .ok (.if_icmp .ne 7, 3) := by decide +kernel
theorem d1_13 : decode method_2_code 13 = .ok (.getstatic 13, 3) := by decide +kernel
theorem d1_16 : decode method_2_code 16 = .ok (.areturn, 1) := by decide +kernel
theorem d1_17 : decode method_2_code 17 = .ok (.iload_n 0, 1) := by decide +kernel
theorem d1_18 : decode method_2_code 18 = .ok (.iconst 2, 1) := by decide +kernel
theorem d1_19 : decode method_2_code 19 = .ok (.if_icmp .ne 7, 3) := by decide +kernel
theorem d1_22 : decode method_2_code 22 = .ok (.getstatic 16, 3) := by decide +kernel
theorem d1_25 : decode method_2_code 25 = .ok (.areturn, 1) := by decide +kernel
theorem d1_26 : decode method_2_code 26 = .ok (.getstatic 19, 3) := by decide +kernel
theorem d1_29 : decode method_2_code 29 = .ok (.areturn, 1) := by decide +kernel
theorem pn_1 : plainName "org/chronolake/AbandonedByWriterPinLaw" = true := by first | (simp [plainName, overriddenIn]; done) | decide +kernel
theorem pd_1 : parseMethodDescriptor "(I)Lorg/chronolake/Action$Abandoned;" = some ⟨[.int], some (.object "org/chronolake/Action$Abandoned")⟩ := by decide +kernel
theorem d2_0 : decode prog_3_method_4_code 0 = .ok (.aload_n 0, 1) := by decide +kernel
theorem d2_1 : decode prog_3_method_4_code 1 = .ok (.getstatic 13, 3) := by decide +kernel
theorem d2_4 : decode prog_3_method_4_code 4 = .ok (.if_acmp .eq 7, 3) := by decide +kernel
theorem d2_7 : decode prog_3_method_4_code 7 = .ok (.iconst 1, 1) := by decide +kernel
theorem d2_8 : decode prog_3_method_4_code 8 = .ok (.goto 4, 3) := by decide +kernel
theorem d2_11 : decode prog_3_method_4_code 11 = .ok (.iconst 0, 1) := by decide +kernel
theorem d2_12 : decode prog_3_method_4_code 12 = .ok (.ireturn, 1) := by decide +kernel
theorem pn_2 : plainName "org/chronolake/Action$Abandoned" = true := by first | (simp [plainName, overriddenIn]; done) | decide +kernel
theorem pd_2 : parseMethodDescriptor "()Z" = some ⟨[], some .boolean⟩ := by decide +kernel
theorem d3_0 : decode method_3_code 0 = .ok (.iload_n 0, 1) := by decide +kernel
theorem d3_1 : decode method_3_code 1 = .ok (.ifCond .ne 7, 3) := by decide +kernel
theorem d3_4 : decode method_3_code 4 = .ok (.getstatic 22, 3) := by decide +kernel
theorem d3_7 : decode method_3_code 7 = .ok (.areturn, 1) := by decide +kernel
theorem d3_8 : decode method_3_code 8 = .ok (.iload_n 0, 1) := by decide +kernel
theorem d3_9 : decode method_3_code 9 = .ok (.iconst 1, 1) := by decide +kernel
theorem d3_10 : decode method_3_code 10 = .ok (.if_icmp .ne 7, 3) := by decide +kernel
theorem d3_13 : decode method_3_code 13 = .ok (.getstatic 28, 3) := by decide +kernel
theorem d3_16 : decode method_3_code 16 = .ok (.areturn, 1) := by decide +kernel
theorem d3_17 : decode method_3_code 17 = .ok (.iload_n 0, 1) := by decide +kernel
theorem d3_18 : decode method_3_code 18 = .ok (.iconst 2, 1) := by decide +kernel
theorem d3_19 : decode method_3_code 19 = .ok (.if_icmp .ne 7, 3) := by decide +kernel
theorem d3_22 : decode method_3_code 22 = .ok (.getstatic 31, 3) := by decide +kernel
theorem d3_25 : decode method_3_code 25 = .ok (.areturn, 1) := by decide +kernel
theorem d3_26 : decode method_3_code 26 = .ok (.iload_n 0, 1) := by decide +kernel
theorem d3_27 : decode method_3_code 27 = .ok (.iconst 3, 1) := by decide +kernel
theorem d3_28 : decode method_3_code 28 = .ok (.if_icmp .ne 7, 3) := by decide +kernel
theorem d3_31 : decode method_3_code 31 = .ok (.getstatic 34, 3) := by decide +kernel
theorem d3_34 : decode method_3_code 34 = .ok (.areturn, 1) := by decide +kernel
theorem d3_35 : decode method_3_code 35 = .ok (.iload_n 0, 1) := by decide +kernel
theorem d3_36 : decode method_3_code 36 = .ok (.iconst 4, 1) := by decide +kernel
theorem d3_37 : decode method_3_code 37 = .ok (.if_icmp .ne 7, 3) := by decide +kernel
theorem d3_40 : decode method_3_code 40 = .ok (.getstatic 37, 3) := by decide +kernel
theorem d3_43 : decode method_3_code 43 = .ok (.areturn, 1) := by decide +kernel
theorem d3_44 : decode method_3_code 44 = .ok (.iload_n 0, 1) := by decide +kernel
theorem d3_45 : decode method_3_code 45 = .ok (.iconst 5, 1) := by decide +kernel
theorem d3_46 : decode method_3_code 46 = .ok (.if_icmp .ne 7, 3) := by decide +kernel
theorem d3_49 : decode method_3_code 49 = .ok (.getstatic 40, 3) := by decide +kernel
theorem d3_52 : decode method_3_code 52 = .ok (.areturn, 1) := by decide +kernel
theorem d3_53 : decode method_3_code 53 = .ok (.getstatic 43, 3) := by decide +kernel
theorem d3_56 : decode method_3_code 56 = .ok (.areturn, 1) := by decide +kernel
theorem pn_3 : plainName "org/chronolake/AbandonedByWriterPinLaw" = true := by first | (simp [plainName, overriddenIn]; done) | decide +kernel
theorem pd_3 : parseMethodDescriptor "(I)Lorg/chronolake/Action;" = some ⟨[.int], some (.object "org/chronolake/Action")⟩ := by decide +kernel
theorem d4_0 : decode prog_2_method_8_code 0 = .ok (.aload_n 0, 1) := by decide +kernel
theorem d4_1 : decode prog_2_method_8_code 1 = .ok (.getfield 52, 3) := by decide +kernel
theorem d4_4 : decode prog_2_method_8_code 4 = .ok (.areturn, 1) := by decide +kernel
theorem pn_4 : plainName "org/chronolake/Action" = true := by first | (simp [plainName, overriddenIn]; done) | decide +kernel
theorem pd_4 : parseMethodDescriptor "()Lorg/chronolake/Action$Abandoned;" = some ⟨[], some (.object "org/chronolake/Action$Abandoned")⟩ := by decide +kernel

theorem own_mask31 (x : Int32) : 0 ≤ (x &&& 2147483647).toInt := by
  have := c_mask x 2147483647 31 (by decide) (by decide)
  omega
theorem own_rem (x k : Int32) (n : Int) (hn : 0 < n) (hk : k.toInt = n) (hx : 0 ≤ x.toInt) : 0 ≤ (x % k).toInt ∧ (x % k).toInt < n := by
  have := (c_irem x k n hk).1 hx
  rw [this]
  exact ⟨Int.emod_nonneg _ (by omega), Int.emod_lt_of_pos _ hn⟩
theorem own_is {v : Int32} {k : Int} (h : v.toInt = k) : v = Int32.ofInt k := by rw [← h, Int32.ofInt_toInt]
theorem own_s4 (v : Int32) (h0 : 0 ≤ v.toInt) (h1 : v.toInt < 4) : v = (0 : Int32) ∨ v = (1 : Int32) ∨ v = (2 : Int32) ∨ v = (3 : Int32) := by
  have h : v.toInt = 0 ∨ v.toInt = 1 ∨ v.toInt = 2 ∨ v.toInt = 3 := by omega
  rcases h with h | h | h | h
  · exact Or.inl (own_is h)
  · exact Or.inr (Or.inl (own_is h))
  · exact Or.inr (Or.inr (Or.inl (own_is h)))
  · exact Or.inr (Or.inr (Or.inr (own_is h)))
theorem own_s7 (v : Int32) (h0 : 0 ≤ v.toInt) (h1 : v.toInt < 7) : v = (0 : Int32) ∨ v = (1 : Int32) ∨ v = (2 : Int32) ∨ v = (3 : Int32) ∨ v = (4 : Int32) ∨ v = (5 : Int32) ∨ v = (6 : Int32) := by
  have h : v.toInt = 0 ∨ v.toInt = 1 ∨ v.toInt = 2 ∨ v.toInt = 3 ∨ v.toInt = 4 ∨ v.toInt = 5 ∨ v.toInt = 6 := by omega
  rcases h with h | h | h | h | h | h | h
  · exact Or.inl (own_is h)
  · exact Or.inr (Or.inl (own_is h))
  · exact Or.inr (Or.inr (Or.inl (own_is h)))
  · exact Or.inr (Or.inr (Or.inr (Or.inl (own_is h))))
  · exact Or.inr (Or.inr (Or.inr (Or.inr (Or.inl (own_is h)))))
  · exact Or.inr (Or.inr (Or.inr (Or.inr (Or.inr (Or.inl (own_is h))))))
  · exact Or.inr (Or.inr (Or.inr (Or.inr (Or.inr (Or.inr (own_is h))))))
def f1 (p1 : Int32) (b0 b1 b2 b3 : Addr) : Addr := (if p1 = (0 : Int32) then b0 else (if p1 = (1 : Int32) then b1 else (if p1 = (2 : Int32) then b2 else b3)))
abbrev Q1 (Z : State) (p1 : Int32) (b0 b1 b2 b3 r : Addr) (h0 : Heap) (v : Option Value) (h : Heap) (L : List Loc) : Prop := v = some (.ref r) ∧ L = [] ∧ h = h0
set_option maxRecDepth 65536 in
set_option maxHeartbeats 40000000 in
theorem rm1 (l : Launch) (Z : State) (a0 : Array Value) (hw : ∀ d ∈ tables_1, d.before a0 Z = true) (p1 : Int32) (b0 b1 b2 b3 r : Addr) (h0 : Heap) (SFINISHED : Sta Z h0 "org/chronolake/Action$Abandoned" "FINISHED" "Lorg/chronolake/Action$Abandoned;" (.ref b0)) (SROLLED_BACK : Sta Z h0 "org/chronolake/Action$Abandoned" "ROLLED_BACK" "Lorg/chronolake/Action$Abandoned;" (.ref b1)) (STAKEN_OFF : Sta Z h0 "org/chronolake/Action$Abandoned" "TAKEN_OFF" "Lorg/chronolake/Action$Abandoned;" (.ref b2)) (SCARRIED_ON : Sta Z h0 "org/chronolake/Action$Abandoned" "CARRIED_ON" "Lorg/chronolake/Action$Abandoned;" (.ref b3)) (hr : f1 p1 b0 b1 b2 b3 = r) :
    Con l Z (⟨"org/chronolake/AbandonedByWriterPinLaw", "pickAbandoned", "(I)Lorg/chronolake/Action$Abandoned;"⟩ : MethodName) method_2_code 1 (some (.object "org/chronolake/Action$Abandoned")) ({ frames := 0, cells := 0, slots := 0, locals := 0 } : Room) #[(.int p1)] h0 (Q1 Z p1 b0 b1 b2 b3 r h0) := by
  refine Con.of pn_1 (fun p e s m below meth c T0 X0 hx hby hml hret hlk hown hnm hZ e0 => ?_)
  replace hown : s.vm.findClass "org/chronolake/AbandonedByWriterPinLaw" = some m.cls := hown
  have ef : entryFrame m #[(.int p1)] 1 = mkF m 0 #[.val (.int p1)] [] := by first | (simp [entryFrame, mkF, argsToLocals, Value.category]; done) | rfl
  rw [ef]
  refine o_iloadN (pc' := 1) X0 hx (hb hby d1_0) rfl rfl ?_
  refine o_if_ne (p1 := 4) (p2 := 8) X0 hx (hb hby d1_1) rfl (by decide) (by decide) (fun hc1 => ?_) (fun hc1 => ?_)
  · refine o_iloadN (pc' := 9) X0 hx (hb hby d1_8) rfl rfl ?_
    refine o_iconst (v := (1 : Int32)) (pc' := 10) X0 hx (hb hby d1_9) (by decide) rfl ?_
    refine o_icmp_ne (p1 := 13) (p2 := 17) X0 hx (hb hby d1_10) rfl (by decide) (by decide) (fun hc10 => ?_) (fun hc10 => ?_)
    · refine o_iloadN (pc' := 18) X0 hx (hb hby d1_17) rfl rfl ?_
      refine o_iconst (v := (2 : Int32)) (pc' := 19) X0 hx (hb hby d1_18) (by decide) rfl ?_
      refine o_icmp_ne (p1 := 22) (p2 := 26) X0 hx (hb hby d1_19) rfl (by decide) (by decide) (fun hc19 => ?_) (fun hc19 => ?_)
      · refine o_getS (pc' := 29) X0 hx hZ hown (hw _ (List.mem_of_getElem? (i := 42) rfl)) Via.refl e0 SCARRIED_ON (hb hby d1_26) rfl ?_
        intro T26 e26 X26
        exact o_retA (t := (.object "org/chronolake/Action$Abandoned")) X26 hx rfl rfl hlk hret (hb hby d1_29) ⟨by rw [← hr]; simp only [f1, if_neg hc1, if_neg hc10, if_neg hc19], rfl, e26⟩ (by decide) (by decide)
      · refine o_getS (pc' := 25) X0 hx hZ hown (hw _ (List.mem_of_getElem? (i := 28) rfl)) Via.refl e0 STAKEN_OFF (hb hby d1_22) rfl ?_
        intro T22 e22 X22
        exact o_retA (t := (.object "org/chronolake/Action$Abandoned")) X22 hx rfl rfl hlk hret (hb hby d1_25) ⟨by rw [← hr]; simp only [f1, if_neg hc1, if_neg hc10, if_pos hc19], rfl, e22⟩ (by decide) (by decide)
    · refine o_getS (pc' := 16) X0 hx hZ hown (hw _ (List.mem_of_getElem? (i := 39) rfl)) Via.refl e0 SROLLED_BACK (hb hby d1_13) rfl ?_
      intro T13 e13 X13
      exact o_retA (t := (.object "org/chronolake/Action$Abandoned")) X13 hx rfl rfl hlk hret (hb hby d1_16) ⟨by rw [← hr]; simp only [f1, if_neg hc1, if_pos hc10], rfl, e13⟩ (by decide) (by decide)
  · refine o_getS (pc' := 7) X0 hx hZ hown (hw _ (List.mem_of_getElem? (i := 4) rfl)) Via.refl e0 SFINISHED (hb hby d1_4) rfl ?_
    intro T4 e4 X4
    exact o_retA (t := (.object "org/chronolake/Action$Abandoned")) X4 hx rfl rfl hlk hret (hb hby d1_7) ⟨by rw [← hr]; simp only [f1, if_pos hc1], rfl, e4⟩ (by decide) (by decide)
def f3 (p1 : Int32) (c0 c1 c2 c3 c4 c5 c6 : Addr) : Addr := (if p1 = (0 : Int32) then c0 else (if p1 = (1 : Int32) then c1 else (if p1 = (2 : Int32) then c2 else (if p1 = (3 : Int32) then c3 else (if p1 = (4 : Int32) then c4 else (if p1 = (5 : Int32) then c5 else c6))))))
abbrev Q3 (Z : State) (p1 : Int32) (c0 c1 c2 c3 c4 c5 c6 r : Addr) (h0 : Heap) (v : Option Value) (h : Heap) (L : List Loc) : Prop := v = some (.ref r) ∧ L = [] ∧ h = h0
set_option maxRecDepth 65536 in
set_option maxHeartbeats 40000000 in
theorem rm3 (l : Launch) (Z : State) (a0 : Array Value) (hw : ∀ d ∈ tables_1, d.before a0 Z = true) (p1 : Int32) (c0 c1 c2 c3 c4 c5 c6 r : Addr) (h0 : Heap) (SCOMMIT : Sta Z h0 "org/chronolake/Action" "COMMIT" "Lorg/chronolake/Action;" (.ref c0)) (SDELTACOMMIT : Sta Z h0 "org/chronolake/Action" "DELTACOMMIT" "Lorg/chronolake/Action;" (.ref c1)) (SROLLBACK : Sta Z h0 "org/chronolake/Action" "ROLLBACK" "Lorg/chronolake/Action;" (.ref c2)) (SCOMPACTION : Sta Z h0 "org/chronolake/Action" "COMPACTION" "Lorg/chronolake/Action;" (.ref c3)) (SCLEAN : Sta Z h0 "org/chronolake/Action" "CLEAN" "Lorg/chronolake/Action;" (.ref c4)) (SSAVEPOINT : Sta Z h0 "org/chronolake/Action" "SAVEPOINT" "Lorg/chronolake/Action;" (.ref c5)) (SDROPSAVEPOINT : Sta Z h0 "org/chronolake/Action" "DROPSAVEPOINT" "Lorg/chronolake/Action;" (.ref c6)) (hr : f3 p1 c0 c1 c2 c3 c4 c5 c6 = r) :
    Con l Z (⟨"org/chronolake/AbandonedByWriterPinLaw", "pickAction", "(I)Lorg/chronolake/Action;"⟩ : MethodName) method_3_code 1 (some (.object "org/chronolake/Action")) ({ frames := 0, cells := 0, slots := 0, locals := 0 } : Room) #[(.int p1)] h0 (Q3 Z p1 c0 c1 c2 c3 c4 c5 c6 r h0) := by
  refine Con.of pn_3 (fun p e s m below meth c T0 X0 hx hby hml hret hlk hown hnm hZ e0 => ?_)
  replace hown : s.vm.findClass "org/chronolake/AbandonedByWriterPinLaw" = some m.cls := hown
  have ef : entryFrame m #[(.int p1)] 1 = mkF m 0 #[.val (.int p1)] [] := by first | (simp [entryFrame, mkF, argsToLocals, Value.category]; done) | rfl
  rw [ef]
  refine o_iloadN (pc' := 1) X0 hx (hb hby d3_0) rfl rfl ?_
  refine o_if_ne (p1 := 4) (p2 := 8) X0 hx (hb hby d3_1) rfl (by decide) (by decide) (fun hc1 => ?_) (fun hc1 => ?_)
  · refine o_iloadN (pc' := 9) X0 hx (hb hby d3_8) rfl rfl ?_
    refine o_iconst (v := (1 : Int32)) (pc' := 10) X0 hx (hb hby d3_9) (by decide) rfl ?_
    refine o_icmp_ne (p1 := 13) (p2 := 17) X0 hx (hb hby d3_10) rfl (by decide) (by decide) (fun hc10 => ?_) (fun hc10 => ?_)
    · refine o_iloadN (pc' := 18) X0 hx (hb hby d3_17) rfl rfl ?_
      refine o_iconst (v := (2 : Int32)) (pc' := 19) X0 hx (hb hby d3_18) (by decide) rfl ?_
      refine o_icmp_ne (p1 := 22) (p2 := 26) X0 hx (hb hby d3_19) rfl (by decide) (by decide) (fun hc19 => ?_) (fun hc19 => ?_)
      · refine o_iloadN (pc' := 27) X0 hx (hb hby d3_26) rfl rfl ?_
        refine o_iconst (v := (3 : Int32)) (pc' := 28) X0 hx (hb hby d3_27) (by decide) rfl ?_
        refine o_icmp_ne (p1 := 31) (p2 := 35) X0 hx (hb hby d3_28) rfl (by decide) (by decide) (fun hc28 => ?_) (fun hc28 => ?_)
        · refine o_iloadN (pc' := 36) X0 hx (hb hby d3_35) rfl rfl ?_
          refine o_iconst (v := (4 : Int32)) (pc' := 37) X0 hx (hb hby d3_36) (by decide) rfl ?_
          refine o_icmp_ne (p1 := 40) (p2 := 44) X0 hx (hb hby d3_37) rfl (by decide) (by decide) (fun hc37 => ?_) (fun hc37 => ?_)
          · refine o_iloadN (pc' := 45) X0 hx (hb hby d3_44) rfl rfl ?_
            refine o_iconst (v := (5 : Int32)) (pc' := 46) X0 hx (hb hby d3_45) (by decide) rfl ?_
            refine o_icmp_ne (p1 := 49) (p2 := 53) X0 hx (hb hby d3_46) rfl (by decide) (by decide) (fun hc46 => ?_) (fun hc46 => ?_)
            · refine o_getS (pc' := 56) X0 hx hZ hown (hw _ (List.mem_of_getElem? (i := 40) rfl)) Via.refl e0 SDROPSAVEPOINT (hb hby d3_53) rfl ?_
              intro T53 e53 X53
              exact o_retA (t := (.object "org/chronolake/Action")) X53 hx rfl rfl hlk hret (hb hby d3_56) ⟨by rw [← hr]; simp only [f3, if_neg hc1, if_neg hc10, if_neg hc19, if_neg hc28, if_neg hc37, if_neg hc46], rfl, e53⟩ (by decide) (by decide)
            · refine o_getS (pc' := 52) X0 hx hZ hown (hw _ (List.mem_of_getElem? (i := 33) rfl)) Via.refl e0 SSAVEPOINT (hb hby d3_49) rfl ?_
              intro T49 e49 X49
              exact o_retA (t := (.object "org/chronolake/Action")) X49 hx rfl rfl hlk hret (hb hby d3_52) ⟨by rw [← hr]; simp only [f3, if_neg hc1, if_neg hc10, if_neg hc19, if_neg hc28, if_neg hc37, if_pos hc46], rfl, e49⟩ (by decide) (by decide)
          · refine o_getS (pc' := 43) X0 hx hZ hown (hw _ (List.mem_of_getElem? (i := 43) rfl)) Via.refl e0 SCLEAN (hb hby d3_40) rfl ?_
            intro T40 e40 X40
            exact o_retA (t := (.object "org/chronolake/Action")) X40 hx rfl rfl hlk hret (hb hby d3_43) ⟨by rw [← hr]; simp only [f3, if_neg hc1, if_neg hc10, if_neg hc19, if_neg hc28, if_pos hc37], rfl, e40⟩ (by decide) (by decide)
        · refine o_getS (pc' := 34) X0 hx hZ hown (hw _ (List.mem_of_getElem? (i := 18) rfl)) Via.refl e0 SCOMPACTION (hb hby d3_31) rfl ?_
          intro T31 e31 X31
          exact o_retA (t := (.object "org/chronolake/Action")) X31 hx rfl rfl hlk hret (hb hby d3_34) ⟨by rw [← hr]; simp only [f3, if_neg hc1, if_neg hc10, if_neg hc19, if_pos hc28], rfl, e31⟩ (by decide) (by decide)
      · refine o_getS (pc' := 25) X0 hx hZ hown (hw _ (List.mem_of_getElem? (i := 35) rfl)) Via.refl e0 SROLLBACK (hb hby d3_22) rfl ?_
        intro T22 e22 X22
        exact o_retA (t := (.object "org/chronolake/Action")) X22 hx rfl rfl hlk hret (hb hby d3_25) ⟨by rw [← hr]; simp only [f3, if_neg hc1, if_neg hc10, if_pos hc19], rfl, e22⟩ (by decide) (by decide)
    · refine o_getS (pc' := 16) X0 hx hZ hown (hw _ (List.mem_of_getElem? (i := 30) rfl)) Via.refl e0 SDELTACOMMIT (hb hby d3_13) rfl ?_
      intro T13 e13 X13
      exact o_retA (t := (.object "org/chronolake/Action")) X13 hx rfl rfl hlk hret (hb hby d3_16) ⟨by rw [← hr]; simp only [f3, if_neg hc1, if_pos hc10], rfl, e13⟩ (by decide) (by decide)
  · refine o_getS (pc' := 7) X0 hx hZ hown (hw _ (List.mem_of_getElem? (i := 37) rfl)) Via.refl e0 SCOMMIT (hb hby d3_4) rfl ?_
    intro T4 e4 X4
    exact o_retA (t := (.object "org/chronolake/Action")) X4 hx rfl rfl hlk hret (hb hby d3_7) ⟨by rw [← hr]; simp only [f3, if_pos hc1], rfl, e4⟩ (by decide) (by decide)
abbrev Q2 (Z : State) (a b3 : Addr) (h0 : Heap) (v : Option Value) (h : Heap) (L : List Loc) : Prop := v = some (.int (if a = b3 then (0 : Int32) else 1)) ∧ L = [] ∧ h = h0
set_option maxRecDepth 65536 in
set_option maxHeartbeats 40000000 in
theorem rm2 (l : Launch) (Z : State) (a0 : Array Value) (hw : ∀ d ∈ tables_1, d.before a0 Z = true) (a b3 : Addr) (h0 : Heap) (SCARRIED_ON : Sta Z h0 "org/chronolake/Action$Abandoned" "CARRIED_ON" "Lorg/chronolake/Action$Abandoned;" (.ref b3)) :
    Con l Z (⟨"org/chronolake/Action$Abandoned", "byWriter", "()Z"⟩ : MethodName) prog_3_method_4_code 1 (some .boolean) ({ frames := 0, cells := 0, slots := 0, locals := 0 } : Room) #[(.ref a)] h0 (Q2 Z a b3 h0) := by
  refine Con.of pn_2 (fun p e s m below meth c T0 X0 hx hby hml hret hlk hown hnm hZ e0 => ?_)
  replace hown : s.vm.findClass "org/chronolake/Action$Abandoned" = some m.cls := hown
  have ef : entryFrame m #[(.ref a)] 1 = mkF m 0 #[.val (.ref a)] [] := by first | (simp [entryFrame, mkF, argsToLocals, Value.category]; done) | rfl
  rw [ef]
  refine o_aloadN (pc' := 1) X0 hx (hb hby d2_0) rfl rfl rfl ?_
  refine o_getS (pc' := 4) X0 hx hZ hown (hw _ (List.mem_of_getElem? (i := 12) rfl)) Via.refl e0 SCARRIED_ON (hb hby d2_1) rfl ?_
  intro T1 e1 X1
  refine o_acmp_eq (p1 := 7) (p2 := 11) X1 hx (hb hby d2_4) rfl (by decide) (by decide) (fun hc4 => ?_) (fun hc4 => ?_)
  · refine o_iconst (v := (0 : Int32)) (pc' := 12) X1 hx (hb hby d2_11) (by decide) rfl ?_
    exact o_retZ X1 hx hlk hret (hb hby d2_12) (by decide) ⟨by simp only [if_pos hc4], rfl, e1⟩ (by decide) (by decide)
  · refine o_iconst (v := (1 : Int32)) (pc' := 8) X1 hx (hb hby d2_7) (by decide) rfl ?_
    refine o_goto (pc' := 12) X1 hx (hb hby d2_8) (by decide) (by decide) ?_
    exact o_retZ X1 hx hlk hret (hb hby d2_12) (by decide) ⟨by simp only [if_neg hc4], rfl, e1⟩ (by decide) (by decide)
abbrev Q4 (Z : State) (a b : Addr) (h0 : Heap) (v : Option Value) (h : Heap) (L : List Loc) : Prop := v = some (.ref b) ∧ L = [] ∧ h = h0
set_option maxRecDepth 65536 in
set_option maxHeartbeats 40000000 in
theorem rm4 (l : Launch) (Z : State) (a0 : Array Value) (hw : ∀ d ∈ tables_1, d.before a0 Z = true) (a b : Addr) (h0 : Heap) (F : Fld Z h0 a "org/chronolake/Action" "abandoned" "Lorg/chronolake/Action$Abandoned;" (.ref b)) :
    Con l Z (⟨"org/chronolake/Action", "whenAbandoned", "()Lorg/chronolake/Action$Abandoned;"⟩ : MethodName) prog_2_method_8_code 1 (some (.object "org/chronolake/Action$Abandoned")) ({ frames := 0, cells := 0, slots := 0, locals := 0 } : Room) #[(.ref a)] h0 (Q4 Z a b h0) := by
  refine Con.of pn_4 (fun p e s m below meth c T0 X0 hx hby hml hret hlk hown hnm hZ e0 => ?_)
  replace hown : s.vm.findClass "org/chronolake/Action" = some m.cls := hown
  have ef : entryFrame m #[(.ref a)] 1 = mkF m 0 #[.val (.ref a)] [] := by first | (simp [entryFrame, mkF, argsToLocals, Value.category]; done) | rfl
  rw [ef]
  refine o_aloadN (pc' := 1) X0 hx (hb hby d4_0) rfl rfl rfl ?_
  refine o_getF (pc' := 4) X0 hx hZ hown (hw _ (List.mem_of_getElem? (i := 26) rfl)) Via.refl e0 F (hb hby d4_1) rfl ?_
  intro T1 e1 X1
  exact o_retA (t := (.object "org/chronolake/Action$Abandoned")) X1 hx rfl rfl hlk hret (hb hby d4_4) ⟨rfl, rfl, e1⟩ (by decide) (by decide)
abbrev Q0 (Z : State) (p1 p2 : Int32) (b0 b1 b2 b3 c0 c1 c2 c3 c4 c5 c6 : Addr) (h0 : Heap) (v : Option Value) (h : Heap) (L : List Loc) : Prop := v = some (.int (1 : Int32)) ∧ Fr h0.size L
set_option maxRecDepth 65536 in
set_option maxHeartbeats 40000000 in
theorem rm0 (l : Launch) (Z : State) (a0 : Array Value) (hw : ∀ d ∈ tables_1, d.before a0 Z = true) (p1 p2 : Int32) (b0 b1 b2 b3 c0 c1 c2 c3 c4 c5 c6 : Addr) (h0 : Heap) (SFINISHED : Sta Z h0 "org/chronolake/Action$Abandoned" "FINISHED" "Lorg/chronolake/Action$Abandoned;" (.ref b0)) (SROLLED_BACK : Sta Z h0 "org/chronolake/Action$Abandoned" "ROLLED_BACK" "Lorg/chronolake/Action$Abandoned;" (.ref b1)) (STAKEN_OFF : Sta Z h0 "org/chronolake/Action$Abandoned" "TAKEN_OFF" "Lorg/chronolake/Action$Abandoned;" (.ref b2)) (SCARRIED_ON : Sta Z h0 "org/chronolake/Action$Abandoned" "CARRIED_ON" "Lorg/chronolake/Action$Abandoned;" (.ref b3)) (SCOMMIT : Sta Z h0 "org/chronolake/Action" "COMMIT" "Lorg/chronolake/Action;" (.ref c0)) (SDELTACOMMIT : Sta Z h0 "org/chronolake/Action" "DELTACOMMIT" "Lorg/chronolake/Action;" (.ref c1)) (SROLLBACK : Sta Z h0 "org/chronolake/Action" "ROLLBACK" "Lorg/chronolake/Action;" (.ref c2)) (SCOMPACTION : Sta Z h0 "org/chronolake/Action" "COMPACTION" "Lorg/chronolake/Action;" (.ref c3)) (SCLEAN : Sta Z h0 "org/chronolake/Action" "CLEAN" "Lorg/chronolake/Action;" (.ref c4)) (SSAVEPOINT : Sta Z h0 "org/chronolake/Action" "SAVEPOINT" "Lorg/chronolake/Action;" (.ref c5)) (SDROPSAVEPOINT : Sta Z h0 "org/chronolake/Action" "DROPSAVEPOINT" "Lorg/chronolake/Action;" (.ref c6)) (EFINISHED : Exa Z h0 b0 "org/chronolake/Action$Abandoned") (EROLLED_BACK : Exa Z h0 b1 "org/chronolake/Action$Abandoned") (ETAKEN_OFF : Exa Z h0 b2 "org/chronolake/Action$Abandoned") (ECARRIED_ON : Exa Z h0 b3 "org/chronolake/Action$Abandoned") (ECOMMIT : Exa Z h0 c0 "org/chronolake/Action") (EDELTACOMMIT : Exa Z h0 c1 "org/chronolake/Action") (EROLLBACK : Exa Z h0 c2 "org/chronolake/Action") (ECOMPACTION : Exa Z h0 c3 "org/chronolake/Action") (ECLEAN : Exa Z h0 c4 "org/chronolake/Action") (ESAVEPOINT : Exa Z h0 c5 "org/chronolake/Action") (EDROPSAVEPOINT : Exa Z h0 c6 "org/chronolake/Action") (FCOMMIT : Fld Z h0 c0 "org/chronolake/Action" "abandoned" "Lorg/chronolake/Action$Abandoned;" (.ref b1)) (FDELTACOMMIT : Fld Z h0 c1 "org/chronolake/Action" "abandoned" "Lorg/chronolake/Action$Abandoned;" (.ref b1)) (FROLLBACK : Fld Z h0 c2 "org/chronolake/Action" "abandoned" "Lorg/chronolake/Action$Abandoned;" (.ref b0)) (FCOMPACTION : Fld Z h0 c3 "org/chronolake/Action" "abandoned" "Lorg/chronolake/Action$Abandoned;" (.ref b3)) (FCLEAN : Fld Z h0 c4 "org/chronolake/Action" "abandoned" "Lorg/chronolake/Action$Abandoned;" (.ref b3)) (FSAVEPOINT : Fld Z h0 c5 "org/chronolake/Action" "abandoned" "Lorg/chronolake/Action$Abandoned;" (.ref b2)) (FDROPSAVEPOINT : Fld Z h0 c6 "org/chronolake/Action" "abandoned" "Lorg/chronolake/Action$Abandoned;" (.ref b2)) (NFINISHED : ¬ b0 = b3) (NROLLED_BACK : ¬ b1 = b3) (NTAKEN_OFF : ¬ b2 = b3) :
    Con l Z x code maxLocals ret room_1 #[(.int p1), (.int p2)] h0 (Q0 Z p1 p2 b0 b1 b2 b3 c0 c1 c2 c3 c4 c5 c6 h0) := by
  refine Con.of pn_0 (fun p e s m below meth c T0 X0 hx hby hml hret hlk hown hnm hZ e0 => ?_)
  replace hown : s.vm.findClass "org/chronolake/AbandonedByWriterPinLaw" = some m.cls := hown
  have ef : entryFrame m #[(.int p1), (.int p2)] maxLocals = mkF m 0 #[.val (.int p1), .val (.int p2), .unset, .unset, .unset, .unset, .unset, .unset] [] := by first | (simp [entryFrame, mkF, argsToLocals, Value.category, maxLocals]; done) | rfl
  rw [ef]
  refine o_iloadN (pc' := 1) X0 hx (hb hby at_0) rfl rfl ?_
  refine o_iconst (v := (3 : Int32)) (pc' := 2) X0 hx (hb hby at_1) (by decide) rfl ?_
  refine o_iand (pc' := 3) X0 hx (hb hby at_2) rfl ?_
  generalize hi : p1 &&& (3 : Int32) = i
  refine o_istoreN (Ls' := #[.val (.int p1), .val (.int p2), .val (.int i), .unset, .unset, .unset, .unset, .unset]) (pc' := 4) X0 hx (hb hby at_3) rfl rfl ?_
  refine o_iloadN (pc' := 5) X0 hx (hb hby at_4) rfl rfl ?_
  have ri := c_mask p1 3 2 (by decide) (by decide)
  rw [hi] at ri
  have J41 : ∀ (T : State) (v3 : Addr) (v4 : Int32), T.heap = h0 → Stand p l e room_1 s m #[(.int p1), (.int p2)] below meth c T [] 0 0 → Ends p e below s (Q0 Z p1 p2 b0 b1 b2 b3 c0 c1 c2 c3 c4 c5 c6 h0) room_1.cells room_1.slots (T.setTop (mkF m 41 #[.val (.int p1), .val (.int p2), .val (.int i), .val (.ref v3), .val (.int v4), .unset, .unset, .unset] [])) := by
    intro T v3 v4 e41 X41
    refine o_iloadN (pc' := 42) X41 hx (hb hby at_41) rfl rfl ?_
    refine o_ldc (pc' := 44) (v := (2147483647 : Int32)) X41 hx (hb hby at_42) hZ hown (hw _ (List.mem_of_getElem? (i := 14) rfl)) rfl ?_
    refine o_iand (pc' := 45) X41 hx (hb hby at_44) rfl ?_
    refine o_bipush (v := (7 : Int32)) (pc' := 47) X41 hx (hb hby at_45) (by decide) rfl ?_
    refine o_irem (pc' := 48) X41 hx (hb hby at_47) (by decide) rfl ?_
    generalize hj : (p2 &&& (2147483647 : Int32)) % (7 : Int32) = j
    refine o_istore (Ls' := #[.val (.int p1), .val (.int p2), .val (.int i), .val (.ref v3), .val (.int v4), .val (.int j), .unset, .unset]) (pc' := 50) X41 hx (hb hby at_48) rfl rfl ?_
    refine o_iload (pc' := 52) X41 hx (hb hby at_50) rfl rfl ?_
    rcases (own_s7 j (hj ▸ own_rem _ _ 7 (by decide) (by decide) (own_mask31 p2)).1 (hj ▸ own_rem _ _ 7 (by decide) (by decide) (own_mask31 p2)).2) with rfl | rfl | rfl | rfl | rfl | rfl | rfl
    · refine o_callS (W := 0) (pc' := 55) (rm := ({ frames := 0, cells := 0, slots := 0, locals := 0 } : Room)) (argsL := [(.int (0 : Int32))]) (rest := []) X41 hx hZ hown (hw _ (List.mem_of_getElem? (i := 15) rfl)) (hw _ (List.mem_of_getElem? (i := 16) rfl)) (hw _ (List.mem_of_getElem? (i := 2) rfl)) (hw _ (List.mem_of_getElem? (i := 17) rfl)) (by decide) e41 (rm3 l Z a0 hw (0 : Int32) c0 c1 c2 c3 c4 c5 c6 c0 h0 SCOMMIT SDELTACOMMIT SROLLBACK SCOMPACTION SCLEAN SSAVEPOINT SDROPSAVEPOINT (by simp [f3])) (by rw [hml]; rfl) pd_3 rfl rfl (hb hby at_52) rfl (by decide) rfl (by decide) (by decide) (by decide) ?_
      rintro _ T52 L52 ⟨rfl, rfl, e52⟩ X52
      show Ends p e below s (Q0 Z p1 p2 b0 b1 b2 b3 c0 c1 c2 c3 c4 c5 c6 h0) room_1.cells room_1.slots (T52.setTop (mkF m 55 #[.val (.int p1), .val (.int p2), .val (.int i), .val (.ref v3), .val (.int v4), .val (.int (0 : Int32)), .unset, .unset] [(.ref c0)]))
      refine o_astore (Ls' := #[.val (.int p1), .val (.int p2), .val (.int i), .val (.ref v3), .val (.int v4), .val (.int (0 : Int32)), .val (.ref c0), .unset]) (pc' := 57) X52 hx (hb hby at_55) rfl rfl rfl ?_
      refine o_iload (pc' := 59) X52 hx (hb hby at_57) rfl rfl ?_
      refine o_iconst (v := (3 : Int32)) (pc' := 60) X52 hx (hb hby at_59) (by decide) rfl ?_
      refine o_icmp_eq (p1 := 63) (p2 := 73) X52 hx (hb hby at_60) rfl (by decide) (by decide) (fun hc60 => absurd hc60 (by decide)) (fun hc60 => ?_)
      refine o_iload (pc' := 65) X52 hx (hb hby at_63) rfl rfl ?_
      refine o_iconst (v := (4 : Int32)) (pc' := 66) X52 hx (hb hby at_65) (by decide) rfl ?_
      refine o_icmp_eq (p1 := 69) (p2 := 73) X52 hx (hb hby at_66) rfl (by decide) (by decide) (fun hc66 => absurd hc66 (by decide)) (fun hc66 => ?_)
      refine o_iconst (v := (1 : Int32)) (pc' := 70) X52 hx (hb hby at_69) (by decide) rfl ?_
      refine o_goto (pc' := 74) X52 hx (hb hby at_70) (by decide) (by decide) ?_
      refine o_istore (Ls' := #[.val (.int p1), .val (.int p2), .val (.int i), .val (.ref v3), .val (.int v4), .val (.int (0 : Int32)), .val (.ref c0), .val (.int (1 : Int32))]) (pc' := 76) X52 hx (hb hby at_74) rfl rfl ?_
      refine o_aload (pc' := 78) X52 hx (hb hby at_76) rfl rfl rfl ?_
      refine o_callV (W := 0) (pc' := 81) (rm := ({ frames := 0, cells := 0, slots := 0, locals := 0 } : Room)) (argsL := []) (rest := []) X52 hx hZ hown (hw _ (List.mem_of_getElem? (i := 21) rfl)) (hw _ (List.mem_of_getElem? (i := 22) rfl)) (hw _ (List.mem_of_getElem? (i := 24) rfl)) (hw _ (List.mem_of_getElem? (i := 23) rfl)) (hw _ (List.mem_of_getElem? (i := 19) rfl)) (hw _ (List.mem_of_getElem? (i := 25) rfl)) (by decide) e52 ECOMMIT (rm4 l Z a0 hw c0 b1 h0 FCOMMIT) (by rw [hml]; rfl) pd_4 rfl rfl (hb hby at_78) rfl (by decide) rfl (by decide) (by decide) (by decide) ?_
      rintro _ T78 L78 ⟨rfl, rfl, e78⟩ X78
      show Ends p e below s (Q0 Z p1 p2 b0 b1 b2 b3 c0 c1 c2 c3 c4 c5 c6 h0) room_1.cells room_1.slots (T78.setTop (mkF m 81 #[.val (.int p1), .val (.int p2), .val (.int i), .val (.ref v3), .val (.int v4), .val (.int (0 : Int32)), .val (.ref c0), .val (.int (1 : Int32))] [(.ref b1)]))
      refine o_callV (W := 0) (pc' := 84) (rm := ({ frames := 0, cells := 0, slots := 0, locals := 0 } : Room)) (argsL := []) (rest := []) X78 hx hZ hown (hw _ (List.mem_of_getElem? (i := 7) rfl)) (hw _ (List.mem_of_getElem? (i := 8) rfl)) (hw _ (List.mem_of_getElem? (i := 10) rfl)) (hw _ (List.mem_of_getElem? (i := 9) rfl)) (hw _ (List.mem_of_getElem? (i := 5) rfl)) (hw _ (List.mem_of_getElem? (i := 11) rfl)) (by decide) e78 EROLLED_BACK (rm2 l Z a0 hw b1 b3 h0 SCARRIED_ON) (by rw [hml]; rfl) pd_2 rfl rfl (hb hby at_81) rfl (by decide) rfl (by decide) (by decide) (by decide) ?_
      rintro _ T81 L81 ⟨rfl, rfl, e81⟩ X81
      show Ends p e below s (Q0 Z p1 p2 b0 b1 b2 b3 c0 c1 c2 c3 c4 c5 c6 h0) room_1.cells room_1.slots (T81.setTop (mkF m 84 #[.val (.int p1), .val (.int p2), .val (.int i), .val (.ref v3), .val (.int v4), .val (.int (0 : Int32)), .val (.ref c0), .val (.int (1 : Int32))] [(.int (if b1 = b3 then (0 : Int32) else 1))]))
      refine o_iload (pc' := 86) X81 hx (hb hby at_84) rfl rfl ?_
      refine o_icmp_ne (p1 := 89) (p2 := 93) X81 hx (hb hby at_86) rfl (by decide) (by decide) (fun hc86 => absurd (if_neg NROLLED_BACK) hc86) (fun hc86 => ?_)
      refine o_iconst (v := (1 : Int32)) (pc' := 90) X81 hx (hb hby at_89) (by decide) rfl ?_
      refine o_goto (pc' := 94) X81 hx (hb hby at_90) (by decide) (by decide) ?_
      exact o_retZ X81 hx hlk hret (hb hby at_94) (by decide) ⟨rfl, Fr.nil _⟩ (by decide) (by decide)
    · refine o_callS (W := 0) (pc' := 55) (rm := ({ frames := 0, cells := 0, slots := 0, locals := 0 } : Room)) (argsL := [(.int (1 : Int32))]) (rest := []) X41 hx hZ hown (hw _ (List.mem_of_getElem? (i := 15) rfl)) (hw _ (List.mem_of_getElem? (i := 16) rfl)) (hw _ (List.mem_of_getElem? (i := 2) rfl)) (hw _ (List.mem_of_getElem? (i := 17) rfl)) (by decide) e41 (rm3 l Z a0 hw (1 : Int32) c0 c1 c2 c3 c4 c5 c6 c1 h0 SCOMMIT SDELTACOMMIT SROLLBACK SCOMPACTION SCLEAN SSAVEPOINT SDROPSAVEPOINT (by simp [f3])) (by rw [hml]; rfl) pd_3 rfl rfl (hb hby at_52) rfl (by decide) rfl (by decide) (by decide) (by decide) ?_
      rintro _ T52 L52 ⟨rfl, rfl, e52⟩ X52
      show Ends p e below s (Q0 Z p1 p2 b0 b1 b2 b3 c0 c1 c2 c3 c4 c5 c6 h0) room_1.cells room_1.slots (T52.setTop (mkF m 55 #[.val (.int p1), .val (.int p2), .val (.int i), .val (.ref v3), .val (.int v4), .val (.int (1 : Int32)), .unset, .unset] [(.ref c1)]))
      refine o_astore (Ls' := #[.val (.int p1), .val (.int p2), .val (.int i), .val (.ref v3), .val (.int v4), .val (.int (1 : Int32)), .val (.ref c1), .unset]) (pc' := 57) X52 hx (hb hby at_55) rfl rfl rfl ?_
      refine o_iload (pc' := 59) X52 hx (hb hby at_57) rfl rfl ?_
      refine o_iconst (v := (3 : Int32)) (pc' := 60) X52 hx (hb hby at_59) (by decide) rfl ?_
      refine o_icmp_eq (p1 := 63) (p2 := 73) X52 hx (hb hby at_60) rfl (by decide) (by decide) (fun hc60 => absurd hc60 (by decide)) (fun hc60 => ?_)
      refine o_iload (pc' := 65) X52 hx (hb hby at_63) rfl rfl ?_
      refine o_iconst (v := (4 : Int32)) (pc' := 66) X52 hx (hb hby at_65) (by decide) rfl ?_
      refine o_icmp_eq (p1 := 69) (p2 := 73) X52 hx (hb hby at_66) rfl (by decide) (by decide) (fun hc66 => absurd hc66 (by decide)) (fun hc66 => ?_)
      refine o_iconst (v := (1 : Int32)) (pc' := 70) X52 hx (hb hby at_69) (by decide) rfl ?_
      refine o_goto (pc' := 74) X52 hx (hb hby at_70) (by decide) (by decide) ?_
      refine o_istore (Ls' := #[.val (.int p1), .val (.int p2), .val (.int i), .val (.ref v3), .val (.int v4), .val (.int (1 : Int32)), .val (.ref c1), .val (.int (1 : Int32))]) (pc' := 76) X52 hx (hb hby at_74) rfl rfl ?_
      refine o_aload (pc' := 78) X52 hx (hb hby at_76) rfl rfl rfl ?_
      refine o_callV (W := 0) (pc' := 81) (rm := ({ frames := 0, cells := 0, slots := 0, locals := 0 } : Room)) (argsL := []) (rest := []) X52 hx hZ hown (hw _ (List.mem_of_getElem? (i := 21) rfl)) (hw _ (List.mem_of_getElem? (i := 22) rfl)) (hw _ (List.mem_of_getElem? (i := 24) rfl)) (hw _ (List.mem_of_getElem? (i := 23) rfl)) (hw _ (List.mem_of_getElem? (i := 19) rfl)) (hw _ (List.mem_of_getElem? (i := 25) rfl)) (by decide) e52 EDELTACOMMIT (rm4 l Z a0 hw c1 b1 h0 FDELTACOMMIT) (by rw [hml]; rfl) pd_4 rfl rfl (hb hby at_78) rfl (by decide) rfl (by decide) (by decide) (by decide) ?_
      rintro _ T78 L78 ⟨rfl, rfl, e78⟩ X78
      show Ends p e below s (Q0 Z p1 p2 b0 b1 b2 b3 c0 c1 c2 c3 c4 c5 c6 h0) room_1.cells room_1.slots (T78.setTop (mkF m 81 #[.val (.int p1), .val (.int p2), .val (.int i), .val (.ref v3), .val (.int v4), .val (.int (1 : Int32)), .val (.ref c1), .val (.int (1 : Int32))] [(.ref b1)]))
      refine o_callV (W := 0) (pc' := 84) (rm := ({ frames := 0, cells := 0, slots := 0, locals := 0 } : Room)) (argsL := []) (rest := []) X78 hx hZ hown (hw _ (List.mem_of_getElem? (i := 7) rfl)) (hw _ (List.mem_of_getElem? (i := 8) rfl)) (hw _ (List.mem_of_getElem? (i := 10) rfl)) (hw _ (List.mem_of_getElem? (i := 9) rfl)) (hw _ (List.mem_of_getElem? (i := 5) rfl)) (hw _ (List.mem_of_getElem? (i := 11) rfl)) (by decide) e78 EROLLED_BACK (rm2 l Z a0 hw b1 b3 h0 SCARRIED_ON) (by rw [hml]; rfl) pd_2 rfl rfl (hb hby at_81) rfl (by decide) rfl (by decide) (by decide) (by decide) ?_
      rintro _ T81 L81 ⟨rfl, rfl, e81⟩ X81
      show Ends p e below s (Q0 Z p1 p2 b0 b1 b2 b3 c0 c1 c2 c3 c4 c5 c6 h0) room_1.cells room_1.slots (T81.setTop (mkF m 84 #[.val (.int p1), .val (.int p2), .val (.int i), .val (.ref v3), .val (.int v4), .val (.int (1 : Int32)), .val (.ref c1), .val (.int (1 : Int32))] [(.int (if b1 = b3 then (0 : Int32) else 1))]))
      refine o_iload (pc' := 86) X81 hx (hb hby at_84) rfl rfl ?_
      refine o_icmp_ne (p1 := 89) (p2 := 93) X81 hx (hb hby at_86) rfl (by decide) (by decide) (fun hc86 => absurd (if_neg NROLLED_BACK) hc86) (fun hc86 => ?_)
      refine o_iconst (v := (1 : Int32)) (pc' := 90) X81 hx (hb hby at_89) (by decide) rfl ?_
      refine o_goto (pc' := 94) X81 hx (hb hby at_90) (by decide) (by decide) ?_
      exact o_retZ X81 hx hlk hret (hb hby at_94) (by decide) ⟨rfl, Fr.nil _⟩ (by decide) (by decide)
    · refine o_callS (W := 0) (pc' := 55) (rm := ({ frames := 0, cells := 0, slots := 0, locals := 0 } : Room)) (argsL := [(.int (2 : Int32))]) (rest := []) X41 hx hZ hown (hw _ (List.mem_of_getElem? (i := 15) rfl)) (hw _ (List.mem_of_getElem? (i := 16) rfl)) (hw _ (List.mem_of_getElem? (i := 2) rfl)) (hw _ (List.mem_of_getElem? (i := 17) rfl)) (by decide) e41 (rm3 l Z a0 hw (2 : Int32) c0 c1 c2 c3 c4 c5 c6 c2 h0 SCOMMIT SDELTACOMMIT SROLLBACK SCOMPACTION SCLEAN SSAVEPOINT SDROPSAVEPOINT (by simp [f3])) (by rw [hml]; rfl) pd_3 rfl rfl (hb hby at_52) rfl (by decide) rfl (by decide) (by decide) (by decide) ?_
      rintro _ T52 L52 ⟨rfl, rfl, e52⟩ X52
      show Ends p e below s (Q0 Z p1 p2 b0 b1 b2 b3 c0 c1 c2 c3 c4 c5 c6 h0) room_1.cells room_1.slots (T52.setTop (mkF m 55 #[.val (.int p1), .val (.int p2), .val (.int i), .val (.ref v3), .val (.int v4), .val (.int (2 : Int32)), .unset, .unset] [(.ref c2)]))
      refine o_astore (Ls' := #[.val (.int p1), .val (.int p2), .val (.int i), .val (.ref v3), .val (.int v4), .val (.int (2 : Int32)), .val (.ref c2), .unset]) (pc' := 57) X52 hx (hb hby at_55) rfl rfl rfl ?_
      refine o_iload (pc' := 59) X52 hx (hb hby at_57) rfl rfl ?_
      refine o_iconst (v := (3 : Int32)) (pc' := 60) X52 hx (hb hby at_59) (by decide) rfl ?_
      refine o_icmp_eq (p1 := 63) (p2 := 73) X52 hx (hb hby at_60) rfl (by decide) (by decide) (fun hc60 => absurd hc60 (by decide)) (fun hc60 => ?_)
      refine o_iload (pc' := 65) X52 hx (hb hby at_63) rfl rfl ?_
      refine o_iconst (v := (4 : Int32)) (pc' := 66) X52 hx (hb hby at_65) (by decide) rfl ?_
      refine o_icmp_eq (p1 := 69) (p2 := 73) X52 hx (hb hby at_66) rfl (by decide) (by decide) (fun hc66 => absurd hc66 (by decide)) (fun hc66 => ?_)
      refine o_iconst (v := (1 : Int32)) (pc' := 70) X52 hx (hb hby at_69) (by decide) rfl ?_
      refine o_goto (pc' := 74) X52 hx (hb hby at_70) (by decide) (by decide) ?_
      refine o_istore (Ls' := #[.val (.int p1), .val (.int p2), .val (.int i), .val (.ref v3), .val (.int v4), .val (.int (2 : Int32)), .val (.ref c2), .val (.int (1 : Int32))]) (pc' := 76) X52 hx (hb hby at_74) rfl rfl ?_
      refine o_aload (pc' := 78) X52 hx (hb hby at_76) rfl rfl rfl ?_
      refine o_callV (W := 0) (pc' := 81) (rm := ({ frames := 0, cells := 0, slots := 0, locals := 0 } : Room)) (argsL := []) (rest := []) X52 hx hZ hown (hw _ (List.mem_of_getElem? (i := 21) rfl)) (hw _ (List.mem_of_getElem? (i := 22) rfl)) (hw _ (List.mem_of_getElem? (i := 24) rfl)) (hw _ (List.mem_of_getElem? (i := 23) rfl)) (hw _ (List.mem_of_getElem? (i := 19) rfl)) (hw _ (List.mem_of_getElem? (i := 25) rfl)) (by decide) e52 EROLLBACK (rm4 l Z a0 hw c2 b0 h0 FROLLBACK) (by rw [hml]; rfl) pd_4 rfl rfl (hb hby at_78) rfl (by decide) rfl (by decide) (by decide) (by decide) ?_
      rintro _ T78 L78 ⟨rfl, rfl, e78⟩ X78
      show Ends p e below s (Q0 Z p1 p2 b0 b1 b2 b3 c0 c1 c2 c3 c4 c5 c6 h0) room_1.cells room_1.slots (T78.setTop (mkF m 81 #[.val (.int p1), .val (.int p2), .val (.int i), .val (.ref v3), .val (.int v4), .val (.int (2 : Int32)), .val (.ref c2), .val (.int (1 : Int32))] [(.ref b0)]))
      refine o_callV (W := 0) (pc' := 84) (rm := ({ frames := 0, cells := 0, slots := 0, locals := 0 } : Room)) (argsL := []) (rest := []) X78 hx hZ hown (hw _ (List.mem_of_getElem? (i := 7) rfl)) (hw _ (List.mem_of_getElem? (i := 8) rfl)) (hw _ (List.mem_of_getElem? (i := 10) rfl)) (hw _ (List.mem_of_getElem? (i := 9) rfl)) (hw _ (List.mem_of_getElem? (i := 5) rfl)) (hw _ (List.mem_of_getElem? (i := 11) rfl)) (by decide) e78 EFINISHED (rm2 l Z a0 hw b0 b3 h0 SCARRIED_ON) (by rw [hml]; rfl) pd_2 rfl rfl (hb hby at_81) rfl (by decide) rfl (by decide) (by decide) (by decide) ?_
      rintro _ T81 L81 ⟨rfl, rfl, e81⟩ X81
      show Ends p e below s (Q0 Z p1 p2 b0 b1 b2 b3 c0 c1 c2 c3 c4 c5 c6 h0) room_1.cells room_1.slots (T81.setTop (mkF m 84 #[.val (.int p1), .val (.int p2), .val (.int i), .val (.ref v3), .val (.int v4), .val (.int (2 : Int32)), .val (.ref c2), .val (.int (1 : Int32))] [(.int (if b0 = b3 then (0 : Int32) else 1))]))
      refine o_iload (pc' := 86) X81 hx (hb hby at_84) rfl rfl ?_
      refine o_icmp_ne (p1 := 89) (p2 := 93) X81 hx (hb hby at_86) rfl (by decide) (by decide) (fun hc86 => absurd (if_neg NFINISHED) hc86) (fun hc86 => ?_)
      refine o_iconst (v := (1 : Int32)) (pc' := 90) X81 hx (hb hby at_89) (by decide) rfl ?_
      refine o_goto (pc' := 94) X81 hx (hb hby at_90) (by decide) (by decide) ?_
      exact o_retZ X81 hx hlk hret (hb hby at_94) (by decide) ⟨rfl, Fr.nil _⟩ (by decide) (by decide)
    · refine o_callS (W := 0) (pc' := 55) (rm := ({ frames := 0, cells := 0, slots := 0, locals := 0 } : Room)) (argsL := [(.int (3 : Int32))]) (rest := []) X41 hx hZ hown (hw _ (List.mem_of_getElem? (i := 15) rfl)) (hw _ (List.mem_of_getElem? (i := 16) rfl)) (hw _ (List.mem_of_getElem? (i := 2) rfl)) (hw _ (List.mem_of_getElem? (i := 17) rfl)) (by decide) e41 (rm3 l Z a0 hw (3 : Int32) c0 c1 c2 c3 c4 c5 c6 c3 h0 SCOMMIT SDELTACOMMIT SROLLBACK SCOMPACTION SCLEAN SSAVEPOINT SDROPSAVEPOINT (by simp [f3])) (by rw [hml]; rfl) pd_3 rfl rfl (hb hby at_52) rfl (by decide) rfl (by decide) (by decide) (by decide) ?_
      rintro _ T52 L52 ⟨rfl, rfl, e52⟩ X52
      show Ends p e below s (Q0 Z p1 p2 b0 b1 b2 b3 c0 c1 c2 c3 c4 c5 c6 h0) room_1.cells room_1.slots (T52.setTop (mkF m 55 #[.val (.int p1), .val (.int p2), .val (.int i), .val (.ref v3), .val (.int v4), .val (.int (3 : Int32)), .unset, .unset] [(.ref c3)]))
      refine o_astore (Ls' := #[.val (.int p1), .val (.int p2), .val (.int i), .val (.ref v3), .val (.int v4), .val (.int (3 : Int32)), .val (.ref c3), .unset]) (pc' := 57) X52 hx (hb hby at_55) rfl rfl rfl ?_
      refine o_iload (pc' := 59) X52 hx (hb hby at_57) rfl rfl ?_
      refine o_iconst (v := (3 : Int32)) (pc' := 60) X52 hx (hb hby at_59) (by decide) rfl ?_
      refine o_icmp_eq (p1 := 63) (p2 := 73) X52 hx (hb hby at_60) rfl (by decide) (by decide) (fun hc60 => ?_) (fun hc60 => absurd (by decide) hc60)
      refine o_iconst (v := (0 : Int32)) (pc' := 74) X52 hx (hb hby at_73) (by decide) rfl ?_
      refine o_istore (Ls' := #[.val (.int p1), .val (.int p2), .val (.int i), .val (.ref v3), .val (.int v4), .val (.int (3 : Int32)), .val (.ref c3), .val (.int (0 : Int32))]) (pc' := 76) X52 hx (hb hby at_74) rfl rfl ?_
      refine o_aload (pc' := 78) X52 hx (hb hby at_76) rfl rfl rfl ?_
      refine o_callV (W := 0) (pc' := 81) (rm := ({ frames := 0, cells := 0, slots := 0, locals := 0 } : Room)) (argsL := []) (rest := []) X52 hx hZ hown (hw _ (List.mem_of_getElem? (i := 21) rfl)) (hw _ (List.mem_of_getElem? (i := 22) rfl)) (hw _ (List.mem_of_getElem? (i := 24) rfl)) (hw _ (List.mem_of_getElem? (i := 23) rfl)) (hw _ (List.mem_of_getElem? (i := 19) rfl)) (hw _ (List.mem_of_getElem? (i := 25) rfl)) (by decide) e52 ECOMPACTION (rm4 l Z a0 hw c3 b3 h0 FCOMPACTION) (by rw [hml]; rfl) pd_4 rfl rfl (hb hby at_78) rfl (by decide) rfl (by decide) (by decide) (by decide) ?_
      rintro _ T78 L78 ⟨rfl, rfl, e78⟩ X78
      show Ends p e below s (Q0 Z p1 p2 b0 b1 b2 b3 c0 c1 c2 c3 c4 c5 c6 h0) room_1.cells room_1.slots (T78.setTop (mkF m 81 #[.val (.int p1), .val (.int p2), .val (.int i), .val (.ref v3), .val (.int v4), .val (.int (3 : Int32)), .val (.ref c3), .val (.int (0 : Int32))] [(.ref b3)]))
      refine o_callV (W := 0) (pc' := 84) (rm := ({ frames := 0, cells := 0, slots := 0, locals := 0 } : Room)) (argsL := []) (rest := []) X78 hx hZ hown (hw _ (List.mem_of_getElem? (i := 7) rfl)) (hw _ (List.mem_of_getElem? (i := 8) rfl)) (hw _ (List.mem_of_getElem? (i := 10) rfl)) (hw _ (List.mem_of_getElem? (i := 9) rfl)) (hw _ (List.mem_of_getElem? (i := 5) rfl)) (hw _ (List.mem_of_getElem? (i := 11) rfl)) (by decide) e78 ECARRIED_ON (rm2 l Z a0 hw b3 b3 h0 SCARRIED_ON) (by rw [hml]; rfl) pd_2 rfl rfl (hb hby at_81) rfl (by decide) rfl (by decide) (by decide) (by decide) ?_
      rintro _ T81 L81 ⟨rfl, rfl, e81⟩ X81
      show Ends p e below s (Q0 Z p1 p2 b0 b1 b2 b3 c0 c1 c2 c3 c4 c5 c6 h0) room_1.cells room_1.slots (T81.setTop (mkF m 84 #[.val (.int p1), .val (.int p2), .val (.int i), .val (.ref v3), .val (.int v4), .val (.int (3 : Int32)), .val (.ref c3), .val (.int (0 : Int32))] [(.int (if b3 = b3 then (0 : Int32) else 1))]))
      refine o_iload (pc' := 86) X81 hx (hb hby at_84) rfl rfl ?_
      refine o_icmp_ne (p1 := 89) (p2 := 93) X81 hx (hb hby at_86) rfl (by decide) (by decide) (fun hc86 => absurd (if_pos rfl) hc86) (fun hc86 => ?_)
      refine o_iconst (v := (1 : Int32)) (pc' := 90) X81 hx (hb hby at_89) (by decide) rfl ?_
      refine o_goto (pc' := 94) X81 hx (hb hby at_90) (by decide) (by decide) ?_
      exact o_retZ X81 hx hlk hret (hb hby at_94) (by decide) ⟨rfl, Fr.nil _⟩ (by decide) (by decide)
    · refine o_callS (W := 0) (pc' := 55) (rm := ({ frames := 0, cells := 0, slots := 0, locals := 0 } : Room)) (argsL := [(.int (4 : Int32))]) (rest := []) X41 hx hZ hown (hw _ (List.mem_of_getElem? (i := 15) rfl)) (hw _ (List.mem_of_getElem? (i := 16) rfl)) (hw _ (List.mem_of_getElem? (i := 2) rfl)) (hw _ (List.mem_of_getElem? (i := 17) rfl)) (by decide) e41 (rm3 l Z a0 hw (4 : Int32) c0 c1 c2 c3 c4 c5 c6 c4 h0 SCOMMIT SDELTACOMMIT SROLLBACK SCOMPACTION SCLEAN SSAVEPOINT SDROPSAVEPOINT (by simp [f3])) (by rw [hml]; rfl) pd_3 rfl rfl (hb hby at_52) rfl (by decide) rfl (by decide) (by decide) (by decide) ?_
      rintro _ T52 L52 ⟨rfl, rfl, e52⟩ X52
      show Ends p e below s (Q0 Z p1 p2 b0 b1 b2 b3 c0 c1 c2 c3 c4 c5 c6 h0) room_1.cells room_1.slots (T52.setTop (mkF m 55 #[.val (.int p1), .val (.int p2), .val (.int i), .val (.ref v3), .val (.int v4), .val (.int (4 : Int32)), .unset, .unset] [(.ref c4)]))
      refine o_astore (Ls' := #[.val (.int p1), .val (.int p2), .val (.int i), .val (.ref v3), .val (.int v4), .val (.int (4 : Int32)), .val (.ref c4), .unset]) (pc' := 57) X52 hx (hb hby at_55) rfl rfl rfl ?_
      refine o_iload (pc' := 59) X52 hx (hb hby at_57) rfl rfl ?_
      refine o_iconst (v := (3 : Int32)) (pc' := 60) X52 hx (hb hby at_59) (by decide) rfl ?_
      refine o_icmp_eq (p1 := 63) (p2 := 73) X52 hx (hb hby at_60) rfl (by decide) (by decide) (fun hc60 => absurd hc60 (by decide)) (fun hc60 => ?_)
      refine o_iload (pc' := 65) X52 hx (hb hby at_63) rfl rfl ?_
      refine o_iconst (v := (4 : Int32)) (pc' := 66) X52 hx (hb hby at_65) (by decide) rfl ?_
      refine o_icmp_eq (p1 := 69) (p2 := 73) X52 hx (hb hby at_66) rfl (by decide) (by decide) (fun hc66 => ?_) (fun hc66 => absurd (by decide) hc66)
      refine o_iconst (v := (0 : Int32)) (pc' := 74) X52 hx (hb hby at_73) (by decide) rfl ?_
      refine o_istore (Ls' := #[.val (.int p1), .val (.int p2), .val (.int i), .val (.ref v3), .val (.int v4), .val (.int (4 : Int32)), .val (.ref c4), .val (.int (0 : Int32))]) (pc' := 76) X52 hx (hb hby at_74) rfl rfl ?_
      refine o_aload (pc' := 78) X52 hx (hb hby at_76) rfl rfl rfl ?_
      refine o_callV (W := 0) (pc' := 81) (rm := ({ frames := 0, cells := 0, slots := 0, locals := 0 } : Room)) (argsL := []) (rest := []) X52 hx hZ hown (hw _ (List.mem_of_getElem? (i := 21) rfl)) (hw _ (List.mem_of_getElem? (i := 22) rfl)) (hw _ (List.mem_of_getElem? (i := 24) rfl)) (hw _ (List.mem_of_getElem? (i := 23) rfl)) (hw _ (List.mem_of_getElem? (i := 19) rfl)) (hw _ (List.mem_of_getElem? (i := 25) rfl)) (by decide) e52 ECLEAN (rm4 l Z a0 hw c4 b3 h0 FCLEAN) (by rw [hml]; rfl) pd_4 rfl rfl (hb hby at_78) rfl (by decide) rfl (by decide) (by decide) (by decide) ?_
      rintro _ T78 L78 ⟨rfl, rfl, e78⟩ X78
      show Ends p e below s (Q0 Z p1 p2 b0 b1 b2 b3 c0 c1 c2 c3 c4 c5 c6 h0) room_1.cells room_1.slots (T78.setTop (mkF m 81 #[.val (.int p1), .val (.int p2), .val (.int i), .val (.ref v3), .val (.int v4), .val (.int (4 : Int32)), .val (.ref c4), .val (.int (0 : Int32))] [(.ref b3)]))
      refine o_callV (W := 0) (pc' := 84) (rm := ({ frames := 0, cells := 0, slots := 0, locals := 0 } : Room)) (argsL := []) (rest := []) X78 hx hZ hown (hw _ (List.mem_of_getElem? (i := 7) rfl)) (hw _ (List.mem_of_getElem? (i := 8) rfl)) (hw _ (List.mem_of_getElem? (i := 10) rfl)) (hw _ (List.mem_of_getElem? (i := 9) rfl)) (hw _ (List.mem_of_getElem? (i := 5) rfl)) (hw _ (List.mem_of_getElem? (i := 11) rfl)) (by decide) e78 ECARRIED_ON (rm2 l Z a0 hw b3 b3 h0 SCARRIED_ON) (by rw [hml]; rfl) pd_2 rfl rfl (hb hby at_81) rfl (by decide) rfl (by decide) (by decide) (by decide) ?_
      rintro _ T81 L81 ⟨rfl, rfl, e81⟩ X81
      show Ends p e below s (Q0 Z p1 p2 b0 b1 b2 b3 c0 c1 c2 c3 c4 c5 c6 h0) room_1.cells room_1.slots (T81.setTop (mkF m 84 #[.val (.int p1), .val (.int p2), .val (.int i), .val (.ref v3), .val (.int v4), .val (.int (4 : Int32)), .val (.ref c4), .val (.int (0 : Int32))] [(.int (if b3 = b3 then (0 : Int32) else 1))]))
      refine o_iload (pc' := 86) X81 hx (hb hby at_84) rfl rfl ?_
      refine o_icmp_ne (p1 := 89) (p2 := 93) X81 hx (hb hby at_86) rfl (by decide) (by decide) (fun hc86 => absurd (if_pos rfl) hc86) (fun hc86 => ?_)
      refine o_iconst (v := (1 : Int32)) (pc' := 90) X81 hx (hb hby at_89) (by decide) rfl ?_
      refine o_goto (pc' := 94) X81 hx (hb hby at_90) (by decide) (by decide) ?_
      exact o_retZ X81 hx hlk hret (hb hby at_94) (by decide) ⟨rfl, Fr.nil _⟩ (by decide) (by decide)
    · refine o_callS (W := 0) (pc' := 55) (rm := ({ frames := 0, cells := 0, slots := 0, locals := 0 } : Room)) (argsL := [(.int (5 : Int32))]) (rest := []) X41 hx hZ hown (hw _ (List.mem_of_getElem? (i := 15) rfl)) (hw _ (List.mem_of_getElem? (i := 16) rfl)) (hw _ (List.mem_of_getElem? (i := 2) rfl)) (hw _ (List.mem_of_getElem? (i := 17) rfl)) (by decide) e41 (rm3 l Z a0 hw (5 : Int32) c0 c1 c2 c3 c4 c5 c6 c5 h0 SCOMMIT SDELTACOMMIT SROLLBACK SCOMPACTION SCLEAN SSAVEPOINT SDROPSAVEPOINT (by simp [f3])) (by rw [hml]; rfl) pd_3 rfl rfl (hb hby at_52) rfl (by decide) rfl (by decide) (by decide) (by decide) ?_
      rintro _ T52 L52 ⟨rfl, rfl, e52⟩ X52
      show Ends p e below s (Q0 Z p1 p2 b0 b1 b2 b3 c0 c1 c2 c3 c4 c5 c6 h0) room_1.cells room_1.slots (T52.setTop (mkF m 55 #[.val (.int p1), .val (.int p2), .val (.int i), .val (.ref v3), .val (.int v4), .val (.int (5 : Int32)), .unset, .unset] [(.ref c5)]))
      refine o_astore (Ls' := #[.val (.int p1), .val (.int p2), .val (.int i), .val (.ref v3), .val (.int v4), .val (.int (5 : Int32)), .val (.ref c5), .unset]) (pc' := 57) X52 hx (hb hby at_55) rfl rfl rfl ?_
      refine o_iload (pc' := 59) X52 hx (hb hby at_57) rfl rfl ?_
      refine o_iconst (v := (3 : Int32)) (pc' := 60) X52 hx (hb hby at_59) (by decide) rfl ?_
      refine o_icmp_eq (p1 := 63) (p2 := 73) X52 hx (hb hby at_60) rfl (by decide) (by decide) (fun hc60 => absurd hc60 (by decide)) (fun hc60 => ?_)
      refine o_iload (pc' := 65) X52 hx (hb hby at_63) rfl rfl ?_
      refine o_iconst (v := (4 : Int32)) (pc' := 66) X52 hx (hb hby at_65) (by decide) rfl ?_
      refine o_icmp_eq (p1 := 69) (p2 := 73) X52 hx (hb hby at_66) rfl (by decide) (by decide) (fun hc66 => absurd hc66 (by decide)) (fun hc66 => ?_)
      refine o_iconst (v := (1 : Int32)) (pc' := 70) X52 hx (hb hby at_69) (by decide) rfl ?_
      refine o_goto (pc' := 74) X52 hx (hb hby at_70) (by decide) (by decide) ?_
      refine o_istore (Ls' := #[.val (.int p1), .val (.int p2), .val (.int i), .val (.ref v3), .val (.int v4), .val (.int (5 : Int32)), .val (.ref c5), .val (.int (1 : Int32))]) (pc' := 76) X52 hx (hb hby at_74) rfl rfl ?_
      refine o_aload (pc' := 78) X52 hx (hb hby at_76) rfl rfl rfl ?_
      refine o_callV (W := 0) (pc' := 81) (rm := ({ frames := 0, cells := 0, slots := 0, locals := 0 } : Room)) (argsL := []) (rest := []) X52 hx hZ hown (hw _ (List.mem_of_getElem? (i := 21) rfl)) (hw _ (List.mem_of_getElem? (i := 22) rfl)) (hw _ (List.mem_of_getElem? (i := 24) rfl)) (hw _ (List.mem_of_getElem? (i := 23) rfl)) (hw _ (List.mem_of_getElem? (i := 19) rfl)) (hw _ (List.mem_of_getElem? (i := 25) rfl)) (by decide) e52 ESAVEPOINT (rm4 l Z a0 hw c5 b2 h0 FSAVEPOINT) (by rw [hml]; rfl) pd_4 rfl rfl (hb hby at_78) rfl (by decide) rfl (by decide) (by decide) (by decide) ?_
      rintro _ T78 L78 ⟨rfl, rfl, e78⟩ X78
      show Ends p e below s (Q0 Z p1 p2 b0 b1 b2 b3 c0 c1 c2 c3 c4 c5 c6 h0) room_1.cells room_1.slots (T78.setTop (mkF m 81 #[.val (.int p1), .val (.int p2), .val (.int i), .val (.ref v3), .val (.int v4), .val (.int (5 : Int32)), .val (.ref c5), .val (.int (1 : Int32))] [(.ref b2)]))
      refine o_callV (W := 0) (pc' := 84) (rm := ({ frames := 0, cells := 0, slots := 0, locals := 0 } : Room)) (argsL := []) (rest := []) X78 hx hZ hown (hw _ (List.mem_of_getElem? (i := 7) rfl)) (hw _ (List.mem_of_getElem? (i := 8) rfl)) (hw _ (List.mem_of_getElem? (i := 10) rfl)) (hw _ (List.mem_of_getElem? (i := 9) rfl)) (hw _ (List.mem_of_getElem? (i := 5) rfl)) (hw _ (List.mem_of_getElem? (i := 11) rfl)) (by decide) e78 ETAKEN_OFF (rm2 l Z a0 hw b2 b3 h0 SCARRIED_ON) (by rw [hml]; rfl) pd_2 rfl rfl (hb hby at_81) rfl (by decide) rfl (by decide) (by decide) (by decide) ?_
      rintro _ T81 L81 ⟨rfl, rfl, e81⟩ X81
      show Ends p e below s (Q0 Z p1 p2 b0 b1 b2 b3 c0 c1 c2 c3 c4 c5 c6 h0) room_1.cells room_1.slots (T81.setTop (mkF m 84 #[.val (.int p1), .val (.int p2), .val (.int i), .val (.ref v3), .val (.int v4), .val (.int (5 : Int32)), .val (.ref c5), .val (.int (1 : Int32))] [(.int (if b2 = b3 then (0 : Int32) else 1))]))
      refine o_iload (pc' := 86) X81 hx (hb hby at_84) rfl rfl ?_
      refine o_icmp_ne (p1 := 89) (p2 := 93) X81 hx (hb hby at_86) rfl (by decide) (by decide) (fun hc86 => absurd (if_neg NTAKEN_OFF) hc86) (fun hc86 => ?_)
      refine o_iconst (v := (1 : Int32)) (pc' := 90) X81 hx (hb hby at_89) (by decide) rfl ?_
      refine o_goto (pc' := 94) X81 hx (hb hby at_90) (by decide) (by decide) ?_
      exact o_retZ X81 hx hlk hret (hb hby at_94) (by decide) ⟨rfl, Fr.nil _⟩ (by decide) (by decide)
    · refine o_callS (W := 0) (pc' := 55) (rm := ({ frames := 0, cells := 0, slots := 0, locals := 0 } : Room)) (argsL := [(.int (6 : Int32))]) (rest := []) X41 hx hZ hown (hw _ (List.mem_of_getElem? (i := 15) rfl)) (hw _ (List.mem_of_getElem? (i := 16) rfl)) (hw _ (List.mem_of_getElem? (i := 2) rfl)) (hw _ (List.mem_of_getElem? (i := 17) rfl)) (by decide) e41 (rm3 l Z a0 hw (6 : Int32) c0 c1 c2 c3 c4 c5 c6 c6 h0 SCOMMIT SDELTACOMMIT SROLLBACK SCOMPACTION SCLEAN SSAVEPOINT SDROPSAVEPOINT (by simp [f3])) (by rw [hml]; rfl) pd_3 rfl rfl (hb hby at_52) rfl (by decide) rfl (by decide) (by decide) (by decide) ?_
      rintro _ T52 L52 ⟨rfl, rfl, e52⟩ X52
      show Ends p e below s (Q0 Z p1 p2 b0 b1 b2 b3 c0 c1 c2 c3 c4 c5 c6 h0) room_1.cells room_1.slots (T52.setTop (mkF m 55 #[.val (.int p1), .val (.int p2), .val (.int i), .val (.ref v3), .val (.int v4), .val (.int (6 : Int32)), .unset, .unset] [(.ref c6)]))
      refine o_astore (Ls' := #[.val (.int p1), .val (.int p2), .val (.int i), .val (.ref v3), .val (.int v4), .val (.int (6 : Int32)), .val (.ref c6), .unset]) (pc' := 57) X52 hx (hb hby at_55) rfl rfl rfl ?_
      refine o_iload (pc' := 59) X52 hx (hb hby at_57) rfl rfl ?_
      refine o_iconst (v := (3 : Int32)) (pc' := 60) X52 hx (hb hby at_59) (by decide) rfl ?_
      refine o_icmp_eq (p1 := 63) (p2 := 73) X52 hx (hb hby at_60) rfl (by decide) (by decide) (fun hc60 => absurd hc60 (by decide)) (fun hc60 => ?_)
      refine o_iload (pc' := 65) X52 hx (hb hby at_63) rfl rfl ?_
      refine o_iconst (v := (4 : Int32)) (pc' := 66) X52 hx (hb hby at_65) (by decide) rfl ?_
      refine o_icmp_eq (p1 := 69) (p2 := 73) X52 hx (hb hby at_66) rfl (by decide) (by decide) (fun hc66 => absurd hc66 (by decide)) (fun hc66 => ?_)
      refine o_iconst (v := (1 : Int32)) (pc' := 70) X52 hx (hb hby at_69) (by decide) rfl ?_
      refine o_goto (pc' := 74) X52 hx (hb hby at_70) (by decide) (by decide) ?_
      refine o_istore (Ls' := #[.val (.int p1), .val (.int p2), .val (.int i), .val (.ref v3), .val (.int v4), .val (.int (6 : Int32)), .val (.ref c6), .val (.int (1 : Int32))]) (pc' := 76) X52 hx (hb hby at_74) rfl rfl ?_
      refine o_aload (pc' := 78) X52 hx (hb hby at_76) rfl rfl rfl ?_
      refine o_callV (W := 0) (pc' := 81) (rm := ({ frames := 0, cells := 0, slots := 0, locals := 0 } : Room)) (argsL := []) (rest := []) X52 hx hZ hown (hw _ (List.mem_of_getElem? (i := 21) rfl)) (hw _ (List.mem_of_getElem? (i := 22) rfl)) (hw _ (List.mem_of_getElem? (i := 24) rfl)) (hw _ (List.mem_of_getElem? (i := 23) rfl)) (hw _ (List.mem_of_getElem? (i := 19) rfl)) (hw _ (List.mem_of_getElem? (i := 25) rfl)) (by decide) e52 EDROPSAVEPOINT (rm4 l Z a0 hw c6 b2 h0 FDROPSAVEPOINT) (by rw [hml]; rfl) pd_4 rfl rfl (hb hby at_78) rfl (by decide) rfl (by decide) (by decide) (by decide) ?_
      rintro _ T78 L78 ⟨rfl, rfl, e78⟩ X78
      show Ends p e below s (Q0 Z p1 p2 b0 b1 b2 b3 c0 c1 c2 c3 c4 c5 c6 h0) room_1.cells room_1.slots (T78.setTop (mkF m 81 #[.val (.int p1), .val (.int p2), .val (.int i), .val (.ref v3), .val (.int v4), .val (.int (6 : Int32)), .val (.ref c6), .val (.int (1 : Int32))] [(.ref b2)]))
      refine o_callV (W := 0) (pc' := 84) (rm := ({ frames := 0, cells := 0, slots := 0, locals := 0 } : Room)) (argsL := []) (rest := []) X78 hx hZ hown (hw _ (List.mem_of_getElem? (i := 7) rfl)) (hw _ (List.mem_of_getElem? (i := 8) rfl)) (hw _ (List.mem_of_getElem? (i := 10) rfl)) (hw _ (List.mem_of_getElem? (i := 9) rfl)) (hw _ (List.mem_of_getElem? (i := 5) rfl)) (hw _ (List.mem_of_getElem? (i := 11) rfl)) (by decide) e78 ETAKEN_OFF (rm2 l Z a0 hw b2 b3 h0 SCARRIED_ON) (by rw [hml]; rfl) pd_2 rfl rfl (hb hby at_81) rfl (by decide) rfl (by decide) (by decide) (by decide) ?_
      rintro _ T81 L81 ⟨rfl, rfl, e81⟩ X81
      show Ends p e below s (Q0 Z p1 p2 b0 b1 b2 b3 c0 c1 c2 c3 c4 c5 c6 h0) room_1.cells room_1.slots (T81.setTop (mkF m 84 #[.val (.int p1), .val (.int p2), .val (.int i), .val (.ref v3), .val (.int v4), .val (.int (6 : Int32)), .val (.ref c6), .val (.int (1 : Int32))] [(.int (if b2 = b3 then (0 : Int32) else 1))]))
      refine o_iload (pc' := 86) X81 hx (hb hby at_84) rfl rfl ?_
      refine o_icmp_ne (p1 := 89) (p2 := 93) X81 hx (hb hby at_86) rfl (by decide) (by decide) (fun hc86 => absurd (if_neg NTAKEN_OFF) hc86) (fun hc86 => ?_)
      refine o_iconst (v := (1 : Int32)) (pc' := 90) X81 hx (hb hby at_89) (by decide) rfl ?_
      refine o_goto (pc' := 94) X81 hx (hb hby at_90) (by decide) (by decide) ?_
      exact o_retZ X81 hx hlk hret (hb hby at_94) (by decide) ⟨rfl, Fr.nil _⟩ (by decide) (by decide)
  rcases (own_s4 i (by omega) (by omega)) with rfl | rfl | rfl | rfl
  · refine o_callS (W := 0) (pc' := 8) (rm := ({ frames := 0, cells := 0, slots := 0, locals := 0 } : Room)) (argsL := [(.int (0 : Int32))]) (rest := []) X0 hx hZ hown (hw _ (List.mem_of_getElem? (i := 0) rfl)) (hw _ (List.mem_of_getElem? (i := 1) rfl)) (hw _ (List.mem_of_getElem? (i := 2) rfl)) (hw _ (List.mem_of_getElem? (i := 3) rfl)) (by decide) e0 (rm1 l Z a0 hw (0 : Int32) b0 b1 b2 b3 b0 h0 SFINISHED SROLLED_BACK STAKEN_OFF SCARRIED_ON (by simp [f1])) (by rw [hml]; rfl) pd_1 rfl rfl (hb hby at_5) rfl (by decide) rfl (by decide) (by decide) (by decide) ?_
    rintro _ T5 L5 ⟨rfl, rfl, e5⟩ X5
    show Ends p e below s (Q0 Z p1 p2 b0 b1 b2 b3 c0 c1 c2 c3 c4 c5 c6 h0) room_1.cells room_1.slots (T5.setTop (mkF m 8 #[.val (.int p1), .val (.int p2), .val (.int (0 : Int32)), .unset, .unset, .unset, .unset, .unset] [(.ref b0)]))
    refine o_astoreN (Ls' := #[.val (.int p1), .val (.int p2), .val (.int (0 : Int32)), .val (.ref b0), .unset, .unset, .unset, .unset]) (pc' := 9) X5 hx (hb hby at_8) rfl rfl rfl ?_
    refine o_iloadN (pc' := 10) X5 hx (hb hby at_9) rfl rfl ?_
    refine o_if_eq (p1 := 13) (p2 := 23) X5 hx (hb hby at_10) rfl (by decide) (by decide) (fun hc10 => ?_) (fun hc10 => absurd (by decide) hc10)
    refine o_iconst (v := (1 : Int32)) (pc' := 24) X5 hx (hb hby at_23) (by decide) rfl ?_
    refine o_goto (pc' := 28) X5 hx (hb hby at_24) (by decide) (by decide) ?_
    refine o_istore (Ls' := #[.val (.int p1), .val (.int p2), .val (.int (0 : Int32)), .val (.ref b0), .val (.int (1 : Int32)), .unset, .unset, .unset]) (pc' := 30) X5 hx (hb hby at_28) rfl rfl ?_
    refine o_aloadN (pc' := 31) X5 hx (hb hby at_30) rfl rfl rfl ?_
    refine o_callV (W := 0) (pc' := 34) (rm := ({ frames := 0, cells := 0, slots := 0, locals := 0 } : Room)) (argsL := []) (rest := []) X5 hx hZ hown (hw _ (List.mem_of_getElem? (i := 7) rfl)) (hw _ (List.mem_of_getElem? (i := 8) rfl)) (hw _ (List.mem_of_getElem? (i := 10) rfl)) (hw _ (List.mem_of_getElem? (i := 9) rfl)) (hw _ (List.mem_of_getElem? (i := 5) rfl)) (hw _ (List.mem_of_getElem? (i := 11) rfl)) (by decide) e5 EFINISHED (rm2 l Z a0 hw b0 b3 h0 SCARRIED_ON) (by rw [hml]; rfl) pd_2 rfl rfl (hb hby at_31) rfl (by decide) rfl (by decide) (by decide) (by decide) ?_
    rintro _ T31 L31 ⟨rfl, rfl, e31⟩ X31
    show Ends p e below s (Q0 Z p1 p2 b0 b1 b2 b3 c0 c1 c2 c3 c4 c5 c6 h0) room_1.cells room_1.slots (T31.setTop (mkF m 34 #[.val (.int p1), .val (.int p2), .val (.int (0 : Int32)), .val (.ref b0), .val (.int (1 : Int32)), .unset, .unset, .unset] [(.int (if b0 = b3 then (0 : Int32) else 1))]))
    refine o_iload (pc' := 36) X31 hx (hb hby at_34) rfl rfl ?_
    refine o_icmp_eq (p1 := 39) (p2 := 41) X31 hx (hb hby at_36) rfl (by decide) (by decide) (fun hc36 => ?_) (fun hc36 => absurd (if_neg NFINISHED) hc36)
    exact J41 _ _ _ e31 X31
  · refine o_callS (W := 0) (pc' := 8) (rm := ({ frames := 0, cells := 0, slots := 0, locals := 0 } : Room)) (argsL := [(.int (1 : Int32))]) (rest := []) X0 hx hZ hown (hw _ (List.mem_of_getElem? (i := 0) rfl)) (hw _ (List.mem_of_getElem? (i := 1) rfl)) (hw _ (List.mem_of_getElem? (i := 2) rfl)) (hw _ (List.mem_of_getElem? (i := 3) rfl)) (by decide) e0 (rm1 l Z a0 hw (1 : Int32) b0 b1 b2 b3 b1 h0 SFINISHED SROLLED_BACK STAKEN_OFF SCARRIED_ON (by simp [f1])) (by rw [hml]; rfl) pd_1 rfl rfl (hb hby at_5) rfl (by decide) rfl (by decide) (by decide) (by decide) ?_
    rintro _ T5 L5 ⟨rfl, rfl, e5⟩ X5
    show Ends p e below s (Q0 Z p1 p2 b0 b1 b2 b3 c0 c1 c2 c3 c4 c5 c6 h0) room_1.cells room_1.slots (T5.setTop (mkF m 8 #[.val (.int p1), .val (.int p2), .val (.int (1 : Int32)), .unset, .unset, .unset, .unset, .unset] [(.ref b1)]))
    refine o_astoreN (Ls' := #[.val (.int p1), .val (.int p2), .val (.int (1 : Int32)), .val (.ref b1), .unset, .unset, .unset, .unset]) (pc' := 9) X5 hx (hb hby at_8) rfl rfl rfl ?_
    refine o_iloadN (pc' := 10) X5 hx (hb hby at_9) rfl rfl ?_
    refine o_if_eq (p1 := 13) (p2 := 23) X5 hx (hb hby at_10) rfl (by decide) (by decide) (fun hc10 => absurd hc10 (by decide)) (fun hc10 => ?_)
    refine o_iloadN (pc' := 14) X5 hx (hb hby at_13) rfl rfl ?_
    refine o_iconst (v := (1 : Int32)) (pc' := 15) X5 hx (hb hby at_14) (by decide) rfl ?_
    refine o_icmp_eq (p1 := 18) (p2 := 23) X5 hx (hb hby at_15) rfl (by decide) (by decide) (fun hc15 => ?_) (fun hc15 => absurd (by decide) hc15)
    refine o_iconst (v := (1 : Int32)) (pc' := 24) X5 hx (hb hby at_23) (by decide) rfl ?_
    refine o_goto (pc' := 28) X5 hx (hb hby at_24) (by decide) (by decide) ?_
    refine o_istore (Ls' := #[.val (.int p1), .val (.int p2), .val (.int (1 : Int32)), .val (.ref b1), .val (.int (1 : Int32)), .unset, .unset, .unset]) (pc' := 30) X5 hx (hb hby at_28) rfl rfl ?_
    refine o_aloadN (pc' := 31) X5 hx (hb hby at_30) rfl rfl rfl ?_
    refine o_callV (W := 0) (pc' := 34) (rm := ({ frames := 0, cells := 0, slots := 0, locals := 0 } : Room)) (argsL := []) (rest := []) X5 hx hZ hown (hw _ (List.mem_of_getElem? (i := 7) rfl)) (hw _ (List.mem_of_getElem? (i := 8) rfl)) (hw _ (List.mem_of_getElem? (i := 10) rfl)) (hw _ (List.mem_of_getElem? (i := 9) rfl)) (hw _ (List.mem_of_getElem? (i := 5) rfl)) (hw _ (List.mem_of_getElem? (i := 11) rfl)) (by decide) e5 EROLLED_BACK (rm2 l Z a0 hw b1 b3 h0 SCARRIED_ON) (by rw [hml]; rfl) pd_2 rfl rfl (hb hby at_31) rfl (by decide) rfl (by decide) (by decide) (by decide) ?_
    rintro _ T31 L31 ⟨rfl, rfl, e31⟩ X31
    show Ends p e below s (Q0 Z p1 p2 b0 b1 b2 b3 c0 c1 c2 c3 c4 c5 c6 h0) room_1.cells room_1.slots (T31.setTop (mkF m 34 #[.val (.int p1), .val (.int p2), .val (.int (1 : Int32)), .val (.ref b1), .val (.int (1 : Int32)), .unset, .unset, .unset] [(.int (if b1 = b3 then (0 : Int32) else 1))]))
    refine o_iload (pc' := 36) X31 hx (hb hby at_34) rfl rfl ?_
    refine o_icmp_eq (p1 := 39) (p2 := 41) X31 hx (hb hby at_36) rfl (by decide) (by decide) (fun hc36 => ?_) (fun hc36 => absurd (if_neg NROLLED_BACK) hc36)
    exact J41 _ _ _ e31 X31
  · refine o_callS (W := 0) (pc' := 8) (rm := ({ frames := 0, cells := 0, slots := 0, locals := 0 } : Room)) (argsL := [(.int (2 : Int32))]) (rest := []) X0 hx hZ hown (hw _ (List.mem_of_getElem? (i := 0) rfl)) (hw _ (List.mem_of_getElem? (i := 1) rfl)) (hw _ (List.mem_of_getElem? (i := 2) rfl)) (hw _ (List.mem_of_getElem? (i := 3) rfl)) (by decide) e0 (rm1 l Z a0 hw (2 : Int32) b0 b1 b2 b3 b2 h0 SFINISHED SROLLED_BACK STAKEN_OFF SCARRIED_ON (by simp [f1])) (by rw [hml]; rfl) pd_1 rfl rfl (hb hby at_5) rfl (by decide) rfl (by decide) (by decide) (by decide) ?_
    rintro _ T5 L5 ⟨rfl, rfl, e5⟩ X5
    show Ends p e below s (Q0 Z p1 p2 b0 b1 b2 b3 c0 c1 c2 c3 c4 c5 c6 h0) room_1.cells room_1.slots (T5.setTop (mkF m 8 #[.val (.int p1), .val (.int p2), .val (.int (2 : Int32)), .unset, .unset, .unset, .unset, .unset] [(.ref b2)]))
    refine o_astoreN (Ls' := #[.val (.int p1), .val (.int p2), .val (.int (2 : Int32)), .val (.ref b2), .unset, .unset, .unset, .unset]) (pc' := 9) X5 hx (hb hby at_8) rfl rfl rfl ?_
    refine o_iloadN (pc' := 10) X5 hx (hb hby at_9) rfl rfl ?_
    refine o_if_eq (p1 := 13) (p2 := 23) X5 hx (hb hby at_10) rfl (by decide) (by decide) (fun hc10 => absurd hc10 (by decide)) (fun hc10 => ?_)
    refine o_iloadN (pc' := 14) X5 hx (hb hby at_13) rfl rfl ?_
    refine o_iconst (v := (1 : Int32)) (pc' := 15) X5 hx (hb hby at_14) (by decide) rfl ?_
    refine o_icmp_eq (p1 := 18) (p2 := 23) X5 hx (hb hby at_15) rfl (by decide) (by decide) (fun hc15 => absurd hc15 (by decide)) (fun hc15 => ?_)
    refine o_iloadN (pc' := 19) X5 hx (hb hby at_18) rfl rfl ?_
    refine o_iconst (v := (2 : Int32)) (pc' := 20) X5 hx (hb hby at_19) (by decide) rfl ?_
    refine o_icmp_ne (p1 := 23) (p2 := 27) X5 hx (hb hby at_20) rfl (by decide) (by decide) (fun hc20 => absurd (by decide) hc20) (fun hc20 => ?_)
    refine o_iconst (v := (1 : Int32)) (pc' := 24) X5 hx (hb hby at_23) (by decide) rfl ?_
    refine o_goto (pc' := 28) X5 hx (hb hby at_24) (by decide) (by decide) ?_
    refine o_istore (Ls' := #[.val (.int p1), .val (.int p2), .val (.int (2 : Int32)), .val (.ref b2), .val (.int (1 : Int32)), .unset, .unset, .unset]) (pc' := 30) X5 hx (hb hby at_28) rfl rfl ?_
    refine o_aloadN (pc' := 31) X5 hx (hb hby at_30) rfl rfl rfl ?_
    refine o_callV (W := 0) (pc' := 34) (rm := ({ frames := 0, cells := 0, slots := 0, locals := 0 } : Room)) (argsL := []) (rest := []) X5 hx hZ hown (hw _ (List.mem_of_getElem? (i := 7) rfl)) (hw _ (List.mem_of_getElem? (i := 8) rfl)) (hw _ (List.mem_of_getElem? (i := 10) rfl)) (hw _ (List.mem_of_getElem? (i := 9) rfl)) (hw _ (List.mem_of_getElem? (i := 5) rfl)) (hw _ (List.mem_of_getElem? (i := 11) rfl)) (by decide) e5 ETAKEN_OFF (rm2 l Z a0 hw b2 b3 h0 SCARRIED_ON) (by rw [hml]; rfl) pd_2 rfl rfl (hb hby at_31) rfl (by decide) rfl (by decide) (by decide) (by decide) ?_
    rintro _ T31 L31 ⟨rfl, rfl, e31⟩ X31
    show Ends p e below s (Q0 Z p1 p2 b0 b1 b2 b3 c0 c1 c2 c3 c4 c5 c6 h0) room_1.cells room_1.slots (T31.setTop (mkF m 34 #[.val (.int p1), .val (.int p2), .val (.int (2 : Int32)), .val (.ref b2), .val (.int (1 : Int32)), .unset, .unset, .unset] [(.int (if b2 = b3 then (0 : Int32) else 1))]))
    refine o_iload (pc' := 36) X31 hx (hb hby at_34) rfl rfl ?_
    refine o_icmp_eq (p1 := 39) (p2 := 41) X31 hx (hb hby at_36) rfl (by decide) (by decide) (fun hc36 => ?_) (fun hc36 => absurd (if_neg NTAKEN_OFF) hc36)
    exact J41 _ _ _ e31 X31
  · refine o_callS (W := 0) (pc' := 8) (rm := ({ frames := 0, cells := 0, slots := 0, locals := 0 } : Room)) (argsL := [(.int (3 : Int32))]) (rest := []) X0 hx hZ hown (hw _ (List.mem_of_getElem? (i := 0) rfl)) (hw _ (List.mem_of_getElem? (i := 1) rfl)) (hw _ (List.mem_of_getElem? (i := 2) rfl)) (hw _ (List.mem_of_getElem? (i := 3) rfl)) (by decide) e0 (rm1 l Z a0 hw (3 : Int32) b0 b1 b2 b3 b3 h0 SFINISHED SROLLED_BACK STAKEN_OFF SCARRIED_ON (by simp [f1])) (by rw [hml]; rfl) pd_1 rfl rfl (hb hby at_5) rfl (by decide) rfl (by decide) (by decide) (by decide) ?_
    rintro _ T5 L5 ⟨rfl, rfl, e5⟩ X5
    show Ends p e below s (Q0 Z p1 p2 b0 b1 b2 b3 c0 c1 c2 c3 c4 c5 c6 h0) room_1.cells room_1.slots (T5.setTop (mkF m 8 #[.val (.int p1), .val (.int p2), .val (.int (3 : Int32)), .unset, .unset, .unset, .unset, .unset] [(.ref b3)]))
    refine o_astoreN (Ls' := #[.val (.int p1), .val (.int p2), .val (.int (3 : Int32)), .val (.ref b3), .unset, .unset, .unset, .unset]) (pc' := 9) X5 hx (hb hby at_8) rfl rfl rfl ?_
    refine o_iloadN (pc' := 10) X5 hx (hb hby at_9) rfl rfl ?_
    refine o_if_eq (p1 := 13) (p2 := 23) X5 hx (hb hby at_10) rfl (by decide) (by decide) (fun hc10 => absurd hc10 (by decide)) (fun hc10 => ?_)
    refine o_iloadN (pc' := 14) X5 hx (hb hby at_13) rfl rfl ?_
    refine o_iconst (v := (1 : Int32)) (pc' := 15) X5 hx (hb hby at_14) (by decide) rfl ?_
    refine o_icmp_eq (p1 := 18) (p2 := 23) X5 hx (hb hby at_15) rfl (by decide) (by decide) (fun hc15 => absurd hc15 (by decide)) (fun hc15 => ?_)
    refine o_iloadN (pc' := 19) X5 hx (hb hby at_18) rfl rfl ?_
    refine o_iconst (v := (2 : Int32)) (pc' := 20) X5 hx (hb hby at_19) (by decide) rfl ?_
    refine o_icmp_ne (p1 := 23) (p2 := 27) X5 hx (hb hby at_20) rfl (by decide) (by decide) (fun hc20 => ?_) (fun hc20 => absurd hc20 (by decide))
    refine o_iconst (v := (0 : Int32)) (pc' := 28) X5 hx (hb hby at_27) (by decide) rfl ?_
    refine o_istore (Ls' := #[.val (.int p1), .val (.int p2), .val (.int (3 : Int32)), .val (.ref b3), .val (.int (0 : Int32)), .unset, .unset, .unset]) (pc' := 30) X5 hx (hb hby at_28) rfl rfl ?_
    refine o_aloadN (pc' := 31) X5 hx (hb hby at_30) rfl rfl rfl ?_
    refine o_callV (W := 0) (pc' := 34) (rm := ({ frames := 0, cells := 0, slots := 0, locals := 0 } : Room)) (argsL := []) (rest := []) X5 hx hZ hown (hw _ (List.mem_of_getElem? (i := 7) rfl)) (hw _ (List.mem_of_getElem? (i := 8) rfl)) (hw _ (List.mem_of_getElem? (i := 10) rfl)) (hw _ (List.mem_of_getElem? (i := 9) rfl)) (hw _ (List.mem_of_getElem? (i := 5) rfl)) (hw _ (List.mem_of_getElem? (i := 11) rfl)) (by decide) e5 ECARRIED_ON (rm2 l Z a0 hw b3 b3 h0 SCARRIED_ON) (by rw [hml]; rfl) pd_2 rfl rfl (hb hby at_31) rfl (by decide) rfl (by decide) (by decide) (by decide) ?_
    rintro _ T31 L31 ⟨rfl, rfl, e31⟩ X31
    show Ends p e below s (Q0 Z p1 p2 b0 b1 b2 b3 c0 c1 c2 c3 c4 c5 c6 h0) room_1.cells room_1.slots (T31.setTop (mkF m 34 #[.val (.int p1), .val (.int p2), .val (.int (3 : Int32)), .val (.ref b3), .val (.int (0 : Int32)), .unset, .unset, .unset] [(.int (if b3 = b3 then (0 : Int32) else 1))]))
    refine o_iload (pc' := 36) X31 hx (hb hby at_34) rfl rfl ?_
    refine o_icmp_eq (p1 := 39) (p2 := 41) X31 hx (hb hby at_36) rfl (by decide) (by decide) (fun hc36 => ?_) (fun hc36 => absurd (if_pos rfl) hc36)
    exact J41 _ _ _ e31 X31
set_option maxRecDepth 65536 in
set_option maxHeartbeats 40000000 in
theorem comes_1 {Post : Tables → Env → Array Value → State → Outcome → State → Prop} (hpost : ∀ tb e args s v u, (limb_1_1.after args s (.returned v) u = true ∧ limb_1_2.after args s (.returned v) u = true ∧ True) → FrameEnd s (.returned v) u (Jvm.fieldLocs frame_1_writes args s ++ Jvm.arrayLocs frame_1_arrays args s ++ Jvm.staticLocs frame_1_statics s) 0 0 → Post tb e args s (.returned v) u) :
    ArmFor flags0 classFile x code maxLocals ret World_1 tables_1 room_1 Calls_1 rest_1 Pre_1 Post := by
  intro l hfl _ _ p e ha hc hk s m args below hf hA hF happ hP
  obtain ⟨hcalls, hrest, hpre⟩ := hP
  obtain ⟨-, -, -, hnamed, -, -, -, hat⟩ := (Spec.applies_iff hf).mp happ
  obtain ⟨hg, hn⟩ := and_e (Cond.before_iff.mp (show (Jvm.Cond.and given_1 narrow_1).before args s = true from hpre))
  obtain ⟨g0, gr0⟩ := and_e hg
  obtain ⟨g1, gr1⟩ := and_e gr0
  obtain ⟨w0, w1, rfl⟩ : ∃ w0 w1 : Value, args = #[w0, w1] := by
    have hs : args.size = 2 := by simpa [Cond.value, given_1] using g0
    obtain ⟨L⟩ := args
    match L, hs with
    | [w0, w1], _ => exact ⟨w0, w1, rfl⟩
  have hw := fun d (hd : d ∈ tables_1) => atoms_spec (ws := Jvm.Cond.code x code maxLocals ret :: tables_1) hat d (List.mem_cons_of_mem _ hd)
  have hfit : Fit s := fun {y c} hc i hi => by
    obtain ⟨ha, rfl⟩ := Array.getElem?_eq_some_iff.mp hc
    have q := List.all_eq_true.mp ((Array.all_eq_true_iff_forall_mem.mp hF) _ (Array.getElem_mem ha)) i (List.mem_range.mpr hi)
    simpa [Array.getElem?_eq_getElem hi] using q
  obtain ⟨i0, ei0⟩ := is_v g1
  obtain rfl : w0 = (.int i0) := Option.some.inj ei0
  obtain ⟨i1, ei1⟩ := is_v gr1
  obtain rfl : w1 = (.int i1) := Option.some.inj ei1
  obtain ⟨n0, hr_n⟩ := and_e hn
  obtain ⟨n1, hr_n⟩ := and_e hr_n
  obtain ⟨n2, hr_n⟩ := and_e hr_n
  obtain ⟨n3, hr_n⟩ := and_e hr_n
  obtain ⟨n4, hr_n⟩ := and_e hr_n
  obtain ⟨n5, hr_n⟩ := and_e hr_n
  obtain ⟨n6, hr_n⟩ := and_e hr_n
  obtain ⟨n7, hr_n⟩ := and_e hr_n
  obtain ⟨n8, hr_n⟩ := and_e hr_n
  obtain ⟨n9, hr_n⟩ := and_e hr_n
  obtain ⟨n10, hr_n⟩ := and_e hr_n
  obtain ⟨n11, hr_n⟩ := and_e hr_n
  obtain ⟨n12, hr_n⟩ := and_e hr_n
  obtain ⟨n13, hr_n⟩ := and_e hr_n
  obtain ⟨n14, hr_n⟩ := and_e hr_n
  obtain ⟨n15, hr_n⟩ := and_e hr_n
  obtain ⟨n16, hr_n⟩ := and_e hr_n
  obtain ⟨n17, hr_n⟩ := and_e hr_n
  obtain ⟨n18, hr_n⟩ := and_e hr_n
  obtain ⟨n19, hr_n⟩ := and_e hr_n
  obtain ⟨n20, n21⟩ := and_e hr_n
  obtain ⟨b0, eFINISHED⟩ := exa_v n0
  obtain ⟨b3, eCARRIED_ON⟩ := exa_v n1
  obtain ⟨c3, eCOMPACTION⟩ := exa_v n4
  obtain ⟨b2, eTAKEN_OFF⟩ := exa_v n6
  obtain ⟨c1, eDELTACOMMIT⟩ := exa_v n8
  obtain ⟨b1, eROLLED_BACK⟩ := exa_v n9
  obtain ⟨c5, eSAVEPOINT⟩ := exa_v n12
  obtain ⟨c2, eROLLBACK⟩ := exa_v n14
  obtain ⟨c0, eCOMMIT⟩ := exa_v n16
  obtain ⟨c6, eDROPSAVEPOINT⟩ := exa_v n18
  obtain ⟨c4, eCLEAN⟩ := exa_v n20
  have NFINISHED : ¬ b0 = b3 := Fld.ne (own_fldI eFINISHED n2) (own_fldI eCARRIED_ON n3) (by decide)
  have NROLLED_BACK : ¬ b1 = b3 := Fld.ne (own_fldI eROLLED_BACK n11) (own_fldI eCARRIED_ON n3) (by decide)
  have NTAKEN_OFF : ¬ b2 = b3 := Fld.ne (own_fldI eTAKEN_OFF n7) (own_fldI eCARRIED_ON n3) (by decide)
  obtain ⟨n, o, h1, h2, h3, _, L, rfl, ⟨rfl, N⟩, hq⟩ := rm0 l s _ hw i0 i1 b0 b1 b2 b3 c0 c1 c2 c3 c4 c5 c6 s.heap (Sta.start eFINISHED (Or.inr ⟨(hw _ (List.mem_of_getElem? (i := 5) rfl)), (hw _ (List.mem_of_getElem? (i := 6) rfl))⟩)) (Sta.start eROLLED_BACK (Or.inr ⟨(hw _ (List.mem_of_getElem? (i := 5) rfl)), (hw _ (List.mem_of_getElem? (i := 32) rfl))⟩)) (Sta.start eTAKEN_OFF (Or.inr ⟨(hw _ (List.mem_of_getElem? (i := 5) rfl)), (hw _ (List.mem_of_getElem? (i := 29) rfl))⟩)) (Sta.start eCARRIED_ON (Or.inr ⟨(hw _ (List.mem_of_getElem? (i := 5) rfl)), (hw _ (List.mem_of_getElem? (i := 13) rfl))⟩)) (Sta.start eCOMMIT (Or.inr ⟨(hw _ (List.mem_of_getElem? (i := 19) rfl)), (hw _ (List.mem_of_getElem? (i := 38) rfl))⟩)) (Sta.start eDELTACOMMIT (Or.inr ⟨(hw _ (List.mem_of_getElem? (i := 19) rfl)), (hw _ (List.mem_of_getElem? (i := 31) rfl))⟩)) (Sta.start eROLLBACK (Or.inr ⟨(hw _ (List.mem_of_getElem? (i := 19) rfl)), (hw _ (List.mem_of_getElem? (i := 36) rfl))⟩)) (Sta.start eCOMPACTION (Or.inr ⟨(hw _ (List.mem_of_getElem? (i := 19) rfl)), (hw _ (List.mem_of_getElem? (i := 20) rfl))⟩)) (Sta.start eCLEAN (Or.inr ⟨(hw _ (List.mem_of_getElem? (i := 19) rfl)), (hw _ (List.mem_of_getElem? (i := 44) rfl))⟩)) (Sta.start eSAVEPOINT (Or.inr ⟨(hw _ (List.mem_of_getElem? (i := 19) rfl)), (hw _ (List.mem_of_getElem? (i := 34) rfl))⟩)) (Sta.start eDROPSAVEPOINT (Or.inr ⟨(hw _ (List.mem_of_getElem? (i := 19) rfl)), (hw _ (List.mem_of_getElem? (i := 41) rfl))⟩)) (Exa.start eFINISHED n0) (Exa.start eROLLED_BACK n9) (Exa.start eTAKEN_OFF n6) (Exa.start eCARRIED_ON n1) (Exa.start eCOMMIT n16) (Exa.start eDELTACOMMIT n8) (Exa.start eROLLBACK n14) (Exa.start eCOMPACTION n4) (Exa.start eCLEAN n20) (Exa.start eSAVEPOINT n12) (Exa.start eDROPSAVEPOINT n18) (own_fldR eCOMMIT n17 eROLLED_BACK) (own_fldR eDELTACOMMIT n10 eROLLED_BACK) (own_fldR eROLLBACK n15 eFINISHED) (own_fldR eCOMPACTION n5 eCARRIED_ON) (own_fldR eCLEAN n21 eCARRIED_ON) (own_fldR eSAVEPOINT n13 eTAKEN_OFF) (own_fldR eDROPSAVEPOINT n19 eTAKEN_OFF) NFINISHED NROLLED_BACK NTAKEN_OFF tables_1 p e ha hc hk s m _ below hf ((Spec.applies_iff_loose hf).mp happ).1 ⟨rfl, State.Warmed39.refl s, rfl⟩ trivial
  refine ⟨n, _, h1, h2, h3, hpost _ _ _ _ _ _ ⟨Cond.after_iff.mpr rfl, Cond.after_iff.mpr (eq_i res_at (Term.int_eval (1)) rfl), trivial⟩ ⟨hq.1, hq.2.1, (hq.2.2.sift fun y hy => Or.inr (N y hy)).mono (by decide) (by decide)⟩⟩
theorem main_1_1 : Claimed_1_1 := comes_1 fun _ _ _ _ _ _ h hF => ⟨h.1, hF⟩
theorem main_1_2 : Claimed_1_2 := comes_1 fun _ _ _ _ _ _ h hF => ⟨h.2.1, hF⟩
end Jvm.Pilot.@@N@@
namespace Jvm.Pilot.@@N@@
open Jvm Jvm.ClassFile Sem Op Lib Jvm.Free Jvm.Stand Jvm.Pilot.@@N@@.Jvm.D
/-! MADE BY PROGRAM (witnessworld.py) out of the Statement's table words and the real class files: 13 classes; the members and pool entries that the words name. The judged class is class 1, her method 3. -/
namespace start1
open Jvm.ClassFile
def u (s : String) : CpInfo := .utf8 (stringToUtf16 s)
/-- a pool by its gaps: so many unusable entries, then the entry; so many at the end -/
def gap : Nat → List CpInfo → List CpInfo
  | 0, r => r
  | n + 1, r => .unusable :: gap n r
def poolList (es : List (Nat × CpInfo)) (last : Nat) : List CpInfo := es.foldr (fun e r => gap e.1 (e.2 :: r)) (gap last [])
def pool (es : List (Nat × CpInfo)) (last : Nat) : Array CpInfo := ⟨poolList es last⟩
def fileOf (pool : Array CpInfo) (this : Nat) (attrs : Array Attribute := #[]) (ms : Array MethodInfo := #[]) (fl : Nat := 33) (sup : Nat := 0) (ifs : Array Nat := #[]) (fds : Array FieldInfo := #[]) : ClassFile where
  minorVersion := 0
  majorVersion := 65
  constantPool := pool
  accessFlags := fl
  thisClass := this
  superClass := sup
  interfaces := ifs
  fields := fds
  methods := ms
  attributes := attrs
def plain (name : String) (sup : Option ClassId) : Class where
  name := name
  kind := .ordinary
  loader := none
  accessFlags := 33
  super := sup
  interfaces := #[]
  cf := none
  fields := #[]
  methods := #[]
  instanceTypes := #[]
  staticTypes := #[]
  resolved := #[]
  callSites := []
  init := .initialized
  statics := none
  mirror := none

def pool0 : Array CpInfo := pool [(5, u "<init>"), (0, u "()V"), (1, .class_ 10), (1, u "java/lang/Object")] 113

def k0m0 : Method := { name := "<init>", desc := "()V", sig := { parameters := [], returnType := none }, accessFlags := 1, code := none }
/-- java/lang/Object -/
def k0 : Class := { plain "java/lang/Object" none with
  accessFlags := 33
  interfaces := #[]
  cf := some (fileOf pool0 8 #[] #[{ accessFlags := 1, nameIndex := 5, descriptorIndex := 6, attributes := #[] }] 33 0 #[] #[])
  fields := #[]
  methods := #[k0m0]
  instanceTypes := #[]
  staticTypes := #[]
  resolved := Array.replicate 124 none
  statics := none }

def pool1 : Array CpInfo := pool [(2, .class_ 4), (1, u "java/lang/Object"), (0, u "<init>"), (0, u "()V"), (0, .fieldref 8 9), (0, .class_ 10), (0, .nameAndType 11 12), (0, u "org/chronolake/Action$Abandoned"), (0, u "FINISHED"), (0, u "Lorg/chronolake/Action$Abandoned;"), (0, .fieldref 8 14), (0, .nameAndType 15 12), (0, u "ROLLED_BACK"), (0, .fieldref 8 17), (0, .nameAndType 18 12), (0, u "TAKEN_OFF"), (0, .fieldref 8 20), (0, .nameAndType 21 12), (0, u "CARRIED_ON"), (0, .fieldref 23 24), (0, .class_ 25), (0, .nameAndType 26 27), (0, u "org/chronolake/Action"), (0, u "COMMIT"), (0, u "Lorg/chronolake/Action;"), (0, .fieldref 23 29), (0, .nameAndType 30 27), (0, u "DELTACOMMIT"), (0, .fieldref 23 32), (0, .nameAndType 33 27), (0, u "ROLLBACK"), (0, .fieldref 23 35), (0, .nameAndType 36 27), (0, u "COMPACTION"), (0, .fieldref 23 38), (0, .nameAndType 39 27), (0, u "CLEAN"), (0, .fieldref 23 41), (0, .nameAndType 42 27), (0, u "SAVEPOINT"), (0, .fieldref 23 44), (0, .nameAndType 45 27), (0, u "DROPSAVEPOINT"), (0, .methodref 47 48), (0, .class_ 49), (0, .nameAndType 50 51), (0, u "org/chronolake/AbandonedByWriterPinLaw"), (0, u "pickAbandoned"), (0, u "(I)Lorg/chronolake/Action$Abandoned;"), (0, .methodref 8 53), (0, .nameAndType 54 55), (0, u "byWriter"), (0, u "()Z"), (0, .integer 2147483647), (0, .methodref 47 58), (0, .nameAndType 59 60), (0, u "pickAction"), (0, u "(I)Lorg/chronolake/Action;"), (0, .methodref 23 62), (0, .nameAndType 63 64), (0, u "whenAbandoned"), (0, u "()Lorg/chronolake/Action$Abandoned;"), (3, u "law"), (0, u "(II)Z")] 4

def k1m0 : Method := { name := "<init>", desc := "()V", sig := { parameters := [], returnType := none }, accessFlags := 2, code := none }
def k1c1 : Code := { maxStack := 2, maxLocals := 1, code := method_2_code, exceptionTable := #[], attributes := #[] }
def k1m1 : Method := { name := "pickAbandoned", desc := "(I)Lorg/chronolake/Action$Abandoned;", sig := { parameters := [.int], returnType := some (.object "org/chronolake/Action$Abandoned") }, accessFlags := 10, code := some k1c1 }
def k1c2 : Code := { maxStack := 2, maxLocals := 1, code := method_3_code, exceptionTable := #[], attributes := #[] }
def k1m2 : Method := { name := "pickAction", desc := "(I)Lorg/chronolake/Action;", sig := { parameters := [.int], returnType := some (.object "org/chronolake/Action") }, accessFlags := 10, code := some k1c2 }
def k1c3 : Code := { maxStack := 2, maxLocals := 8, code := code, exceptionTable := #[], attributes := #[] }
def k1m3 : Method := { name := "law", desc := "(II)Z", sig := { parameters := [.int, .int], returnType := some .boolean }, accessFlags := 9, code := some k1c3 }
/-- org/chronolake/AbandonedByWriterPinLaw -/
def k1 : Class := { plain "org/chronolake/AbandonedByWriterPinLaw" (some 0) with
  accessFlags := 49
  interfaces := #[]
  cf := some (fileOf pool1 47 #[] #[{ accessFlags := 2, nameIndex := 5, descriptorIndex := 6, attributes := #[] }, { accessFlags := 10, nameIndex := 50, descriptorIndex := 51, attributes := #[] }, { accessFlags := 10, nameIndex := 59, descriptorIndex := 60, attributes := #[] }, { accessFlags := 9, nameIndex := 68, descriptorIndex := 69, attributes := #[] }] 49 2 #[] #[])
  fields := #[]
  methods := #[k1m0, k1m1, k1m2, k1m3]
  instanceTypes := #[]
  staticTypes := #[]
  resolved := Array.replicate 74 none
  statics := none }

def pool2 : Array CpInfo := pool [(1, .class_ 2), (0, u "java/lang/constant/Constable"), (0, .class_ 4), (0, u "java/lang/Object")] 6

/-- java/lang/constant/Constable -/
def k2 : Class := { plain "java/lang/constant/Constable" (some 0) with
  accessFlags := 1537
  interfaces := #[]
  cf := some (fileOf pool2 1 #[] #[] 1537 3 #[] #[])
  fields := #[]
  methods := #[]
  instanceTypes := #[]
  staticTypes := #[]
  resolved := Array.replicate 11 none
  statics := none }

def pool3 : Array CpInfo := pool [(1, .class_ 2), (0, u "java/lang/Comparable"), (0, .class_ 4), (0, u "java/lang/Object")] 7

/-- java/lang/Comparable -/
def k3 : Class := { plain "java/lang/Comparable" (some 0) with
  accessFlags := 1537
  interfaces := #[]
  cf := some (fileOf pool3 1 #[] #[] 1537 3 #[] #[])
  fields := #[]
  methods := #[]
  instanceTypes := #[]
  staticTypes := #[]
  resolved := Array.replicate 12 none
  statics := none }

def pool4 : Array CpInfo := pool [(1, .class_ 2), (0, u "java/io/Serializable"), (0, .class_ 4), (0, u "java/lang/Object")] 2

/-- java/io/Serializable -/
def k4 : Class := { plain "java/io/Serializable" (some 0) with
  accessFlags := 1537
  interfaces := #[]
  cf := some (fileOf pool4 1 #[] #[] 1537 3 #[] #[])
  fields := #[]
  methods := #[]
  instanceTypes := #[]
  staticTypes := #[]
  resolved := Array.replicate 7 none
  statics := none }

def pool5 : Array CpInfo := pool [(2, .class_ 4), (1, u "java/lang/Enum"), (0, u "name"), (0, u "Ljava/lang/String;"), (2, u "ordinal"), (0, u "I"), (1, .class_ 14), (1, u "java/lang/Object"), (4, u "hash"), (86, .class_ 108), (1, u "java/lang/Enum$EnumDesc"), (2, .class_ 112), (0, u "java/lang/constant/Constable"), (0, .class_ 114), (0, u "java/lang/Comparable"), (0, .class_ 116), (0, u "java/io/Serializable")] 87

/-- java/lang/Enum -/
def k5 : Class := { plain "java/lang/Enum" (some 0) with
  accessFlags := 1057
  interfaces := #[2, 3, 4]
  cf := some (fileOf pool5 2 #[.nestMembers #[106]] #[] 1057 12 #[111, 113, 115] #[{ accessFlags := 18, nameIndex := 5, descriptorIndex := 6, attributes := #[] }, { accessFlags := 18, nameIndex := 9, descriptorIndex := 10, attributes := #[] }, { accessFlags := 2, nameIndex := 19, descriptorIndex := 10, attributes := #[] }])
  fields := #[{ name := "name", type := (.object "java/lang/String"), accessFlags := 18, slot := 0, constantValue := 0 }, { name := "ordinal", type := .int, accessFlags := 18, slot := 1, constantValue := 0 }, { name := "hash", type := .int, accessFlags := 2, slot := 2, constantValue := 0 }]
  methods := #[]
  instanceTypes := #[(.object "java/lang/String"), .int, .int]
  staticTypes := #[]
  resolved := Array.replicate 204 none
  statics := none }

def pool6 : Array CpInfo := pool [(1, .class_ 2), (0, u "org/chronolake/Action$Abandoned"), (2, u "FINISHED"), (0, u "Lorg/chronolake/Action$Abandoned;"), (2, u "ROLLED_BACK"), (2, u "TAKEN_OFF"), (0, .fieldref 1 14), (0, .nameAndType 15 6), (0, u "CARRIED_ON"), (2, u "$VALUES"), (0, u "[Lorg/chronolake/Action$Abandoned;"), (6, .class_ 28), (1, u "java/lang/Enum"), (22, u "byWriter"), (0, u "()Z"), (6, .class_ 60), (0, u "org/chronolake/Action")] 2

def k6c0 : Code := { maxStack := 2, maxLocals := 1, code := prog_3_method_4_code, exceptionTable := #[], attributes := #[] }
def k6m0 : Method := { name := "byWriter", desc := "()Z", sig := { parameters := [], returnType := some .boolean }, accessFlags := 0, code := some k6c0 }
/-- org/chronolake/Action$Abandoned -/
def k6 : Class := { plain "org/chronolake/Action$Abandoned" (some 5) with
  accessFlags := 16432
  interfaces := #[]
  cf := some (fileOf pool6 1 #[.nestHost 59] #[{ accessFlags := 0, nameIndex := 51, descriptorIndex := 52, attributes := #[] }] 16432 26 #[] #[{ accessFlags := 16409, nameIndex := 5, descriptorIndex := 6, attributes := #[] }, { accessFlags := 16409, nameIndex := 9, descriptorIndex := 6, attributes := #[] }, { accessFlags := 16409, nameIndex := 12, descriptorIndex := 6, attributes := #[] }, { accessFlags := 16409, nameIndex := 15, descriptorIndex := 6, attributes := #[] }, { accessFlags := 4122, nameIndex := 18, descriptorIndex := 19, attributes := #[] }])
  fields := #[{ name := "FINISHED", type := (.object "org/chronolake/Action$Abandoned"), accessFlags := 16409, slot := 0, constantValue := 0 }, { name := "ROLLED_BACK", type := (.object "org/chronolake/Action$Abandoned"), accessFlags := 16409, slot := 1, constantValue := 0 }, { name := "TAKEN_OFF", type := (.object "org/chronolake/Action$Abandoned"), accessFlags := 16409, slot := 2, constantValue := 0 }, { name := "CARRIED_ON", type := (.object "org/chronolake/Action$Abandoned"), accessFlags := 16409, slot := 3, constantValue := 0 }, { name := "$VALUES", type := (.array (.object "org/chronolake/Action$Abandoned")), accessFlags := 4122, slot := 4, constantValue := 0 }]
  methods := #[k6m0]
  instanceTypes := #[(.object "java/lang/String"), .int, .int]
  staticTypes := #[(.object "org/chronolake/Action$Abandoned"), (.object "org/chronolake/Action$Abandoned"), (.object "org/chronolake/Action$Abandoned"), (.object "org/chronolake/Action$Abandoned"), (.array (.object "org/chronolake/Action$Abandoned"))]
  resolved := Array.replicate 63 none
  statics := some 0 }

def pool7 : Array CpInfo := pool [(1, .class_ 2), (0, u "org/chronolake/Action"), (2, u "COMMIT"), (0, u "Lorg/chronolake/Action;"), (2, u "DELTACOMMIT"), (2, u "ROLLBACK"), (2, u "COMPACTION"), (2, u "CLEAN"), (2, u "SAVEPOINT"), (2, u "DROPSAVEPOINT"), (2, u "$VALUES"), (0, u "[Lorg/chronolake/Action;"), (6, .class_ 37), (1, u "java/lang/Enum"), (8, u "word"), (0, u "Ljava/lang/String;"), (2, u "writes"), (0, u "Lorg/chronolake/Action$Writes;"), (0, .fieldref 1 53), (0, .nameAndType 54 55), (0, u "abandoned"), (0, u "Lorg/chronolake/Action$Abandoned;"), (11, .class_ 69), (1, u "org/chronolake/Action$Writes"), (5, .class_ 76), (0, u "org/chronolake/Action$Words"), (3, .class_ 82), (1, u "org/chronolake/Action$Abandoned"), (37, u "WORD_FORM"), (15, u "whenAbandoned"), (0, u "()Lorg/chronolake/Action$Abandoned;")] 10

def k7c0 : Code := { maxStack := 1, maxLocals := 1, code := prog_2_method_8_code, exceptionTable := #[], attributes := #[] }
def k7m0 : Method := { name := "whenAbandoned", desc := "()Lorg/chronolake/Action$Abandoned;", sig := { parameters := [], returnType := some (.object "org/chronolake/Action$Abandoned") }, accessFlags := 0, code := some k7c0 }
/-- org/chronolake/Action -/
def k7 : Class := { plain "org/chronolake/Action" (some 5) with
  accessFlags := 16432
  interfaces := #[]
  cf := some (fileOf pool7 1 #[.nestMembers #[80, 67, 75]] #[{ accessFlags := 0, nameIndex := 136, descriptorIndex := 137, attributes := #[] }] 16432 35 #[] #[{ accessFlags := 16409, nameIndex := 5, descriptorIndex := 6, attributes := #[] }, { accessFlags := 16409, nameIndex := 9, descriptorIndex := 6, attributes := #[] }, { accessFlags := 16409, nameIndex := 12, descriptorIndex := 6, attributes := #[] }, { accessFlags := 16409, nameIndex := 15, descriptorIndex := 6, attributes := #[] }, { accessFlags := 16409, nameIndex := 18, descriptorIndex := 6, attributes := #[] }, { accessFlags := 16409, nameIndex := 21, descriptorIndex := 6, attributes := #[] }, { accessFlags := 16409, nameIndex := 24, descriptorIndex := 6, attributes := #[] }, { accessFlags := 24, nameIndex := 120, descriptorIndex := 47, attributes := #[] }, { accessFlags := 18, nameIndex := 46, descriptorIndex := 47, attributes := #[] }, { accessFlags := 18, nameIndex := 50, descriptorIndex := 51, attributes := #[] }, { accessFlags := 18, nameIndex := 54, descriptorIndex := 55, attributes := #[] }, { accessFlags := 4122, nameIndex := 27, descriptorIndex := 28, attributes := #[] }])
  fields := #[{ name := "COMMIT", type := (.object "org/chronolake/Action"), accessFlags := 16409, slot := 0, constantValue := 0 }, { name := "DELTACOMMIT", type := (.object "org/chronolake/Action"), accessFlags := 16409, slot := 1, constantValue := 0 }, { name := "ROLLBACK", type := (.object "org/chronolake/Action"), accessFlags := 16409, slot := 2, constantValue := 0 }, { name := "COMPACTION", type := (.object "org/chronolake/Action"), accessFlags := 16409, slot := 3, constantValue := 0 }, { name := "CLEAN", type := (.object "org/chronolake/Action"), accessFlags := 16409, slot := 4, constantValue := 0 }, { name := "SAVEPOINT", type := (.object "org/chronolake/Action"), accessFlags := 16409, slot := 5, constantValue := 0 }, { name := "DROPSAVEPOINT", type := (.object "org/chronolake/Action"), accessFlags := 16409, slot := 6, constantValue := 0 }, { name := "WORD_FORM", type := (.object "java/lang/String"), accessFlags := 24, slot := 7, constantValue := 0 }, { name := "word", type := (.object "java/lang/String"), accessFlags := 18, slot := 3, constantValue := 0 }, { name := "writes", type := (.object "org/chronolake/Action$Writes"), accessFlags := 18, slot := 4, constantValue := 0 }, { name := "abandoned", type := (.object "org/chronolake/Action$Abandoned"), accessFlags := 18, slot := 5, constantValue := 0 }, { name := "$VALUES", type := (.array (.object "org/chronolake/Action")), accessFlags := 4122, slot := 8, constantValue := 0 }]
  methods := #[k7m0]
  instanceTypes := #[(.object "java/lang/String"), .int, .int, (.object "java/lang/String"), (.object "org/chronolake/Action$Writes"), (.object "org/chronolake/Action$Abandoned")]
  staticTypes := #[(.object "org/chronolake/Action"), (.object "org/chronolake/Action"), (.object "org/chronolake/Action"), (.object "org/chronolake/Action"), (.object "org/chronolake/Action"), (.object "org/chronolake/Action"), (.object "org/chronolake/Action"), (.object "java/lang/String"), (.array (.object "org/chronolake/Action"))]
  resolved := Array.replicate 148 none
  statics := some 1 }

def pool8 : Array CpInfo := pool [(1, u "java/lang/Cloneable"), (0, .class_ 1), (0, u "java/lang/Object"), (0, .class_ 3)] 3

/-- java/lang/Cloneable -/
def k8 : Class := { plain "java/lang/Cloneable" (some 0) with
  accessFlags := 1537
  interfaces := #[]
  cf := some (fileOf pool8 2 #[] #[] 1537 4 #[] #[])
  fields := #[]
  methods := #[]
  instanceTypes := #[]
  staticTypes := #[]
  resolved := Array.replicate 8 none
  statics := none }

/-- the primitive byte -/
def k9 : Class := { plain "byte" none with kind := .primitive 'B', accessFlags := 0x411 }
/-- [B -/
def k10 : Class := { plain "[B" (some 0) with kind := .array 9 .byte, interfaces := #[8, 4], accessFlags := 1041 }

/-- the primitive int -/
def k11 : Class := { plain "int" none with kind := .primitive 'I', accessFlags := 0x411 }
/-- [I -/
def k12 : Class := { plain "[I" (some 0) with kind := .array 11 .int, interfaces := #[8, 4], accessFlags := 1041 }

def heap : Heap := #[{ cls := 6, slots := #[.ref 2, .ref 3, .ref 4, .ref 5, .null], vm := .statics 6 },
  { cls := 7, slots := #[.ref 6, .ref 7, .ref 8, .ref 9, .ref 10, .ref 11, .ref 12, .null, .null], vm := .statics 7 },
  { cls := 6, slots := #[.null, .int 0, .int 0], vm := .none },
  { cls := 6, slots := #[.null, .int 1, .int 0], vm := .none },
  { cls := 6, slots := #[.null, .int 2, .int 0], vm := .none },
  { cls := 6, slots := #[.null, .int 3, .int 0], vm := .none },
  { cls := 7, slots := #[.null, .int 0, .int 0, .null, .null, .ref 3], vm := .none },
  { cls := 7, slots := #[.null, .int 1, .int 0, .null, .null, .ref 3], vm := .none },
  { cls := 7, slots := #[.null, .int 2, .int 0, .null, .null, .ref 2], vm := .none },
  { cls := 7, slots := #[.null, .int 3, .int 0, .null, .null, .ref 5], vm := .none },
  { cls := 7, slots := #[.null, .int 4, .int 0, .null, .null, .ref 5], vm := .none },
  { cls := 7, slots := #[.null, .int 5, .int 0, .null, .null, .ref 4], vm := .none },
  { cls := 7, slots := #[.null, .int 6, .int 0, .null, .null, .ref 4], vm := .none }]
def classes : Array Class := #[k0, k1, k2, k3, k4, k5, k6, k7, k8, k9, k10, k11, k12]
def interned : List (Array UInt16 × Addr) := []
def slotsUsed : Nat := 68
def theMethod : MethodId := ⟨1, 3⟩
def args0 : Array Value := #[.int 5, .int 9]
def aboutOver (below : List Frame) : State where
  vm := { classes := classes, interned := interned.toArray }
  heap := heap
  slotsUsed := slotsUsed
  threads := #[{ frames := .invoking theMethod args0 :: below }]
def below0 : List Frame := [.native { method := ⟨0, 0⟩, args := #[] }]
def about1 : State := aboutOver below0
def p0 : Program := .bare "" "" ""
def e0 : Env := launch0.env 0 0 0
theorem w_frames : about1.frames = Frame.invoking theMethod args0 :: below0 := rfl
set_option maxRecDepth 65536 in
theorem w_args : argsFit about1.vm theMethod args0 = true := by decide +kernel
set_option maxRecDepth 65536 in
theorem w_heap : heapFits about1 = true := by decide +kernel
set_option maxRecDepth 65536 in
theorem w_runnable : about1.curStatus? = some .runnable := by decide +kernel
set_option maxRecDepth 65536 in
theorem w_alone : about1.alone = true := by decide +kernel
set_option maxRecDepth 65536 in
theorem w_named : about1.methodNamed? x = some theMethod := by decide +kernel
set_option maxRecDepth 65536 in
theorem w_hears : about1.hears theMethod below0 = true := by decide +kernel
set_option maxRecDepth 65536 in
theorem w_ripe : about1.ripe theMethod args0 below0 = true := by decide +kernel
theorem w_running : about1.status = .running := rfl
set_option maxRecDepth 65536 in
theorem w_room : about1.hasRoom e0.platform room_1 = true :=
  launch0.hasRoom_least _ room_1 (by decide +kernel) (by decide +kernel) (by decide +kernel) (by decide +kernel) (by decide +kernel) (by decide +kernel)
theorem allAtoms_all (ts : List Jvm.Cond) (a : Array Jvm.Value) (st : Jvm.State) : (allAtoms ts).before a st = ts.all (fun c => c.before a st) := by
  induction ts with
  | nil => rfl
  | cons c t ih =>
    show (Jvm.Cond.and c (allAtoms t)).before a st = _
    rw [Jvm.Cond.before_and, ih, List.all_cons]
def words1 : List Jvm.Cond := Jvm.Cond.code x code maxLocals ret :: tables_1
/-- a 'code' word, met by the world's own term for the bytes: nothing is compared byte by byte -/
theorem code_word {y : MethodName} {bytes : ByteArray} {mx : Nat} {rt : Option FieldType} {a : Array Value} {s : State} {m : MethodId} {meth : Method} {c : Code} (h1 : s.methodNamed? y = some m) (h2 : s.vm.method? m = some meth) (h3 : meth.code = some c) (h4 : c.code = bytes)
    (h5 : (c.maxLocals == mx && c.exceptionTable.isEmpty && decide (c.maxStack ≤ mostOperands) && decide (meth.sig.returnType = rt) && !meth.locks && decide (parseMethodDescriptor y.desc = some meth.sig)) = true) : (Jvm.Cond.code y bytes mx rt).before a s = true := by
  simp only [Bool.and_eq_true, beq_iff_eq, Bool.not_eq_true', decide_eq_true_eq] at h5
  obtain ⟨⟨⟨⟨⟨g1, g2⟩, g3⟩, g4⟩, g5⟩, g6⟩ := h5
  simp [Cond.before, Cond.holds, Cond.value, h1, h2, h3, h4, g1, g2, g3, g4, g5, g6]
def isCode : Jvm.Cond → Bool
  | .code _ _ _ _ => true
  | _ => false
theorem all_split {L : List Jvm.Cond} {P : Jvm.Cond → Bool} (h1 : L.all (fun c => isCode c || P c) = true) (h2 : ∀ c ∈ L.filter isCode, P c = true) : L.all P = true := by
  refine List.all_eq_true.mpr fun c hc => ?_
  have h := List.all_eq_true.mp h1 c hc
  rcases Bool.eq_false_or_eq_true (isCode c) with hi | hi
  · exact h2 c (List.mem_filter.mpr ⟨hc, hi⟩)
  · simpa [hi] using h
set_option maxRecDepth 65536 in
theorem w_c0 : (Jvm.Cond.code x code maxLocals ret).before args0 about1 = true := code_word (m := ⟨1, 3⟩) (meth := k1m3) (c := k1c3) (by decide +kernel) rfl rfl rfl (by decide +kernel)
set_option maxRecDepth 65536 in
theorem w_c1 : (Jvm.Cond.code ({ cls := "org/chronolake/AbandonedByWriterPinLaw", name := "pickAbandoned", desc := "(I)Lorg/chronolake/Action$Abandoned;" } : Jvm.MethodName) method_2_code (1 : Nat) (Option.some (Jvm.ClassFile.FieldType.object "org/chronolake/Action$Abandoned"))).before args0 about1 = true := code_word (m := ⟨1, 1⟩) (meth := k1m1) (c := k1c1) (by decide +kernel) rfl rfl rfl (by decide +kernel)
set_option maxRecDepth 65536 in
theorem w_c2 : (Jvm.Cond.code ({ cls := "org/chronolake/Action$Abandoned", name := "byWriter", desc := "()Z" } : Jvm.MethodName) prog_3_method_4_code (1 : Nat) (Option.some Jvm.ClassFile.FieldType.boolean)).before args0 about1 = true := code_word (m := ⟨6, 0⟩) (meth := k6m0) (c := k6c0) (by decide +kernel) rfl rfl rfl (by decide +kernel)
set_option maxRecDepth 65536 in
theorem w_c3 : (Jvm.Cond.code ({ cls := "org/chronolake/AbandonedByWriterPinLaw", name := "pickAction", desc := "(I)Lorg/chronolake/Action;" } : Jvm.MethodName) method_3_code (1 : Nat) (Option.some (Jvm.ClassFile.FieldType.object "org/chronolake/Action"))).before args0 about1 = true := code_word (m := ⟨1, 2⟩) (meth := k1m2) (c := k1c2) (by decide +kernel) rfl rfl rfl (by decide +kernel)
set_option maxRecDepth 65536 in
theorem w_c4 : (Jvm.Cond.code ({ cls := "org/chronolake/Action", name := "whenAbandoned", desc := "()Lorg/chronolake/Action$Abandoned;" } : Jvm.MethodName) prog_2_method_8_code (1 : Nat) (Option.some (Jvm.ClassFile.FieldType.object "org/chronolake/Action$Abandoned"))).before args0 about1 = true := code_word (m := ⟨7, 0⟩) (meth := k7m0) (c := k7c0) (by decide +kernel) rfl rfl rfl (by decide +kernel)
def codes1 : List Jvm.Cond := [Jvm.Cond.code x code maxLocals ret, Jvm.Cond.code ({ cls := "org/chronolake/AbandonedByWriterPinLaw", name := "pickAbandoned", desc := "(I)Lorg/chronolake/Action$Abandoned;" } : Jvm.MethodName) method_2_code (1 : Nat) (Option.some (Jvm.ClassFile.FieldType.object "org/chronolake/Action$Abandoned")), Jvm.Cond.code ({ cls := "org/chronolake/Action$Abandoned", name := "byWriter", desc := "()Z" } : Jvm.MethodName) prog_3_method_4_code (1 : Nat) (Option.some Jvm.ClassFile.FieldType.boolean), Jvm.Cond.code ({ cls := "org/chronolake/AbandonedByWriterPinLaw", name := "pickAction", desc := "(I)Lorg/chronolake/Action;" } : Jvm.MethodName) method_3_code (1 : Nat) (Option.some (Jvm.ClassFile.FieldType.object "org/chronolake/Action")), Jvm.Cond.code ({ cls := "org/chronolake/Action", name := "whenAbandoned", desc := "()Lorg/chronolake/Action$Abandoned;" } : Jvm.MethodName) prog_2_method_8_code (1 : Nat) (Option.some (Jvm.ClassFile.FieldType.object "org/chronolake/Action$Abandoned"))]
set_option maxRecDepth 65536 in
theorem codes_eq : words1.filter isCode = codes1 := rfl
theorem w_codes : ∀ c ∈ words1.filter isCode, c.before args0 about1 = true := by
  rw [codes_eq]
  intro c hc
  simp only [codes1, List.mem_cons, List.not_mem_nil, or_false] at hc
  rcases hc with rfl | rfl | rfl | rfl | rfl
  · exact w_c0
  · exact w_c1
  · exact w_c2
  · exact w_c3
  · exact w_c4
set_option maxRecDepth 65536 in
theorem w_t1 : (words1.take 24).all (fun c => isCode c || c.before args0 about1) = true := by decide +kernel
set_option maxRecDepth 65536 in
theorem w_t2 : (words1.drop 24).all (fun c => isCode c || c.before args0 about1) = true := by decide +kernel
theorem w_tables : (allAtoms (Jvm.Cond.code x code maxLocals ret :: tables_1)).before args0 about1 = true := by
  rw [allAtoms_all]
  show words1.all (fun c => c.before args0 about1) = true
  refine all_split ?_ w_codes
  rw [← List.take_append_drop 24 words1, List.all_append, w_t1, w_t2]
  rfl
set_option maxRecDepth 65536 in
theorem w_case : (Jvm.Cond.and given_1 narrow_1).before args0 about1 = true := by decide +kernel
theorem w_applies : (headSpec (Jvm.Cond.code x code maxLocals ret :: tables_1) room_1).applies x e0.platform about1 = true :=
  (Spec.applies_iff w_frames).mpr ⟨w_running, w_runnable, w_alone, w_named, w_hears, w_ripe, w_room, w_tables⟩
theorem atStart : AtStart classFile x code maxLocals ret World_1 tables_1 room_1 Calls_1 rest_1 Pre_1 launch0 p0 e0 about1 theMethod args0 below0 :=
  ⟨lists_1, trivial, launch0.admits_env _ _ _, launch0.least_env, fairChoices_fair.cas, fairChoices_fair.clock, w_frames, w_args, w_heap, w_applies, trivial, trivial, w_case⟩
end start1
theorem witness_1 : WitnessClaimed_1 := ⟨start1.p0, start1.e0, start1.about1, start1.theMethod, start1.args0, start1.below0, start1.atStart⟩
end Jvm.Pilot.@@N@@
