import JvmDerived
import JvmDerived.Pilot.@@N@@Statement
import JvmDerived.Pilot.@@N@@Code
set_option linter.unusedVariables false
set_option linter.unusedSimpArgs false

namespace Jvm.Pilot.@@N@@
open Jvm Jvm.ClassFile Sem Op Lib Jvm.Free Jvm.Stand Jvm.LawKit Jvm.RoadKit Bundle Jvm.Pilot.@@N@@.Jvm.D
/-- from the state S the invocation runs to its end and Q holds there -/
def Ends (p : Program) (e : Env) (below : List Frame) (s : State) (Q : Option Value → Heap → List Loc → Prop) (K N : Nat) (S : State) : Prop :=
  ∃ s₂ o, Steps p.tables e below S s₂ ∧ s₂.status = .running ∧ Ended s₂ below o ∧ ∃ v L, o = .returned v ∧ Q v s₂.heap L ∧ FrameEnd s o s₂ L K N
/-- a method's contract at given arguments and heap -/
def Con (l : Launch) (Z : State) (y : MethodName) (bytes : ByteArray) (maxL : Nat) (rt : Option FieldType) (rm : Room) (as' : Array Value) (h0 : Heap) (Q : Option Value → Heap → List Loc → Prop) : Prop :=
  ∀ ws, MetFree l y (head1 (Jvm.Cond.code y bytes maxL rt :: ws) rm) (fun a U => a = as' ∧ Z.Warmed39 U.vm ∧ U.heap = h0) (fun _ _ _ _ _ => True) (fun _ U o U' => ∃ v L, o = .returned v ∧ Q v U'.heap L ∧ FrameEnd U o U' L rm.cells rm.slots)
section Own
variable {p : Program} {l : Launch} {e : Env} {R : Room} {s : State} {m : MethodId} {args : Array Value} {below : List Frame} {meth : Method} {c : Code} {T : State} {locs : List Loc} {cells slots : Nat} {Q : Option Value → Heap → List Loc → Prop} {K N : Nat} {pc pc' : Nat} {Ls Ls' : Array Slot} {st : List Value} {Z : State} {a0 : Array Value} {h : Heap}
theorem Ends.go {S S' : State} (g : ∀ t, Steps p.tables e below S' t → Steps p.tables e below S t) (E : Ends p e below s Q K N S') : Ends p e below s Q K N S := by
  obtain ⟨s2, o, h1, r⟩ := E; exact ⟨s2, o, g _ h1, r⟩
theorem Con.ofP {y : MethodName} {bytes : ByteArray} {maxL : Nat} {rt : Option FieldType} {rm : Room} {as' : Array Value} {h0 : Heap} (hn : plainFor y = true)
    (body : ∀ (p : Program) (e : Env) (s : State) (m : MethodId) (below : List Frame) (meth : Method) (c : Code) (T : State), Stand p l e rm s m as' below meth c T [] 0 0 → p.tables.exec = Jvm.exec → c.code = bytes → c.maxLocals = maxL → meth.sig.returnType = rt → meth.locks = false → s.vm.findClass y.cls = some m.cls → meth.name = y.name → Z.Warmed39 s.vm → T.heap = h0 →
      Ends p e below s Q rm.cells rm.slots (T.setTop (entryFrame m as' maxL))) : Con l Z y bytes maxL rt rm as' h0 Q := by
  intro ws
  refine MetFree.of_bodySF hn hisR ?_
  intro p e s m args below meth c s₁ Bd hml0 hP hK
  obtain ⟨ha, hZ, hh⟩ := hP
  subst ha
  have X0 : Stand p l e rm s m _ below meth c s₁ [] 0 0 := Stand.of_body Bd
  have e0 : s₁.heap = h0 := by rw [← hh, Bd.state]; rfl
  exact body p e s m below meth c s₁ X0 Bd.exec Bd.bytes hml0 Bd.returns (BodyLoose.notSynchronized Bd) (findClass_of_methodNamed Bd.named) (name_of_methodNamed Bd.named Bd.method).1 hZ e0
theorem Con.of {y : MethodName} {bytes : ByteArray} {maxL : Nat} {rt : Option FieldType} {rm : Room} {as' : Array Value} {h0 : Heap} (hn : plainName y.cls = true)
    (body : ∀ (p : Program) (e : Env) (s : State) (m : MethodId) (below : List Frame) (meth : Method) (c : Code) (T : State), Stand p l e rm s m as' below meth c T [] 0 0 → p.tables.exec = Jvm.exec → c.code = bytes → c.maxLocals = maxL → meth.sig.returnType = rt → meth.locks = false → s.vm.findClass y.cls = some m.cls → meth.name = y.name → Z.Warmed39 s.vm → T.heap = h0 →
      Ends p e below s Q rm.cells rm.slots (T.setTop (entryFrame m as' maxL))) : Con l Z y bytes maxL rt rm as' h0 Q := Con.ofP (plainFor_of_name hn) body
theorem o_aloadN (X : Stand p l e R s m args below meth c T locs cells slots) (hx : p.tables.exec = Jvm.exec) {k : Fin 4} {v : Value} (hd : decode c.code pc = .ok (.aload_n k, 1)) (hl : Ls[k.val]? = some (.val v)) (hv : v.isRef = true) (hp : pc + 1 = pc') (E : Ends p e below s Q K N (T.setTop (mkF m pc' Ls (v :: st)))) : Ends p e below s Q K N (T.setTop (mkF m pc Ls st)) := by
  subst hp; exact Ends.go (fun t q => XS.aloadN X.here hx rfl hd hl hv q) E
theorem o_aload (X : Stand p l e R s m args below meth c T locs cells slots) (hx : p.tables.exec = Jvm.exec) {k : Nat} {v : Value} (hd : decode c.code pc = .ok (.aload k, 2)) (hl : Ls[k]? = some (.val v)) (hv : v.isRef = true) (hp : pc + 2 = pc') (E : Ends p e below s Q K N (T.setTop (mkF m pc' Ls (v :: st)))) : Ends p e below s Q K N (T.setTop (mkF m pc Ls st)) := by
  subst hp; exact Ends.go (fun t q => XS.aload X.here hx rfl hd hl hv q) E
theorem o_iloadN (X : Stand p l e R s m args below meth c T locs cells slots) (hx : p.tables.exec = Jvm.exec) {k : Fin 4} {v : Int32} (hd : decode c.code pc = .ok (.iload_n k, 1)) (hl : Ls[k.val]? = some (.val (.int v))) (hp : pc + 1 = pc') (E : Ends p e below s Q K N (T.setTop (mkF m pc' Ls (.int v :: st)))) : Ends p e below s Q K N (T.setTop (mkF m pc Ls st)) := by
  subst hp; exact Ends.go (fun t q => XS.iloadN X.here hx rfl hd hl q) E
theorem o_iload (X : Stand p l e R s m args below meth c T locs cells slots) (hx : p.tables.exec = Jvm.exec) {k : Nat} {v : Int32} (hd : decode c.code pc = .ok (.iload k, 2)) (hl : Ls[k]? = some (.val (.int v))) (hp : pc + 2 = pc') (E : Ends p e below s Q K N (T.setTop (mkF m pc' Ls (.int v :: st)))) : Ends p e below s Q K N (T.setTop (mkF m pc Ls st)) := by
  subst hp; exact Ends.go (fun t q => XS.iload X.here hx rfl hd hl q) E
theorem o_istoreN (X : Stand p l e R s m args below meth c T locs cells slots) (hx : p.tables.exec = Jvm.exec) {k : Fin 4} {v : Int32} (hd : decode c.code pc = .ok (.istore_n k, 1)) (hl : storeLocals Ls k.val (.int v) = some Ls') (hp : pc + 1 = pc') (E : Ends p e below s Q K N (T.setTop (mkF m pc' Ls' st))) : Ends p e below s Q K N (T.setTop (mkF m pc Ls (.int v :: st))) := by
  subst hp; exact Ends.go (fun t q => XS.istoreN X.here hx rfl hd rfl hl q) E
theorem o_istore (X : Stand p l e R s m args below meth c T locs cells slots) (hx : p.tables.exec = Jvm.exec) {k : Nat} {v : Int32} (hd : decode c.code pc = .ok (.istore k, 2)) (hl : storeLocals Ls k (.int v) = some Ls') (hp : pc + 2 = pc') (E : Ends p e below s Q K N (T.setTop (mkF m pc' Ls' st))) : Ends p e below s Q K N (T.setTop (mkF m pc Ls (.int v :: st))) := by
  subst hp; exact Ends.go (fun t q => XS.istore X.here hx rfl hd rfl hl q) E
theorem o_astore (X : Stand p l e R s m args below meth c T locs cells slots) (hx : p.tables.exec = Jvm.exec) {k : Nat} {v : Value} (hd : decode c.code pc = .ok (.astore k, 2)) (hv : v.isRef = true) (hl : storeLocals Ls k v = some Ls') (hp : pc + 2 = pc') (E : Ends p e below s Q K N (T.setTop (mkF m pc' Ls' st))) : Ends p e below s Q K N (T.setTop (mkF m pc Ls (v :: st))) := by
  subst hp; exact Ends.go (fun t q => XS.astore X.here hx rfl hd rfl hv hl q) E
theorem o_iconst (X : Stand p l e R s m args below meth c T locs cells slots) (hx : p.tables.exec = Jvm.exec) {i : Int} {v : Int32} (hd : decode c.code pc = .ok (.iconst i, 1)) (hv : Int32.ofInt i = v) (hp : pc + 1 = pc') (E : Ends p e below s Q K N (T.setTop (mkF m pc' Ls (.int v :: st)))) : Ends p e below s Q K N (T.setTop (mkF m pc Ls st)) := by
  subst hp; exact Ends.go (fun t q => XS.iconst X.here hx rfl hd  (by rw [hv]; exact q)) E
theorem o_bipush (X : Stand p l e R s m args below meth c T locs cells slots) (hx : p.tables.exec = Jvm.exec) {i : Int} {v : Int32} (hd : decode c.code pc = .ok (.bipush i, 2)) (hv : (Int8.ofInt i).toInt32 = v) (hp : pc + 2 = pc') (E : Ends p e below s Q K N (T.setTop (mkF m pc' Ls (.int v :: st)))) : Ends p e below s Q K N (T.setTop (mkF m pc Ls st)) := by
  subst hp; exact Ends.go (fun t q => XS.bipush X.here hx rfl hd  (by rw [hv]; exact q)) E
theorem o_aconstNull (X : Stand p l e R s m args below meth c T locs cells slots) (hx : p.tables.exec = Jvm.exec)  (hd : decode c.code pc = .ok (.aconst_null, 1))  (hp : pc + 1 = pc') (E : Ends p e below s Q K N (T.setTop (mkF m pc' Ls (.null :: st)))) : Ends p e below s Q K N (T.setTop (mkF m pc Ls st)) := by
  subst hp; exact Ends.go (fun t q => XS.aconstNull X.here hx rfl hd  q) E
theorem o_iand (X : Stand p l e R s m args below meth c T locs cells slots) (hx : p.tables.exec = Jvm.exec) {x y : Int32} (hd : decode c.code pc = .ok (.iand, 1))  (hp : pc + 1 = pc') (E : Ends p e below s Q K N (T.setTop (mkF m pc' Ls (.int (x &&& y) :: st)))) : Ends p e below s Q K N (T.setTop (mkF m pc Ls (.int y :: .int x :: st))) := by
  subst hp; exact Ends.go (fun t q => XS.iand X.here hx rfl hd rfl q) E
theorem o_dup (X : Stand p l e R s m args below meth c T locs cells slots) (hx : p.tables.exec = Jvm.exec) {v : Value} (hd : decode c.code pc = .ok (.dup, 1)) (hc : v.category = 1) (hp : pc + 1 = pc') (E : Ends p e below s Q K N (T.setTop (mkF m pc' Ls (v :: v :: st)))) : Ends p e below s Q K N (T.setTop (mkF m pc Ls (v :: st))) := by
  subst hp; exact Ends.go (fun t q => XS.dup X.here hx rfl hd rfl hc q) E
theorem o_goto (X : Stand p l e R s m args below meth c T locs cells slots) (hx : p.tables.exec = Jvm.exec) {o : Int} (hd : decode c.code pc = .ok (.goto o, 3)) (ho : 0 ≤ (pc : Int) + o) (hp : ((pc : Int) + o).toNat = pc') (E : Ends p e below s Q K N (T.setTop (mkF m pc' Ls st))) : Ends p e below s Q K N (T.setTop (mkF m pc Ls st)) :=
  Ends.go (fun t q => XS.goto X.here hx rfl (pc0 := pc) rfl hd ho hp q) E
theorem o_icmp_eq (X : Stand p l e R s m args below meth c T locs cells slots) (hx : p.tables.exec = Jvm.exec) {x y : Int32} {o : Int} {p1 p2 : Nat} (hd : decode c.code pc = .ok (.if_icmp .eq o, 3)) (hp : pc + 3 = p1) (ho : 0 ≤ (pc : Int) + o) (hp2 : ((pc : Int) + o).toNat = p2) (E1 : x = y → Ends p e below s Q K N (T.setTop (mkF m p2 Ls st))) (E2 : ¬ x = y → Ends p e below s Q K N (T.setTop (mkF m p1 Ls st))) : Ends p e below s Q K N (T.setTop (mkF m pc Ls (.int y :: .int x :: st))) := by
  subst hp
  by_cases hc : x = y
  · exact Ends.go (fun t q => XS.icmpYes X.here hx rfl (pc0 := pc) rfl hd rfl ((teq hc).1) ho hp2 q) (E1 hc)
  · exact Ends.go (fun t q => XS.icmpNo X.here hx rfl hd rfl ((feq hc).1) q) (E2 hc)
theorem o_icmp_ne (X : Stand p l e R s m args below meth c T locs cells slots) (hx : p.tables.exec = Jvm.exec) {x y : Int32} {o : Int} {p1 p2 : Nat} (hd : decode c.code pc = .ok (.if_icmp .ne o, 3)) (hp : pc + 3 = p1) (ho : 0 ≤ (pc : Int) + o) (hp2 : ((pc : Int) + o).toNat = p2) (E1 : ¬ x = y → Ends p e below s Q K N (T.setTop (mkF m p2 Ls st))) (E2 : x = y → Ends p e below s Q K N (T.setTop (mkF m p1 Ls st))) : Ends p e below s Q K N (T.setTop (mkF m pc Ls (.int y :: .int x :: st))) := by
  subst hp
  by_cases hc : x = y
  · exact Ends.go (fun t q => XS.icmpNo X.here hx rfl hd rfl ((teq hc).2) q) (E2 hc)
  · exact Ends.go (fun t q => XS.icmpYes X.here hx rfl (pc0 := pc) rfl hd rfl ((feq hc).2) ho hp2 q) (E1 hc)
theorem o_icmp_ge (X : Stand p l e R s m args below meth c T locs cells slots) (hx : p.tables.exec = Jvm.exec) {x y : Int32} {o : Int} {p1 p2 : Nat} (hd : decode c.code pc = .ok (.if_icmp .ge o, 3)) (hp : pc + 3 = p1) (ho : 0 ≤ (pc : Int) + o) (hp2 : ((pc : Int) + o).toNat = p2) (E1 : ¬ x < y → Ends p e below s Q K N (T.setTop (mkF m p2 Ls st))) (E2 : x < y → Ends p e below s Q K N (T.setTop (mkF m p1 Ls st))) : Ends p e below s Q K N (T.setTop (mkF m pc Ls (.int y :: .int x :: st))) := by
  subst hp
  by_cases hc : x < y
  · exact Ends.go (fun t q => XS.icmpNo X.here hx rfl hd rfl ((tlt hc).2.1) q) (E2 hc)
  · exact Ends.go (fun t q => XS.icmpYes X.here hx rfl (pc0 := pc) rfl hd rfl ((flt hc).2.1) ho hp2 q) (E1 hc)
theorem o_if_eq (X : Stand p l e R s m args below meth c T locs cells slots) (hx : p.tables.exec = Jvm.exec) {x : Int32} {o : Int} {p1 p2 : Nat} (hd : decode c.code pc = .ok (.ifCond .eq o, 3)) (hp : pc + 3 = p1) (ho : 0 ≤ (pc : Int) + o) (hp2 : ((pc : Int) + o).toNat = p2) (E1 : x = 0 → Ends p e below s Q K N (T.setTop (mkF m p2 Ls st))) (E2 : ¬ x = 0 → Ends p e below s Q K N (T.setTop (mkF m p1 Ls st))) : Ends p e below s Q K N (T.setTop (mkF m pc Ls (.int x :: st))) := by
  subst hp
  by_cases hc : x = 0
  · exact Ends.go (fun t q => XS.ifYes X.here hx rfl (pc0 := pc) rfl hd rfl ((if0 _ _).trans ((teq hc).1)) ho hp2 q) (E1 hc)
  · exact Ends.go (fun t q => XS.ifNo X.here hx rfl hd rfl ((if0 _ _).trans ((feq hc).1)) q) (E2 hc)
theorem o_if_ne (X : Stand p l e R s m args below meth c T locs cells slots) (hx : p.tables.exec = Jvm.exec) {x : Int32} {o : Int} {p1 p2 : Nat} (hd : decode c.code pc = .ok (.ifCond .ne o, 3)) (hp : pc + 3 = p1) (ho : 0 ≤ (pc : Int) + o) (hp2 : ((pc : Int) + o).toNat = p2) (E1 : ¬ x = 0 → Ends p e below s Q K N (T.setTop (mkF m p2 Ls st))) (E2 : x = 0 → Ends p e below s Q K N (T.setTop (mkF m p1 Ls st))) : Ends p e below s Q K N (T.setTop (mkF m pc Ls (.int x :: st))) := by
  subst hp
  by_cases hc : x = 0
  · exact Ends.go (fun t q => XS.ifNo X.here hx rfl hd rfl ((if0 _ _).trans ((teq hc).2)) q) (E2 hc)
  · exact Ends.go (fun t q => XS.ifYes X.here hx rfl (pc0 := pc) rfl hd rfl ((if0 _ _).trans ((feq hc).2)) ho hp2 q) (E1 hc)
theorem o_if_lt (X : Stand p l e R s m args below meth c T locs cells slots) (hx : p.tables.exec = Jvm.exec) {x : Int32} {o : Int} {p1 p2 : Nat} (hd : decode c.code pc = .ok (.ifCond .lt o, 3)) (hp : pc + 3 = p1) (ho : 0 ≤ (pc : Int) + o) (hp2 : ((pc : Int) + o).toNat = p2) (E1 : x < 0 → Ends p e below s Q K N (T.setTop (mkF m p2 Ls st))) (E2 : ¬ x < 0 → Ends p e below s Q K N (T.setTop (mkF m p1 Ls st))) : Ends p e below s Q K N (T.setTop (mkF m pc Ls (.int x :: st))) := by
  subst hp
  by_cases hc : x < 0
  · exact Ends.go (fun t q => XS.ifYes X.here hx rfl (pc0 := pc) rfl hd rfl ((if0 _ _).trans ((tlt hc).1)) ho hp2 q) (E1 hc)
  · exact Ends.go (fun t q => XS.ifNo X.here hx rfl hd rfl ((if0 _ _).trans ((flt hc).1)) q) (E2 hc)
theorem o_if_ge (X : Stand p l e R s m args below meth c T locs cells slots) (hx : p.tables.exec = Jvm.exec) {x : Int32} {o : Int} {p1 p2 : Nat} (hd : decode c.code pc = .ok (.ifCond .ge o, 3)) (hp : pc + 3 = p1) (ho : 0 ≤ (pc : Int) + o) (hp2 : ((pc : Int) + o).toNat = p2) (E1 : ¬ x < 0 → Ends p e below s Q K N (T.setTop (mkF m p2 Ls st))) (E2 : x < 0 → Ends p e below s Q K N (T.setTop (mkF m p1 Ls st))) : Ends p e below s Q K N (T.setTop (mkF m pc Ls (.int x :: st))) := by
  subst hp
  by_cases hc : x < 0
  · exact Ends.go (fun t q => XS.ifNo X.here hx rfl hd rfl ((if0 _ _).trans ((tlt hc).2.1)) q) (E2 hc)
  · exact Ends.go (fun t q => XS.ifYes X.here hx rfl (pc0 := pc) rfl hd rfl ((if0 _ _).trans ((flt hc).2.1)) ho hp2 q) (E1 hc)
theorem o_ifnonnullNo (X : Stand p l e R s m args below meth c T locs cells slots) (hx : p.tables.exec = Jvm.exec) {o : Int} (hd : decode c.code pc = .ok (.ifnonnull o, 3)) (hp : pc + 3 = pc') (E : Ends p e below s Q K N (T.setTop (mkF m pc' Ls st))) : Ends p e below s Q K N (T.setTop (mkF m pc Ls (.null :: st))) := by
  subst hp; exact Ends.go (fun t q => XS.ifnonnullNo X.here hx rfl hd rfl q) E
theorem o_ret (X : Stand p l e R s m args below meth c T locs cells slots) (hx : p.tables.exec = Jvm.exec) {w : Value} {t : FieldType} {i : Instr} (hlk : meth.locks = false) (hret : meth.sig.returnType = some t) (hd : decode c.code pc = .ok (i, 1)) (hn : narrow t w = w)
    (hi : (i = .ireturn ∧ (t = .int ∨ t = .boolean ∨ t = .byte ∨ t = .char ∨ t = .short) ∧ ∃ z, w = .int z) ∨ (i = .lreturn ∧ t = .long ∧ ∃ z, w = .long z) ∨ (i = .dreturn ∧ t = .double ∧ ∃ z, w = .double z) ∨ (i = .freturn ∧ t = .float ∧ ∃ z, w = .float z) ∨ (i = .areturn ∧ t.isReference = true ∧ w.isRef = true))
    (hq : Q (some w) T.heap locs) (hk : cells ≤ K) (hs : slots ≤ N) : Ends p e below s Q K N (T.setTop (mkF m pc Ls (w :: st))) := by
  obtain ⟨fs, hr, hrun, hended, hW, hsame⟩ := X.leave (v := some w) (fun h => by rw [hret] at h; cases h) hlk
  exact ⟨_, _, retOut X hx hret hn hi hd hr, hrun, hended, _, _, rfl, hq, ⟨_, rfl⟩, hW, hsame.mono hk hs⟩
theorem o_retZ (X : Stand p l e R s m args below meth c T locs cells slots) (hx : p.tables.exec = Jvm.exec) {z : Int32} (hlk : meth.locks = false) (hret : meth.sig.returnType = some .boolean) (hd : decode c.code pc = .ok (.ireturn, 1)) (hz : z &&& 1 = z) (hq : Q (some (.int z)) T.heap locs) (hk : cells ≤ K) (hs : slots ≤ N) : Ends p e below s Q K N (T.setTop (mkF m pc Ls (.int z :: st))) :=
  o_ret X hx hlk hret hd (by show Value.int (z &&& 1) = _; rw [hz]) (Or.inl ⟨rfl, Or.inr (Or.inl rfl), _, rfl⟩) hq hk hs
theorem o_retA (X : Stand p l e R s m args below meth c T locs cells slots) (hx : p.tables.exec = Jvm.exec) {w : Value} {t : FieldType} (ht : t.isReference = true) (hw : w.isRef = true) (hlk : meth.locks = false) (hret : meth.sig.returnType = some t) (hd : decode c.code pc = .ok (.areturn, 1)) (hq : Q (some w) T.heap locs) (hk : cells ≤ K) (hs : slots ≤ N) : Ends p e below s Q K N (T.setTop (mkF m pc Ls (w :: st))) :=
  o_ret X hx hlk hret hd (by cases t <;> first | rfl | (exact absurd ht (by decide))) (Or.inr (Or.inr (Or.inr (Or.inr ⟨rfl, ht, hw⟩)))) hq hk hs
theorem o_ret0 (X : Stand p l e R s m args below meth c T locs cells slots) (hx : p.tables.exec = Jvm.exec) (hlk : meth.locks = false) (hret : meth.sig.returnType = none) (hd : decode c.code pc = .ok (.return_, 1)) (hq : Q none T.heap locs) (hk : cells ≤ K) (hs : slots ≤ N) : Ends p e below s Q K N (T.setTop (mkF m pc Ls [])) := by
  obtain ⟨fs, hr, hrun, hended, hW, hsame⟩ := X.leave (v := none) (fun _ => rfl) hlk
  exact ⟨_, _, X.returnOut hx hret hd hr, hrun, hended, _, _, rfl, hq, ⟨_, rfl⟩, hW, hsame.mono hk hs⟩
theorem o_callS (X : Stand p l e R s m args below meth c T locs cells slots) (hx : p.tables.exec = Jvm.exec) (hZ : Z.Warmed39 s.vm) {own : String} {index : Nat} {y : MethodName} {bytes : ByteArray} {maxL : Nat} {rt : Option FieldType} {rm : Room} {argsL rest : List Value} {Q' : Option Value → Heap → List Loc → Prop} {ps : List FieldType} {pr : Option FieldType} (hown : s.vm.findClass own = some m.cls) (w1 : (Jvm.Cond.methodLink own index y).before a0 Z = true) (w2 : (Jvm.Cond.static y).before a0 Z = true) (w3 : (Jvm.Cond.initialized y.cls).before a0 Z = true) (w4 : (Jvm.Cond.code y bytes maxL rt).before a0 Z = true)
    (hy : y.cls ≠ "java/lang/invoke/MethodHandle" ∧ y.cls ≠ "java/lang/invoke/VarHandle") (eT : T.heap = h) (hM : Con l Z y bytes maxL rt rm argsL.toArray h Q') (hsz : Ls.size = c.maxLocals) (hpd : parseMethodDescriptor y.desc = some ⟨ps, pr⟩) (hlen : argsL.length = ps.length) (hst : st = argsL.reverse ++ rest) (hd : decode c.code pc = .ok (.invokestatic index, 3)) (hp : pc + 3 = pc')
    {W : Nat} (hf : rm.frames + 1 ≤ R.frames) (hW : (rest.map fun v => v.category).sum = W) (hl : W + (maxL + 11) + rm.locals ≤ R.locals) (hc : cells + rm.cells ≤ R.cells) (hs : slots + rm.slots ≤ R.slots)
    (E : ∀ (v : Option Value) (T' : State) (L : List Loc), Q' v T'.heap L → Stand p l e R s m args below meth c T' (locs ++ L) (cells + rm.cells) (slots + rm.slots) → Ends p e below s Q K N (T'.setTop (mkF m pc' Ls (v.toList ++ rest)))) : Ends p e below s Q K N (T.setTop (mkF m pc Ls st)) := by
  subst hp hst
  obtain ⟨v, _, ⟨T2, L2, k2, n2⟩, -, X2, ⟨Lc2, hQ2, l2, y2, z2⟩, st2⟩ := Jvm.LawKit.callS X hx (y := y) hown (mvT hZ w1) (mvT hZ w2) (mvT hZ w3) (mvT hZ w4) hy (backOf (W := W) (hM []) hZ w4 w3 hf hl) (g := mkF m pc Ls (argsL.reverse ++ rest)) rfl hsz (argsL := argsL) (rest := rest) (lenOf hpd hlen) rfl (by show 2 * 0 + _ ≤ _; omega) hd (fun _ _ => ⟨rfl, eT, hc, hs⟩)
  dsimp only [Pt.U, Pt.locs, Pt.cells, Pt.slots] at X2 l2 y2 z2 st2 hQ2
  subst l2 y2 z2
  exact Ends.go st2 (E v T2 Lc2 hQ2 X2)
theorem o_callC (X : Stand p l e R s m args below meth c T locs cells slots) (hx : p.tables.exec = Jvm.exec) (hZ : Z.Warmed39 s.vm) {own : String} {index : Nat} {y : MethodName} {bytes : ByteArray} {maxL : Nat} {rm : Room} {a : Addr} {argsL rest : List Value} {Q' : Option Value → Heap → List Loc → Prop} {ps : List FieldType} {pr : Option FieldType} (hy1 : y.name = "<init>") (hown : s.vm.findClass own = some m.cls) (w1 : (Jvm.Cond.methodLink own index y).before a0 Z = true) (w2 : (Jvm.Cond.instanceMethod y).before a0 Z = true) (w3 : (Jvm.Cond.initialized y.cls).before a0 Z = true) (w4 : (Jvm.Cond.code y bytes maxL none).before a0 Z = true)
    (hy : y.cls ≠ "java/lang/invoke/MethodHandle" ∧ y.cls ≠ "java/lang/invoke/VarHandle") (eT : T.heap = h) (hM : Con l Z y bytes maxL none rm (.ref a :: argsL).toArray h Q') (hsz : Ls.size = c.maxLocals) (hpd : parseMethodDescriptor y.desc = some ⟨ps, pr⟩) (hlen : argsL.length = ps.length) (hst : st = argsL.reverse ++ .ref a :: rest) (hd : decode c.code pc = .ok (.invokespecial index, 3)) (hp : pc + 3 = pc')
    {W : Nat} (hf : rm.frames + 1 ≤ R.frames) (hW : (rest.map fun v => v.category).sum = W) (hl : W + (maxL + 11) + rm.locals ≤ R.locals) (hc : cells + rm.cells ≤ R.cells) (hs : slots + rm.slots ≤ R.slots)
    (E : ∀ (v : Option Value) (T' : State) (L : List Loc), Q' v T'.heap L → Stand p l e R s m args below meth c T' (locs ++ L) (cells + rm.cells) (slots + rm.slots) → Ends p e below s Q K N (T'.setTop (mkF m pc' Ls (v.toList ++ rest)))) : Ends p e below s Q K N (T.setTop (mkF m pc Ls st)) := by
  subst hp hst
  obtain ⟨v, _, ⟨T2, L2, k2, n2⟩, -, X2, ⟨Lc2, hQ2, l2, y2, z2⟩, st2⟩ := X.specialBack hx (y := y) hy1 hown (mvT hZ w1) (mvT hZ w2) (mvT hZ w4) hy (backOf (W := W) (hM []) hZ w4 w3 hf hl) (g := mkF m pc Ls (argsL.reverse ++ .ref a :: rest)) rfl hsz (Steps.refl _) (a := a) (argsL := argsL) (rest := rest) (lenOf hpd hlen) rfl (by show 2 * 0 + _ ≤ _; omega) hd (fun _ _ => ⟨rfl, eT, hc, hs⟩)
  dsimp only [Pt.U, Pt.locs, Pt.cells, Pt.slots] at X2 l2 y2 z2 st2 hQ2
  subst l2 y2 z2
  exact Ends.go (fun t q => st2.trans q) (E v T2 Lc2 hQ2 X2)
theorem o_callV (X : Stand p l e R s m args below meth c T locs cells slots) (hx : p.tables.exec = Jvm.exec) (hZ : Z.Warmed39 s.vm) {own C : String} {index : Nat} {y : MethodName} {bytes : ByteArray} {maxL : Nat} {rt : Option FieldType} {rm : Room} {b : Addr} {argsL rest : List Value} {Q' : Option Value → Heap → List Loc → Prop} {ps : List FieldType} {pr : Option FieldType} (hown : s.vm.findClass own = some m.cls) (w1 : (Jvm.Cond.methodLink own index y).before a0 Z = true) (w2 : (Jvm.Cond.declares y).before a0 Z = true) (w5 : (Jvm.Cond.selects C y y).before a0 Z = true) (w6 : (Jvm.Cond.instanceMethod y).before a0 Z = true) (w3 : (Jvm.Cond.initialized y.cls).before a0 Z = true) (w4 : (Jvm.Cond.code y bytes maxL rt).before a0 Z = true)
    (hy : y.cls ≠ "java/lang/invoke/MethodHandle" ∧ y.cls ≠ "java/lang/invoke/VarHandle") (eT : T.heap = h) (X1 : Exa Z h b C) (hM : Con l Z y bytes maxL rt rm (.ref b :: argsL).toArray h Q') (hsz : Ls.size = c.maxLocals) (hpd : parseMethodDescriptor y.desc = some ⟨ps, pr⟩) (hlen : argsL.length = ps.length) (hst : st = argsL.reverse ++ .ref b :: rest) (hd : decode c.code pc = .ok (.invokevirtual index, 3)) (hp : pc + 3 = pc')
    {W : Nat} (hf : rm.frames + 1 ≤ R.frames) (hW : (rest.map fun v => v.category).sum = W) (hl : W + (maxL + 11) + rm.locals ≤ R.locals) (hc : cells + rm.cells ≤ R.cells) (hs : slots + rm.slots ≤ R.slots)
    (E : ∀ (v : Option Value) (T' : State) (L : List Loc), Q' v T'.heap L → Stand p l e R s m args below meth c T' (locs ++ L) (cells + rm.cells) (slots + rm.slots) → Ends p e below s Q K N (T'.setTop (mkF m pc' Ls (v.toList ++ rest)))) : Ends p e below s Q K N (T.setTop (mkF m pc Ls st)) := by
  subst hp hst
  obtain ⟨cq, kq, qa, qb, qc⟩ := isOf (T := T) hZ eT X1
  obtain ⟨v, _, ⟨T2, L2, k2, n2⟩, -, X2, ⟨Lc2, hQ2, l2, y2, z2⟩, st2⟩ := X.virtualBack hx (y := y) (z := y) hown (mvT hZ w1) (mvT hZ w2) (notFace_of_selects (args := #[]) (mvT hZ w5)) (mvT hZ w5) (mvT hZ w6) hy (backOf (W := W) (hM []) hZ w4 w3 hf hl) qa qc (g := mkF m pc Ls (argsL.reverse ++ .ref b :: rest)) rfl hsz (Steps.refl _) (argsL := argsL) (rest := rest) (lenOf hpd hlen) rfl (by show 2 * 0 + _ ≤ _; omega) hd (fun _ _ => ⟨rfl, eT, hc, hs⟩)
  dsimp only [Pt.U, Pt.locs, Pt.cells, Pt.slots] at X2 l2 y2 z2 st2 hQ2
  subst l2 y2 z2
  exact Ends.go (fun t q => st2.trans q) (E v T2 Lc2 hQ2 X2)
theorem o_getF (X : Stand p l e R s m args below meth c T locs cells slots) (hx : p.tables.exec = Jvm.exec) (hZ : Z.Warmed39 s.vm) {own R0 O n d : String} {index : Nat} {a : Addr} {v : Value} (hown : s.vm.findClass own = some m.cls) (w : (Jvm.Cond.fieldLink own index R0 n d).before a0 Z = true) (via : Via Z R0 O n d) (eT : T.heap = h) (F : Fld Z h a O n d v) (hd : decode c.code pc = .ok (.getfield index, 3)) (hp : pc + 3 = pc')
    (E : ∀ T', T'.heap = h → Stand p l e R s m args below meth c T' locs cells slots → Ends p e below s Q K N (T'.setTop (mkF m pc' Ls (v :: st)))) : Ends p e below s Q K N (T.setTop (mkF m pc Ls (.ref a :: st))) := by
  subst hp
  obtain ⟨T1, X1, e1, s1⟩ := getF X hx hZ hown (host := "") (Or.inl w) via eT F (g := mkF m pc Ls (.ref a :: st)) rfl rfl hd
  exact Ends.go s1 (E T1 e1 X1)
theorem o_getS (X : Stand p l e R s m args below meth c T locs cells slots) (hx : p.tables.exec = Jvm.exec) (hZ : Z.Warmed39 s.vm) {own R0 O n d : String} {index : Nat} {v : Value} (hown : s.vm.findClass own = some m.cls) (w : (Jvm.Cond.fieldLink own index R0 n d).before a0 Z = true) (via : Via Z R0 O n d) (eT : T.heap = h) (F : Sta Z h O n d v) (hd : decode c.code pc = .ok (.getstatic index, 3)) (hp : pc + 3 = pc')
    (E : ∀ T', T'.heap = h → Stand p l e R s m args below meth c T' locs cells slots → Ends p e below s Q K N (T'.setTop (mkF m pc' Ls (v :: st)))) : Ends p e below s Q K N (T.setTop (mkF m pc Ls st)) := by
  subst hp
  obtain ⟨T1, X1, e1, s1⟩ := getS X hx hZ hown (host := "") w via eT F (g := mkF m pc Ls st) rfl hd
  exact Ends.go s1 (E T1 e1 X1)
theorem o_putF (X : Stand p l e R s m args below meth c T locs cells slots) (hx : p.tables.exec = Jvm.exec) (hZ : Z.Warmed39 s.vm) {own R0 O n d C : String} {index kk : Nat} {ty : FieldType} {a : Addr} {v old : Value} (hown : s.vm.findClass own = some m.cls) (w : (Jvm.Cond.fieldLink own index R0 n d).before a0 Z = true) (via : Via Z R0 O n d) (eT : T.heap = h) (F : Fld Z h a O n d old) (X1 : Exa Z h a C) (L : (Jvm.Cond.lays C O n d).before a0 Z = true ∨ ((Jvm.Cond.laysFinal C O n d).before a0 Z = true ∧ own = O ∧ meth.name = "<init>")) (wi : (Jvm.Cond.instantiable C kk).before a0 Z = true)
    (hty : parseFieldDescriptor d = some ty) (hn : narrow ty v = v) (hf : fits ty v = true) (hd : decode c.code pc = .ok (.putfield index, 3)) (hp : pc + 3 = pc')
    (E : ∀ T' h', T'.heap = h' → Wr h h' a (Jvm.RoadKit.slotOf Z O n d) v → Stand p l e R s m args below meth c T' (locs ++ [⟨a, Jvm.RoadKit.slotOf Z O n d⟩]) cells slots → Ends p e below s Q K N (T'.setTop (mkF m pc' Ls st))) : Ends p e below s Q K N (T.setTop (mkF m pc Ls (v :: .ref a :: st))) := by
  subst hp
  obtain ⟨T1, h1, X1, e1, W1, s1⟩ := putF X hx hZ hown (host := "") (Or.inl w) via eT F X1 L wi hty hn hf (g := mkF m pc Ls (v :: .ref a :: st)) rfl rfl hd
  exact Ends.go s1 (E T1 h1 e1 W1 X1)
theorem o_new (X : Stand p l e R s m args below meth c T locs cells slots) (hx : p.tables.exec = Jvm.exec) (hZ : Z.Warmed39 s.vm) {own C : String} {index n : Nat} (hown : s.vm.findClass own = some m.cls) (w : (Jvm.Cond.classLink own index C).before a0 Z = true) (wi : (Jvm.Cond.instantiable C n).before a0 Z = true) (wz : (Jvm.Cond.initialized C).before a0 Z = true) (eT : T.heap = h) (hd : decode c.code pc = .ok (.new index, 3)) (hp : pc + 3 = pc') (hc : cells + 1 ≤ R.cells) (hl : slots + n ≤ R.slots)
    (E : ∀ T' h' a, a = h.size → T'.heap = h' → Ext h h' → Exa Z h' a C → (∀ {O nm d : String} {ty : FieldType}, Laid Z a0 C O nm d → parseFieldDescriptor d = some ty → Fld Z h' a O nm d (defaultValue ty)) → Stand p l e R s m args below meth c T' locs (cells + 1) (slots + n) → Ends p e below s Q K N (T'.setTop (mkF m pc' Ls (.ref a :: st)))) : Ends p e below s Q K N (T.setTop (mkF m pc Ls st)) := by
  subst hp
  obtain ⟨T1, h1, X1, e1, E1, A1, D1, -, s1⟩ := newO X hx hZ hown w wi wz eT (g := mkF m pc Ls st) rfl hd hc hl
  exact Ends.go s1 (E T1 h1 _ rfl e1 E1 A1 D1 X1)
theorem o_initO (X : Stand p l e R s m args below meth c T locs cells slots) (hx : p.tables.exec = Jvm.exec) (hZ : Z.Warmed39 s.vm) {own : String} {idx : Nat} {a : Addr} (hown : s.vm.findClass own = some m.cls) (w1 : (Jvm.Cond.methodLink own idx Lib.objectInit).before a0 Z = true) (w2 : (Jvm.Cond.instanceMethod Lib.objectInit).before a0 Z = true) (w3 : (Jvm.Cond.code Lib.objectInit object_method_1_code 1 none).before a0 Z = true) (eT : T.heap = h) (hsz : Ls.size = c.maxLocals) (hd : decode c.code pc = .ok (.invokespecial idx, 3)) (hp : pc + 3 = pc') {W : Nat} (hf : 1 ≤ R.frames) (hW : (st.map fun v => v.category).sum = W) (hl : W + 12 ≤ R.locals)
    (E : ∀ T', T'.heap = h → Stand p l e R s m args below meth c T' locs cells slots → Ends p e below s Q K N (T'.setTop (mkF m pc' Ls st))) : Ends p e below s Q K N (T.setTop (mkF m pc Ls (.ref a :: st))) := by
  subst hp
  obtain ⟨T1, X1, e1, s1⟩ := initO X hx hZ hown w1 w2 w3 eT (g := mkF m pc Ls (.ref a :: st)) rfl hsz rfl hd hf (W := W) (by show 2 * 0 + _ ≤ _; omega) hl
  exact Ends.go s1 (E T1 e1 X1)
theorem o_newarr (X : Stand p l e R s m args below meth c T locs cells slots) (hx : p.tables.exec = Jvm.exec) (hZ : Z.Warmed39 s.vm) {aty : ArrayType} {n : Int32} {cap : Nat} (w : (Jvm.Cond.arrayClass (newarray.typeOf aty)).before a0 Z = true) (eT : T.heap = h) (hd : decode c.code pc = .ok (.newarray aty, 2)) (hp : pc + 2 = pc') (hn : ¬ n < 0) (hcap : n.toNatClampNeg ≤ cap) (hb : cap * 8 ≤ 536870912) (hc : cells + 1 ≤ R.cells) (hl : slots + cap ≤ R.slots)
    (E : ∀ T' h' cA a, a = h.size → T'.heap = h' → Ext h h' → Arr Z h' a (newA cA (newarray.typeOf aty) n) (newarray.typeOf aty) → Stand p l e R s m args below meth c T' locs (cells + 1) (slots + cap) → Ends p e below s Q K N (T'.setTop (mkF m pc' Ls (.ref a :: st)))) : Ends p e below s Q K N (T.setTop (mkF m pc Ls (.int n :: st))) := by
  subst hp
  obtain ⟨T1, h1, cA, X1, e1, E1, A1, s1⟩ := newP X hx hZ w eT (g := mkF m pc Ls (.int n :: st)) rfl hd rfl hn hcap hb hc hl
  exact Ends.go s1 (E T1 h1 cA _ rfl e1 E1 A1 X1)
theorem o_len (X : Stand p l e R s m args below meth c T locs cells slots) (hx : p.tables.exec = Jvm.exec) (hZ : Z.Warmed39 s.vm) {a : Addr} {cl : Cell} {ty : FieldType} {n : Int32} (eT : T.heap = h) (A : Arr Z h a cl ty) (hn : cl.slots.size.toInt32 = n) (hd : decode c.code pc = .ok (.arraylength, 1)) (hp : pc + 1 = pc') (E : Ends p e below s Q K N (T.setTop (mkF m pc' Ls (.int n :: st)))) : Ends p e below s Q K N (T.setTop (mkF m pc Ls (.ref a :: st))) := by
  subst hp hn
  exact Ends.go (fun t q => X.arraylength hx (by rw [eT]; exact A.1) (State.isArrayOf_alike hZ.alike A.2.1) (g := mkF m pc Ls (.ref a :: st)) rfl rfl hd _ q) E
def Cont (cl : Cell) (n : Nat) (g : Nat → Value) : Prop := cl.slots.size = n ∧ ∀ k, k < n → cl.slots[k]? = some (g k)
theorem Cont.new (cA : ClassId) (ty : FieldType) (z : Int32) (n : Nat) (hn : z.toNatClampNeg = n) : Cont (newA cA ty z) n (fun _ => defaultValue ty) := by
  subst hn; exact ⟨sz_new _ _ _, fun k hk => by simp [newA, hk]⟩
theorem Cont.at {cl : Cell} {n : Nat} {g : Nat → Value} (C : Cont cl n g) {j : Int32} (h0 : 0 ≤ j.toInt) (h1 : j.toInt < n) : cl.slots[j.toNatClampNeg]? = some (g j.toNatClampNeg) := C.2 _ (by simp only [Int32.toNatClampNeg]; omega)
theorem o_anewarr (X : Stand p l e R s m args below meth c T locs cells slots) (hx : p.tables.exec = Jvm.exec) (hZ : Z.Warmed39 s.vm) {own C : String} {index : Nat} {n : Int32} {cap : Nat} (hown : s.vm.findClass own = some m.cls) (w1 : (Jvm.Cond.classLink own index C).before a0 Z = true) (w2 : (Jvm.Cond.arrayOver (.object C)).before a0 Z = true) (eT : T.heap = h) (hd : decode c.code pc = .ok (.anewarray index, 3)) (hp : pc + 3 = pc') (hn : ¬ n < 0) (hcap : n.toNatClampNeg ≤ cap) (hb : cap * 8 ≤ 536870912) (hc : cells + 1 ≤ R.cells) (hl : slots + cap ≤ R.slots)
    (E : ∀ T' h' cA a, a = h.size → T'.heap = h' → Ext h h' → Arr Z h' a (newA cA (.object C) n) (.object C) → Ovr Z cA C → Stand p l e R s m args below meth c T' locs (cells + 1) (slots + cap) → Ends p e below s Q K N (T'.setTop (mkF m pc' Ls (.ref a :: st)))) : Ends p e below s Q K N (T.setTop (mkF m pc Ls (.int n :: st))) := by
  subst hp
  obtain ⟨T1, h1, cA, X1, e1, E1, A1, O1, s1⟩ := newR X hx hZ hown w1 w2 eT (g := mkF m pc Ls (.int n :: st)) rfl hd rfl hn hcap hb hc hl
  exact Ends.go s1 (E T1 h1 cA _ rfl e1 E1 A1 O1 X1)
theorem own_staK {h' : Heap} {ws : List Addr} {C n d : String} {v : Value} (F : Sta Z h C n d v) (Kp : Keep h h' ws) (q : ∀ x c, h[x]? = some c → c.vm.isStatics = true → x ∉ ws) : Sta Z h' C n d v := by
  obtain ⟨cf, i, k, f, st, cell, h1, h2, h3, h4, h5, h6, h7⟩ := F
  exact ⟨cf, i, k, f, st, cell, h1, h2, h3, h4, Kp.2.1 _ _ h5 (q _ _ h5 h6), h6, h7⟩
theorem own_staKX {h' : Heap} {a : Addr} {C C' n d : String} {v : Value} (F : Sta Z h C n d v) (Kp : Keep h h' [a]) (E : Exa Z h a C') : Sta Z h' C n d v := own_staK F Kp (fun x c hx1 hs q => by
  cases List.mem_singleton.mp q
  obtain ⟨cc, _, g1, -, -, g4, -⟩ := E
  cases g1.symm.trans hx1
  rw [hs] at g4; cases g4)
theorem own_staK0 {h' : Heap} {C n d : String} {v : Value} (F : Sta Z h C n d v) (Kp : Keep h h' []) : Sta Z h' C n d v := own_staK F Kp (fun _ _ _ _ q => nomatch q)
end Own
end Jvm.Pilot.@@N@@
namespace Jvm.Pilot.@@N@@
open Jvm Jvm.ClassFile Sem Op Lib Jvm.Free Jvm.Stand Jvm.LawKit Jvm.RoadKit Bundle Jvm.Pilot.@@N@@.Jvm.D
theorem pn_0 : plainName "com/example/ubver/ubver/verifier/InferredStateMergeInitializationPinLaw" = true := by first | (simp [plainName, overriddenIn]; done) | decide +kernel
theorem pd_0 : parseMethodDescriptor "(III)Z" = some ⟨[.int, .int, .int], some .boolean⟩ := by decide +kernel
theorem d1_0 : decode prog_83_method_1_code 0 = .ok (.aload_n 0, 1) := by decide +kernel
theorem d1_1 : decode prog_83_method_1_code 1 = .ok (.aload_n 1, 1) := by decide +kernel
theorem d1_2 : decode prog_83_method_1_code 2 = .ok (.iload_n 2, 1) := by decide +kernel
theorem d1_3 : decode prog_83_method_1_code 3 = .ok (.iload_n 3, 1) := by decide +kernel
theorem d1_4 : decode prog_83_method_1_code 4 = .ok (.invokestatic 1, 3) := by decide +kernel
theorem d1_7 : decode prog_83_method_1_code 7 = .ok (.invokespecial 7, 3) := by decide +kernel
theorem d1_10 : decode prog_83_method_1_code 10 = .ok (.return_, 1) := by decide +kernel
theorem pn_1 : plainName "com/example/ubver/ubver/verifier/InferredState" = true := by first | (simp [plainName, overriddenIn]; done) | decide +kernel
theorem pd_1 : parseMethodDescriptor "([III)V" = some ⟨[(.array .int), .int, .int], none⟩ := by decide +kernel
theorem d2_0 : decode prog_56_method_2_code 0 = .ok (.new 8, 3) := by decide +kernel
theorem d2_3 : decode prog_56_method_2_code 3 = .ok (.dup, 1) := by decide +kernel
theorem d2_4 : decode prog_56_method_2_code 4 = .ok (.iconst (-1), 1) := by decide +kernel
theorem d2_5 : decode prog_56_method_2_code 5 = .ok (.aconst_null, 1) := by decide +kernel
theorem d2_6 : decode prog_56_method_2_code 6 = .ok (.invokespecial 34, 3) := by decide +kernel
theorem d2_9 : decode prog_56_method_2_code 9 = .ok (.areturn, 1) := by decide +kernel
theorem pn_2 : plainName "com/example/ubver/ubver/verifier/ActiveSubroutines" = true := by first | (simp [plainName, overriddenIn]; done) | decide +kernel
theorem pd_2 : parseMethodDescriptor "()Lcom/example/ubver/ubver/verifier/ActiveSubroutines;" = some ⟨[], some (.object "com/example/ubver/ubver/verifier/ActiveSubroutines")⟩ := by decide +kernel
theorem d3_0 : decode prog_56_method_1_code 0 = .ok (.aload_n 0, 1) := by decide +kernel
theorem d3_1 : decode prog_56_method_1_code 1 = .ok (.invokespecial 1, 3) := by decide +kernel
theorem d3_4 : decode prog_56_method_1_code 4 = .ok (.aload_n 0, 1) := by decide +kernel
theorem d3_5 : decode prog_56_method_1_code 5 = .ok (.iload_n 1, 1) := by decide +kernel
theorem d3_6 : decode prog_56_method_1_code 6 = .ok (.putfield 7, 3) := by decide +kernel
theorem d3_9 : decode prog_56_method_1_code 9 = .ok (.aload_n 0, 1) := by decide +kernel
theorem d3_10 : decode prog_56_method_1_code 10 = .ok (.aload_n 2, 1) := by decide +kernel
theorem d3_11 : decode prog_56_method_1_code 11 = .ok (.putfield 13, 3) := by decide +kernel
theorem d3_14 : decode prog_56_method_1_code 14 = .ok (.aload_n 0, 1) := by decide +kernel
theorem d3_15 : decode prog_56_method_1_code 15 = .ok (.aload_n 2, 1) := by decide +kernel
theorem d3_16 : decode prog_56_method_1_code 16 = .ok (.ifnonnull 7, 3) := by decide +kernel
theorem d3_19 : decode prog_56_method_1_code 19 = .ok (.iconst 0, 1) := by decide +kernel
theorem d3_20 : decode prog_56_method_1_code 20 = .ok (.goto 9, 3) := by decide +kernel
theorem d3_23 : decode prog_56_method_1_code 23 = .ok (.aload_n 2, 1) := by decide +kernel
theorem d3_24 : decode prog_56_method_1_code 24 = .ok (.getfield 17, 3) := by decide +kernel
theorem d3_27 : decode prog_56_method_1_code 27 = .ok (.iconst 1, 1) := by decide +kernel
theorem d3_28 : decode prog_56_method_1_code 28 = .ok (.iadd, 1) := by decide +kernel
theorem d3_29 : decode prog_56_method_1_code 29 = .ok (.putfield 17, 3) := by decide +kernel
theorem d3_32 : decode prog_56_method_1_code 32 = .ok (.aload_n 0, 1) := by decide +kernel
theorem d3_33 : decode prog_56_method_1_code 33 = .ok (.aload_n 2, 1) := by decide +kernel
theorem d3_34 : decode prog_56_method_1_code 34 = .ok (.ifnonnull 9, 3) := by decide +kernel
theorem d3_37 : decode prog_56_method_1_code 37 = .ok (.invokestatic 20, 3) := by decide +kernel
theorem d3_40 : decode prog_56_method_1_code 40 = .ok (.goto 12, 3) := by decide +kernel
theorem d3_43 : decode prog_56_method_1_code 43 = .ok (.aload_n 2, 1) := by decide +kernel
theorem d3_44 : decode prog_56_method_1_code 44 = .ok (.getfield 26, 3) := by decide +kernel
theorem d3_47 : decode prog_56_method_1_code 47 = .ok (.iload_n 1, 1) := by decide +kernel
theorem d3_48 : decode prog_56_method_1_code 48 = .ok (.aload_n 0, 1) := by decide +kernel
theorem d3_49 : decode prog_56_method_1_code 49 = .ok (.invokevirtual 30, 3) := by decide +kernel
theorem d3_52 : decode prog_56_method_1_code 52 = .ok (.putfield 26, 3) := by decide +kernel
theorem d3_55 : decode prog_56_method_1_code 55 = .ok (.return_, 1) := by decide +kernel
theorem pn_3 : plainName "com/example/ubver/ubver/verifier/ActiveSubroutines" = true := by first | (simp [plainName, overriddenIn]; done) | decide +kernel
theorem pd_3 : parseMethodDescriptor "(ILcom/example/ubver/ubver/verifier/ActiveSubroutines;)V" = some ⟨[.int, (.object "com/example/ubver/ubver/verifier/ActiveSubroutines")], none⟩ := by decide +kernel
theorem d5_0 : decode prog_85_method_2_code 0 = .ok (.new 8, 3) := by decide +kernel
theorem d5_3 : decode prog_85_method_2_code 3 = .ok (.dup, 1) := by decide +kernel
theorem d5_4 : decode prog_85_method_2_code 4 = .ok (.aconst_null, 1) := by decide +kernel
theorem d5_5 : decode prog_85_method_2_code 5 = .ok (.invokespecial 13, 3) := by decide +kernel
theorem d5_8 : decode prog_85_method_2_code 8 = .ok (.areturn, 1) := by decide +kernel
theorem pn_5 : plainName "com/example/ubver/ubver/verifier/IntTrie" = true := by first | (simp [plainName, overriddenIn]; done) | decide +kernel
theorem pd_5 : parseMethodDescriptor "()Lcom/example/ubver/ubver/verifier/IntTrie;" = some ⟨[], some (.object "com/example/ubver/ubver/verifier/IntTrie")⟩ := by decide +kernel
theorem d6_0 : decode prog_85_method_1_code 0 = .ok (.aload_n 0, 1) := by decide +kernel
theorem d6_1 : decode prog_85_method_1_code 1 = .ok (.invokespecial 1, 3) := by decide +kernel
theorem d6_4 : decode prog_85_method_1_code 4 = .ok (.aload_n 0, 1) := by decide +kernel
theorem d6_5 : decode prog_85_method_1_code 5 = .ok (.aload_n 1, 1) := by decide +kernel
theorem d6_6 : decode prog_85_method_1_code 6 = .ok (.putfield 7, 3) := by decide +kernel
theorem d6_9 : decode prog_85_method_1_code 9 = .ok (.return_, 1) := by decide +kernel
theorem pn_6 : plainName "com/example/ubver/ubver/verifier/IntTrie" = true := by first | (simp [plainName, overriddenIn]; done) | decide +kernel
theorem pd_6 : parseMethodDescriptor "(Lcom/example/ubver/ubver/verifier/IntTrie$Node;)V" = some ⟨[(.object "com/example/ubver/ubver/verifier/IntTrie$Node")], none⟩ := by decide +kernel
theorem d7_0 : decode prog_83_method_2_code 0 = .ok (.aload_n 0, 1) := by decide +kernel
theorem d7_1 : decode prog_83_method_2_code 1 = .ok (.aload_n 1, 1) := by decide +kernel
theorem d7_2 : decode prog_83_method_2_code 2 = .ok (.iload_n 2, 1) := by decide +kernel
theorem d7_3 : decode prog_83_method_2_code 3 = .ok (.iload_n 3, 1) := by decide +kernel
theorem d7_4 : decode prog_83_method_2_code 4 = .ok (.invokespecial 13, 3) := by decide +kernel
theorem d7_7 : decode prog_83_method_2_code 7 = .ok (.aload_n 0, 1) := by decide +kernel
theorem d7_8 : decode prog_83_method_2_code 8 = .ok (.iconst (-1), 1) := by decide +kernel
theorem d7_9 : decode prog_83_method_2_code 9 = .ok (.putfield 18, 3) := by decide +kernel
theorem d7_12 : decode prog_83_method_2_code 12 = .ok (.aload_n 0, 1) := by decide +kernel
theorem d7_13 : decode prog_83_method_2_code 13 = .ok (.iconst (-1), 1) := by decide +kernel
theorem d7_14 : decode prog_83_method_2_code 14 = .ok (.putfield 22, 3) := by decide +kernel
theorem d7_17 : decode prog_83_method_2_code 17 = .ok (.aload_n 0, 1) := by decide +kernel
theorem d7_18 : decode prog_83_method_2_code 18 = .ok (.aload 4, 2) := by decide +kernel
theorem d7_20 : decode prog_83_method_2_code 20 = .ok (.putfield 25, 3) := by decide +kernel
theorem d7_23 : decode prog_83_method_2_code 23 = .ok (.return_, 1) := by decide +kernel
theorem pn_7 : plainName "com/example/ubver/ubver/verifier/InferredState" = true := by first | (simp [plainName, overriddenIn]; done) | decide +kernel
theorem pd_7 : parseMethodDescriptor "([IIILcom/example/ubver/ubver/verifier/ActiveSubroutines;)V" = some ⟨[(.array .int), .int, .int, (.object "com/example/ubver/ubver/verifier/ActiveSubroutines")], none⟩ := by decide +kernel
theorem d8_0 : decode prog_124_method_2_code 0 = .ok (.aload_n 0, 1) := by decide +kernel
theorem d8_1 : decode prog_124_method_2_code 1 = .ok (.invokespecial 7, 3) := by decide +kernel
theorem d8_4 : decode prog_124_method_2_code 4 = .ok (.aload_n 0, 1) := by decide +kernel
theorem d8_5 : decode prog_124_method_2_code 5 = .ok (.bipush 16, 2) := by decide +kernel
theorem d8_7 : decode prog_124_method_2_code 7 = .ok (.newarray .int, 2) := by decide +kernel
theorem d8_9 : decode prog_124_method_2_code 9 = .ok (.putfield 12, 3) := by decide +kernel
theorem d8_12 : decode prog_124_method_2_code 12 = .ok (.aload_n 0, 1) := by decide +kernel
theorem d8_13 : decode prog_124_method_2_code 13 = .ok (.aload_n 1, 1) := by decide +kernel
theorem d8_14 : decode prog_124_method_2_code 14 = .ok (.putfield 16, 3) := by decide +kernel
theorem d8_17 : decode prog_124_method_2_code 17 = .ok (.aload_n 0, 1) := by decide +kernel
theorem d8_18 : decode prog_124_method_2_code 18 = .ok (.iload_n 2, 1) := by decide +kernel
theorem d8_19 : decode prog_124_method_2_code 19 = .ok (.anewarray 19, 3) := by decide +kernel
theorem d8_22 : decode prog_124_method_2_code 22 = .ok (.putfield 21, 3) := by decide +kernel
theorem d8_25 : decode prog_124_method_2_code 25 = .ok (.aload_n 0, 1) := by decide +kernel
theorem d8_26 : decode prog_124_method_2_code 26 = .ok (.iload_n 3, 1) := by decide +kernel
theorem d8_27 : decode prog_124_method_2_code 27 = .ok (.anewarray 19, 3) := by decide +kernel
theorem d8_30 : decode prog_124_method_2_code 30 = .ok (.putfield 25, 3) := by decide +kernel
theorem d8_33 : decode prog_124_method_2_code 33 = .ok (.aload_n 0, 1) := by decide +kernel
theorem d8_34 : decode prog_124_method_2_code 34 = .ok (.getfield 21, 3) := by decide +kernel
theorem d8_37 : decode prog_124_method_2_code 37 = .ok (.getstatic 28, 3) := by decide +kernel
theorem d8_40 : decode prog_124_method_2_code 40 = .ok (.invokestatic 34, 3) := by decide +kernel
theorem d8_43 : decode prog_124_method_2_code 43 = .ok (.return_, 1) := by decide +kernel
theorem pn_8 : plainName "com/example/ubver/ubver/verifier/TypeState" = true := by first | (simp [plainName, overriddenIn]; done) | decide +kernel
theorem pd_8 : parseMethodDescriptor "([III)V" = some ⟨[(.array .int), .int, .int], none⟩ := by decide +kernel
theorem d9_0 : decode jdk_65_method_117_code 0 = .ok (.iconst 0, 1) := by decide +kernel
theorem d9_1 : decode jdk_65_method_117_code 1 = .ok (.istore_n 2, 1) := by decide +kernel
theorem d9_2 : decode jdk_65_method_117_code 2 = .ok (.aload_n 0, 1) := by decide +kernel
theorem d9_3 : decode jdk_65_method_117_code 3 = .ok (.arraylength, 1) := by decide +kernel
theorem d9_4 : decode jdk_65_method_117_code 4 = .ok (.istore_n 3, 1) := by decide +kernel
theorem d9_5 : decode jdk_65_method_117_code 5 = .ok (.iload_n 2, 1) := by decide +kernel
theorem d9_6 : decode jdk_65_method_117_code 6 = .ok (.iload_n 3, 1) := by decide +kernel
theorem d9_7 : decode jdk_65_method_117_code 7 = .ok (.if_icmp .ge 13, 3) := by decide +kernel
theorem d9_10 : decode jdk_65_method_117_code 10 = .ok (.aload_n 0, 1) := by decide +kernel
theorem d9_11 : decode jdk_65_method_117_code 11 = .ok (.iload_n 2, 1) := by decide +kernel
theorem d9_12 : decode jdk_65_method_117_code 12 = .ok (.aload_n 1, 1) := by decide +kernel
theorem d9_13 : decode jdk_65_method_117_code 13 = .ok (.aastore, 1) := by decide +kernel
theorem d9_14 : decode jdk_65_method_117_code 14 = .ok (.iinc 2 1, 3) := by decide +kernel
theorem d9_17 : decode jdk_65_method_117_code 17 = .ok (.goto (-12), 3) := by decide +kernel
theorem d9_20 : decode jdk_65_method_117_code 20 = .ok (.return_, 1) := by decide +kernel
theorem pn_9 : plainName "java/util/Arrays" = true := by first | (simp [plainName, overriddenIn]; done) | decide +kernel
theorem pd_9 : parseMethodDescriptor "([Ljava/lang/Object;Ljava/lang/Object;)V" = some ⟨[(.array (.object "java/lang/Object")), (.object "java/lang/Object")], none⟩ := by decide +kernel
theorem d10_0 : decode prog_83_method_23_code 0 = .ok (.iconst 0, 1) := by decide +kernel
theorem d10_1 : decode prog_83_method_23_code 1 = .ok (.istore_n 2, 1) := by decide +kernel
theorem d10_2 : decode prog_83_method_23_code 2 = .ok (.aload_n 1, 1) := by decide +kernel
theorem d10_3 : decode prog_83_method_23_code 3 = .ok (.getfield 86, 3) := by decide +kernel
theorem d10_6 : decode prog_83_method_23_code 6 = .ok (.ifCond .eq 17, 3) := by decide +kernel
theorem d10_9 : decode prog_83_method_23_code 9 = .ok (.aload_n 0, 1) := by decide +kernel
theorem d10_10 : decode prog_83_method_23_code 10 = .ok (.getfield 86, 3) := by decide +kernel
theorem d10_13 : decode prog_83_method_23_code 13 = .ok (.ifCond .ne 10, 3) := by decide +kernel
theorem d10_16 : decode prog_83_method_23_code 16 = .ok (.aload_n 0, 1) := by decide +kernel
theorem d10_17 : decode prog_83_method_23_code 17 = .ok (.iconst 1, 1) := by decide +kernel
theorem d10_18 : decode prog_83_method_23_code 18 = .ok (.putfield 86, 3) := by decide +kernel
theorem d10_21 : decode prog_83_method_23_code 21 = .ok (.iconst 1, 1) := by decide +kernel
theorem d10_22 : decode prog_83_method_23_code 22 = .ok (.istore_n 2, 1) := by decide +kernel
theorem d10_23 : decode prog_83_method_23_code 23 = .ok (.aload_n 1, 1) := by decide +kernel
theorem d10_24 : decode prog_83_method_23_code 24 = .ok (.getfield 18, 3) := by decide +kernel
theorem d10_27 : decode prog_83_method_23_code 27 = .ok (.ifCond .lt 20, 3) := by decide +kernel
theorem d10_30 : decode prog_83_method_23_code 30 = .ok (.aload_n 0, 1) := by decide +kernel
theorem d10_31 : decode prog_83_method_23_code 31 = .ok (.getfield 18, 3) := by decide +kernel
theorem d10_34 : decode prog_83_method_23_code 34 = .ok (.ifCond .ge 13, 3) := by decide +kernel
theorem d10_37 : decode prog_83_method_23_code 37 = .ok (.aload_n 0, 1) := by decide +kernel
theorem d10_38 : decode prog_83_method_23_code 38 = .ok (.aload_n 1, 1) := by decide +kernel
theorem d10_39 : decode prog_83_method_23_code 39 = .ok (.getfield 18, 3) := by decide +kernel
theorem d10_42 : decode prog_83_method_23_code 42 = .ok (.putfield 18, 3) := by decide +kernel
theorem d10_45 : decode prog_83_method_23_code 45 = .ok (.iconst 1, 1) := by decide +kernel
theorem d10_46 : decode prog_83_method_23_code 46 = .ok (.istore_n 2, 1) := by decide +kernel
theorem d10_47 : decode prog_83_method_23_code 47 = .ok (.iload_n 2, 1) := by decide +kernel
theorem d10_48 : decode prog_83_method_23_code 48 = .ok (.ireturn, 1) := by decide +kernel
theorem pn_10 : plainName "com/example/ubver/ubver/verifier/InferredState" = true := by first | (simp [plainName, overriddenIn]; done) | decide +kernel
theorem pd_10 : parseMethodDescriptor "(Lcom/example/ubver/ubver/verifier/InferredState;)Z" = some ⟨[(.object "com/example/ubver/ubver/verifier/InferredState")], some .boolean⟩ := by decide +kernel

theorem own_mask31 (x : Int32) : 0 ≤ (x &&& 2147483647).toInt := by
  have := c_mask x 2147483647 31 (by decide) (by decide)
  omega
theorem own_rem (x k : Int32) (n : Int) (hn : 0 < n) (hk : k.toInt = n) (hx : 0 ≤ x.toInt) : 0 ≤ (x % k).toInt ∧ (x % k).toInt < n := by
  have := (c_irem x k n hk).1 hx
  rw [this]
  exact ⟨Int.emod_nonneg _ (by omega), Int.emod_lt_of_pos _ hn⟩
theorem own_is {v : Int32} {k : Int} (h : v.toInt = k) : v = Int32.ofInt k := by rw [← h, Int32.ofInt_toInt]
abbrev Q6 (Z : State) (a : Addr) (n0 : Nat) (h0 : Heap) (v : Option Value) (h : Heap) (L : List Loc) : Prop := v = none ∧ Fr n0 L ∧ Keep h0 h [a]
set_option maxRecDepth 65536 in
set_option maxHeartbeats 40000000 in
theorem rm6 (l : Launch) (Z : State) (a0 : Array Value) (hw : ∀ d ∈ tables_1, d.before a0 Z = true) (a : Addr) (n0 : Nat) (h0 : Heap) (q0 : n0 ≤ a) (E : Exa Z h0 a "com/example/ubver/ubver/verifier/IntTrie") (F_a_root : Fld Z h0 a "com/example/ubver/ubver/verifier/IntTrie" "root" "Lcom/example/ubver/ubver/verifier/IntTrie$Node;" .null) (Z0 : n0 ≤ h0.size) :
    Con l Z (⟨"com/example/ubver/ubver/verifier/IntTrie", "<init>", "(Lcom/example/ubver/ubver/verifier/IntTrie$Node;)V"⟩ : MethodName) prog_85_method_1_code 2 none ({ frames := 1, cells := 0, slots := 0, locals := 12 } : Room) #[(.ref a), .null] h0 (Q6 Z a n0 h0) := by
  refine Con.of pn_6 (fun p e s m below meth c T0 X0 hx hby hml hret hlk hown hnm hZ e0 => ?_)
  replace hown : s.vm.findClass "com/example/ubver/ubver/verifier/IntTrie" = some m.cls := hown
  have ef : entryFrame m #[(.ref a), .null] 2 = mkF m 0 #[.val (.ref a), .val .null] [] := by first | (simp [entryFrame, mkF, argsToLocals, Value.category]; done) | rfl
  rw [ef]
  have N := Fr.nil n0
  have K := Keep.refl h0 [a]
  refine o_aloadN (pc' := 1) X0 hx (hb hby d6_0) rfl rfl rfl ?_
  refine o_initO (W := 0) (pc' := 4) X0 hx hZ hown (hw _ (List.mem_of_getElem? (i := 33) rfl)) (hw _ (List.mem_of_getElem? (i := 16) rfl)) (hw _ (List.mem_of_getElem? (i := 17) rfl)) e0 (by rw [hml]; rfl) (hb hby d6_1) rfl (by decide) rfl (by decide) ?_
  intro T1 e1 X1
  refine o_aloadN (pc' := 5) X1 hx (hb hby d6_4) rfl rfl rfl ?_
  refine o_aloadN (pc' := 6) X1 hx (hb hby d6_5) rfl rfl rfl ?_
  refine o_putF (pc' := 9) (ty := (.object "com/example/ubver/ubver/verifier/IntTrie$Node")) X1 hx hZ hown (hw _ (List.mem_of_getElem? (i := 34) rfl)) Via.refl e1 F_a_root E (Or.inr ⟨(hw _ (List.mem_of_getElem? (i := 35) rfl)), rfl, hnm⟩) (hw _ (List.mem_of_getElem? (i := 29) rfl)) (by decide) rfl rfl (hb hby d6_6) rfl ?_
  intro T6 h6 e6 W6 X6
  replace N := Fr.snoc X6 N q0
  replace K := K.wr W6 (Or.inl (List.mem_cons_self ..))
  replace E := E.wr W6
  replace F_a_root := F_a_root.same W6
  exact o_ret0 X6 hx hlk hret (hb hby d6_9) ⟨rfl, N, by rw [e6]; exact K⟩ (by decide) (by decide)
abbrev Q5 (Z : State)  (h0 : Heap) (v : Option Value) (h : Heap) (L : List Loc) : Prop := ∃ r, v = some (.ref r) ∧ h0.size ≤ r ∧ r < h.size ∧ Fr h0.size L ∧ Keep h0 h []
set_option maxRecDepth 65536 in
set_option maxHeartbeats 40000000 in
theorem rm5 (l : Launch) (Z : State) (a0 : Array Value) (hw : ∀ d ∈ tables_1, d.before a0 Z = true)  (h0 : Heap)  :
    Con l Z (⟨"com/example/ubver/ubver/verifier/IntTrie", "empty", "()Lcom/example/ubver/ubver/verifier/IntTrie;"⟩ : MethodName) prog_85_method_2_code 0 (some (.object "com/example/ubver/ubver/verifier/IntTrie")) ({ frames := 2, cells := 1, slots := 1, locals := 26 } : Room) #[] h0 (Q5 Z  h0) := by
  refine Con.of pn_5 (fun p e s m below meth c T0 X0 hx hby hml hret hlk hown hnm hZ e0 => ?_)
  replace hown : s.vm.findClass "com/example/ubver/ubver/verifier/IntTrie" = some m.cls := hown
  have ef : entryFrame m #[] 0 = mkF m 0 #[] [] := by first | (simp [entryFrame, mkF, argsToLocals, Value.category]; done) | rfl
  rw [ef]
  refine o_new (pc' := 3) X0 hx hZ hown (hw _ (List.mem_of_getElem? (i := 28) rfl)) (hw _ (List.mem_of_getElem? (i := 29) rfl)) (hw _ (List.mem_of_getElem? (i := 26) rfl)) e0 (hb hby d5_0) rfl (by decide) (by decide) ?_
  intro T00 h00 a g_a e00 E00 X_a D_a X00
  have F_a_root : Fld Z h00 a "com/example/ubver/ubver/verifier/IntTrie" "root" "Lcom/example/ubver/ubver/verifier/IntTrie$Node;" .null := D_a (Or.inr (hw _ (List.mem_of_getElem? (i := 35) rfl))) (ty := (.object "com/example/ubver/ubver/verifier/IntTrie$Node")) (by decide)
  have q0 : h0.size ≤ a := Nat.le_of_eq g_a.symm
  have Z1 : h0.size ≤ h00.size := E00.1
  refine o_dup (pc' := 4) X00 hx (hb hby d5_3) rfl rfl ?_
  refine o_aconstNull (pc' := 5) X00 hx (hb hby d5_4) rfl ?_
  refine o_callC (W := 1) (pc' := 8) (rm := ({ frames := 1, cells := 0, slots := 0, locals := 12 } : Room)) (a := a) (argsL := [.null]) (rest := [(.ref a)]) X00 hx hZ rfl hown (hw _ (List.mem_of_getElem? (i := 30) rfl)) (hw _ (List.mem_of_getElem? (i := 31) rfl)) (hw _ (List.mem_of_getElem? (i := 26) rfl)) (hw _ (List.mem_of_getElem? (i := 32) rfl)) (by decide) e00 (rm6 l Z a0 hw a h0.size  h00 q0 X_a F_a_root  Z1) (by rw [hml]; rfl) pd_6 rfl rfl (hb hby d5_5) rfl (by decide) rfl (by decide) (by decide) (by decide) ?_
  rintro _ T5 L5 ⟨rfl, N, K⟩ X5
  show Ends p e below s (Q5 Z  h0) ({ frames := 2, cells := 1, slots := 1, locals := 26 } : Room).cells ({ frames := 2, cells := 1, slots := 1, locals := 26 } : Room).slots (T5.setTop (mkF m 8 #[] [(.ref a)]))
  have KK : Keep h0 T5.heap [] := ((Keep.refl h0 []).ext E00).trans K (fun x q => Or.inr (by cases List.mem_singleton.mp q; exact q0))
  have lt := (X_a.keep K).lt
  exact o_retA (t := .object "com/example/ubver/ubver/verifier/IntTrie") X5 hx rfl rfl hlk hret (hb hby d5_8) ⟨a, rfl, q0, lt, by first | exact N | simpa using N, KK⟩ (by decide) (by decide)
abbrev Q3 (Z : State) (a : Addr) (n0 : Nat) (h0 : Heap) (v : Option Value) (h : Heap) (L : List Loc) : Prop := v = none ∧ Fr n0 L ∧ Keep h0 h [a]
set_option maxRecDepth 65536 in
set_option maxHeartbeats 40000000 in
theorem rm3 (l : Launch) (Z : State) (a0 : Array Value) (hw : ∀ d ∈ tables_1, d.before a0 Z = true) (a : Addr) (n0 : Nat) (h0 : Heap) (q0 : n0 ≤ a) (E : Exa Z h0 a "com/example/ubver/ubver/verifier/ActiveSubroutines") (F_a_subroutine : Fld Z h0 a "com/example/ubver/ubver/verifier/ActiveSubroutines" "subroutine" "I" (.int (0 : Int32))) (F_a_outer : Fld Z h0 a "com/example/ubver/ubver/verifier/ActiveSubroutines" "outer" "Lcom/example/ubver/ubver/verifier/ActiveSubroutines;" .null) (F_a_depth : Fld Z h0 a "com/example/ubver/ubver/verifier/ActiveSubroutines" "depth" "I" (.int (0 : Int32))) (F_a_links : Fld Z h0 a "com/example/ubver/ubver/verifier/ActiveSubroutines" "links" "Lcom/example/ubver/ubver/verifier/IntTrie;" .null) (Z0 : n0 ≤ h0.size) :
    Con l Z (⟨"com/example/ubver/ubver/verifier/ActiveSubroutines", "<init>", "(ILcom/example/ubver/ubver/verifier/ActiveSubroutines;)V"⟩ : MethodName) prog_56_method_1_code 3 none ({ frames := 3, cells := 1, slots := 1, locals := 38 } : Room) #[(.ref a), (.int (-1 : Int32)), .null] h0 (Q3 Z a n0 h0) := by
  refine Con.of pn_3 (fun p e s m below meth c T0 X0 hx hby hml hret hlk hown hnm hZ e0 => ?_)
  replace hown : s.vm.findClass "com/example/ubver/ubver/verifier/ActiveSubroutines" = some m.cls := hown
  have ef : entryFrame m #[(.ref a), (.int (-1 : Int32)), .null] 3 = mkF m 0 #[.val (.ref a), .val (.int (-1 : Int32)), .val .null] [] := by first | (simp [entryFrame, mkF, argsToLocals, Value.category]; done) | rfl
  rw [ef]
  have N := Fr.nil n0
  have K := Keep.refl h0 [a]
  refine o_aloadN (pc' := 1) X0 hx (hb hby d3_0) rfl rfl rfl ?_
  refine o_initO (W := 0) (pc' := 4) X0 hx hZ hown (hw _ (List.mem_of_getElem? (i := 15) rfl)) (hw _ (List.mem_of_getElem? (i := 16) rfl)) (hw _ (List.mem_of_getElem? (i := 17) rfl)) e0 (by rw [hml]; rfl) (hb hby d3_1) rfl (by decide) rfl (by decide) ?_
  intro T1 e1 X1
  refine o_aloadN (pc' := 5) X1 hx (hb hby d3_4) rfl rfl rfl ?_
  refine o_iloadN (pc' := 6) X1 hx (hb hby d3_5) rfl rfl ?_
  refine o_putF (pc' := 9) (ty := .int) X1 hx hZ hown (hw _ (List.mem_of_getElem? (i := 18) rfl)) Via.refl e1 F_a_subroutine E (Or.inr ⟨(hw _ (List.mem_of_getElem? (i := 19) rfl)), rfl, hnm⟩) (hw _ (List.mem_of_getElem? (i := 11) rfl)) (by decide) rfl rfl (hb hby d3_6) rfl ?_
  intro T6 h6 e6 W6 X6
  replace N := Fr.snoc X6 N q0
  replace K := K.wr W6 (Or.inl (List.mem_cons_self ..))
  replace E := E.wr W6
  replace F_a_subroutine := F_a_subroutine.same W6
  replace F_a_outer := F_a_outer.other W6 (Or.inr (slot_ne (C := "com/example/ubver/ubver/verifier/ActiveSubroutines") (t := (.object "com/example/ubver/ubver/verifier/ActiveSubroutines")) (t' := .int) (Or.inr (hw _ (List.mem_of_getElem? (i := 21) rfl))) (Or.inr (hw _ (List.mem_of_getElem? (i := 19) rfl))) (by decide) (by decide) (by decide)))
  replace F_a_depth := F_a_depth.other W6 (Or.inr (slot_ne (C := "com/example/ubver/ubver/verifier/ActiveSubroutines") (t := .int) (t' := .int) (Or.inr (hw _ (List.mem_of_getElem? (i := 23) rfl))) (Or.inr (hw _ (List.mem_of_getElem? (i := 19) rfl))) (by decide) (by decide) (by decide)))
  replace F_a_links := F_a_links.other W6 (Or.inr (slot_ne (C := "com/example/ubver/ubver/verifier/ActiveSubroutines") (t := (.object "com/example/ubver/ubver/verifier/IntTrie")) (t' := .int) (Or.inr (hw _ (List.mem_of_getElem? (i := 37) rfl))) (Or.inr (hw _ (List.mem_of_getElem? (i := 19) rfl))) (by decide) (by decide) (by decide)))
  refine o_aloadN (pc' := 10) X6 hx (hb hby d3_9) rfl rfl rfl ?_
  refine o_aloadN (pc' := 11) X6 hx (hb hby d3_10) rfl rfl rfl ?_
  refine o_putF (pc' := 14) (ty := (.object "com/example/ubver/ubver/verifier/ActiveSubroutines")) X6 hx hZ hown (hw _ (List.mem_of_getElem? (i := 20) rfl)) Via.refl e6 F_a_outer E (Or.inr ⟨(hw _ (List.mem_of_getElem? (i := 21) rfl)), rfl, hnm⟩) (hw _ (List.mem_of_getElem? (i := 11) rfl)) (by decide) rfl rfl (hb hby d3_11) rfl ?_
  intro T11 h11 e11 W11 X11
  replace N := Fr.snoc X11 N q0
  replace K := K.wr W11 (Or.inl (List.mem_cons_self ..))
  replace E := E.wr W11
  replace F_a_subroutine := F_a_subroutine.other W11 (Or.inr (slot_ne (C := "com/example/ubver/ubver/verifier/ActiveSubroutines") (t := .int) (t' := (.object "com/example/ubver/ubver/verifier/ActiveSubroutines")) (Or.inr (hw _ (List.mem_of_getElem? (i := 19) rfl))) (Or.inr (hw _ (List.mem_of_getElem? (i := 21) rfl))) (by decide) (by decide) (by decide)))
  replace F_a_outer := F_a_outer.same W11
  replace F_a_depth := F_a_depth.other W11 (Or.inr (slot_ne (C := "com/example/ubver/ubver/verifier/ActiveSubroutines") (t := .int) (t' := (.object "com/example/ubver/ubver/verifier/ActiveSubroutines")) (Or.inr (hw _ (List.mem_of_getElem? (i := 23) rfl))) (Or.inr (hw _ (List.mem_of_getElem? (i := 21) rfl))) (by decide) (by decide) (by decide)))
  replace F_a_links := F_a_links.other W11 (Or.inr (slot_ne (C := "com/example/ubver/ubver/verifier/ActiveSubroutines") (t := (.object "com/example/ubver/ubver/verifier/IntTrie")) (t' := (.object "com/example/ubver/ubver/verifier/ActiveSubroutines")) (Or.inr (hw _ (List.mem_of_getElem? (i := 37) rfl))) (Or.inr (hw _ (List.mem_of_getElem? (i := 21) rfl))) (by decide) (by decide) (by decide)))
  refine o_aloadN (pc' := 15) X11 hx (hb hby d3_14) rfl rfl rfl ?_
  refine o_aloadN (pc' := 16) X11 hx (hb hby d3_15) rfl rfl rfl ?_
  refine o_ifnonnullNo (pc' := 19) X11 hx (hb hby d3_16) rfl ?_
  refine o_iconst (v := (0 : Int32)) (pc' := 20) X11 hx (hb hby d3_19) (by decide) rfl ?_
  refine o_goto (pc' := 29) X11 hx (hb hby d3_20) (by decide) (by decide) ?_
  refine o_putF (pc' := 32) (ty := .int) X11 hx hZ hown (hw _ (List.mem_of_getElem? (i := 22) rfl)) Via.refl e11 F_a_depth E (Or.inr ⟨(hw _ (List.mem_of_getElem? (i := 23) rfl)), rfl, hnm⟩) (hw _ (List.mem_of_getElem? (i := 11) rfl)) (by decide) rfl rfl (hb hby d3_29) rfl ?_
  intro T29 h29 e29 W29 X29
  replace N := Fr.snoc X29 N q0
  replace K := K.wr W29 (Or.inl (List.mem_cons_self ..))
  replace E := E.wr W29
  replace F_a_subroutine := F_a_subroutine.other W29 (Or.inr (slot_ne (C := "com/example/ubver/ubver/verifier/ActiveSubroutines") (t := .int) (t' := .int) (Or.inr (hw _ (List.mem_of_getElem? (i := 19) rfl))) (Or.inr (hw _ (List.mem_of_getElem? (i := 23) rfl))) (by decide) (by decide) (by decide)))
  replace F_a_outer := F_a_outer.other W29 (Or.inr (slot_ne (C := "com/example/ubver/ubver/verifier/ActiveSubroutines") (t := (.object "com/example/ubver/ubver/verifier/ActiveSubroutines")) (t' := .int) (Or.inr (hw _ (List.mem_of_getElem? (i := 21) rfl))) (Or.inr (hw _ (List.mem_of_getElem? (i := 23) rfl))) (by decide) (by decide) (by decide)))
  replace F_a_depth := F_a_depth.same W29
  replace F_a_links := F_a_links.other W29 (Or.inr (slot_ne (C := "com/example/ubver/ubver/verifier/ActiveSubroutines") (t := (.object "com/example/ubver/ubver/verifier/IntTrie")) (t' := .int) (Or.inr (hw _ (List.mem_of_getElem? (i := 37) rfl))) (Or.inr (hw _ (List.mem_of_getElem? (i := 23) rfl))) (by decide) (by decide) (by decide)))
  refine o_aloadN (pc' := 33) X29 hx (hb hby d3_32) rfl rfl rfl ?_
  refine o_aloadN (pc' := 34) X29 hx (hb hby d3_33) rfl rfl rfl ?_
  refine o_ifnonnullNo (pc' := 37) X29 hx (hb hby d3_34) rfl ?_
  refine o_callS (W := 1) (pc' := 40) (rm := ({ frames := 2, cells := 1, slots := 1, locals := 26 } : Room)) (argsL := []) (rest := [(.ref a)]) X29 hx hZ hown (hw _ (List.mem_of_getElem? (i := 24) rfl)) (hw _ (List.mem_of_getElem? (i := 25) rfl)) (hw _ (List.mem_of_getElem? (i := 26) rfl)) (hw _ (List.mem_of_getElem? (i := 27) rfl)) (by decide) e29 (rm5 l Z a0 hw h29) (by rw [hml]; rfl) pd_5 rfl rfl (hb hby d3_37) rfl (by decide) rfl (by decide) (by decide) (by decide) ?_
  rintro _ T37 L37 ⟨r, rfl, gr, lr, Nr, Kr⟩ X37
  show Ends p e below s (Q3 Z a n0 h0) ({ frames := 3, cells := 1, slots := 1, locals := 38 } : Room).cells ({ frames := 3, cells := 1, slots := 1, locals := 38 } : Room).slots (T37.setTop (mkF m 40 #[.val (.ref a), .val (.int (-1 : Int32)), .val .null] [(.ref r), (.ref a)]))
  replace K := K.trans Kr (fun x q => nomatch q)
  have Zn : n0 ≤ h29.size := Nat.le_trans Z0 (by have q1 := W6.size; have q2 := W11.size; have q3 := W29.size; omega)
  replace N := N.app (fun y hy => Nat.le_trans Zn (Nr y hy))
  replace E := E.keep Kr
  replace F_a_subroutine := F_a_subroutine.keep Kr nin0
  replace F_a_outer := F_a_outer.keep Kr nin0
  replace F_a_depth := F_a_depth.keep Kr nin0
  replace F_a_links := F_a_links.keep Kr nin0
  refine o_goto (pc' := 52) X37 hx (hb hby d3_40) (by decide) (by decide) ?_
  refine o_putF (pc' := 55) (ty := (.object "com/example/ubver/ubver/verifier/IntTrie")) X37 hx hZ hown (hw _ (List.mem_of_getElem? (i := 36) rfl)) Via.refl rfl F_a_links E (Or.inr ⟨(hw _ (List.mem_of_getElem? (i := 37) rfl)), rfl, hnm⟩) (hw _ (List.mem_of_getElem? (i := 11) rfl)) (by decide) rfl rfl (hb hby d3_52) rfl ?_
  intro T52 h52 e52 W52 X52
  replace N := Fr.snoc X52 N q0
  replace K := K.wr W52 (Or.inl (List.mem_cons_self ..))
  replace E := E.wr W52
  replace F_a_subroutine := F_a_subroutine.other W52 (Or.inr (slot_ne (C := "com/example/ubver/ubver/verifier/ActiveSubroutines") (t := .int) (t' := (.object "com/example/ubver/ubver/verifier/IntTrie")) (Or.inr (hw _ (List.mem_of_getElem? (i := 19) rfl))) (Or.inr (hw _ (List.mem_of_getElem? (i := 37) rfl))) (by decide) (by decide) (by decide)))
  replace F_a_outer := F_a_outer.other W52 (Or.inr (slot_ne (C := "com/example/ubver/ubver/verifier/ActiveSubroutines") (t := (.object "com/example/ubver/ubver/verifier/ActiveSubroutines")) (t' := (.object "com/example/ubver/ubver/verifier/IntTrie")) (Or.inr (hw _ (List.mem_of_getElem? (i := 21) rfl))) (Or.inr (hw _ (List.mem_of_getElem? (i := 37) rfl))) (by decide) (by decide) (by decide)))
  replace F_a_depth := F_a_depth.other W52 (Or.inr (slot_ne (C := "com/example/ubver/ubver/verifier/ActiveSubroutines") (t := .int) (t' := (.object "com/example/ubver/ubver/verifier/IntTrie")) (Or.inr (hw _ (List.mem_of_getElem? (i := 23) rfl))) (Or.inr (hw _ (List.mem_of_getElem? (i := 37) rfl))) (by decide) (by decide) (by decide)))
  replace F_a_links := F_a_links.same W52
  exact o_ret0 X52 hx hlk hret (hb hby d3_55) ⟨rfl, by first | exact N | simpa using N, by rw [e52]; exact K⟩ (by decide) (by decide)
abbrev Q2 (Z : State)  (h0 : Heap) (v : Option Value) (h : Heap) (L : List Loc) : Prop := ∃ r, v = some (.ref r) ∧ h0.size ≤ r ∧ r < h.size ∧ Fr h0.size L ∧ Keep h0 h []
set_option maxRecDepth 65536 in
set_option maxHeartbeats 40000000 in
theorem rm2 (l : Launch) (Z : State) (a0 : Array Value) (hw : ∀ d ∈ tables_1, d.before a0 Z = true)  (h0 : Heap)  :
    Con l Z (⟨"com/example/ubver/ubver/verifier/ActiveSubroutines", "none", "()Lcom/example/ubver/ubver/verifier/ActiveSubroutines;"⟩ : MethodName) prog_56_method_2_code 0 (some (.object "com/example/ubver/ubver/verifier/ActiveSubroutines")) ({ frames := 4, cells := 2, slots := 7, locals := 53 } : Room) #[] h0 (Q2 Z  h0) := by
  refine Con.of pn_2 (fun p e s m below meth c T0 X0 hx hby hml hret hlk hown hnm hZ e0 => ?_)
  replace hown : s.vm.findClass "com/example/ubver/ubver/verifier/ActiveSubroutines" = some m.cls := hown
  have ef : entryFrame m #[] 0 = mkF m 0 #[] [] := by first | (simp [entryFrame, mkF, argsToLocals, Value.category]; done) | rfl
  rw [ef]
  refine o_new (pc' := 3) X0 hx hZ hown (hw _ (List.mem_of_getElem? (i := 10) rfl)) (hw _ (List.mem_of_getElem? (i := 11) rfl)) (hw _ (List.mem_of_getElem? (i := 8) rfl)) e0 (hb hby d2_0) rfl (by decide) (by decide) ?_
  intro T00 h00 a g_a e00 E00 X_a D_a X00
  have F_a_subroutine : Fld Z h00 a "com/example/ubver/ubver/verifier/ActiveSubroutines" "subroutine" "I" (.int (0 : Int32)) := D_a (Or.inr (hw _ (List.mem_of_getElem? (i := 19) rfl))) (ty := .int) (by decide)
  have F_a_outer : Fld Z h00 a "com/example/ubver/ubver/verifier/ActiveSubroutines" "outer" "Lcom/example/ubver/ubver/verifier/ActiveSubroutines;" .null := D_a (Or.inr (hw _ (List.mem_of_getElem? (i := 21) rfl))) (ty := (.object "com/example/ubver/ubver/verifier/ActiveSubroutines")) (by decide)
  have F_a_depth : Fld Z h00 a "com/example/ubver/ubver/verifier/ActiveSubroutines" "depth" "I" (.int (0 : Int32)) := D_a (Or.inr (hw _ (List.mem_of_getElem? (i := 23) rfl))) (ty := .int) (by decide)
  have F_a_links : Fld Z h00 a "com/example/ubver/ubver/verifier/ActiveSubroutines" "links" "Lcom/example/ubver/ubver/verifier/IntTrie;" .null := D_a (Or.inr (hw _ (List.mem_of_getElem? (i := 37) rfl))) (ty := (.object "com/example/ubver/ubver/verifier/IntTrie")) (by decide)
  have q0 : h0.size ≤ a := Nat.le_of_eq g_a.symm
  have Z1 : h0.size ≤ h00.size := E00.1
  refine o_dup (pc' := 4) X00 hx (hb hby d2_3) rfl rfl ?_
  refine o_iconst (v := (-1 : Int32)) (pc' := 5) X00 hx (hb hby d2_4) (by decide) rfl ?_
  refine o_aconstNull (pc' := 6) X00 hx (hb hby d2_5) rfl ?_
  refine o_callC (W := 1) (pc' := 9) (rm := ({ frames := 3, cells := 1, slots := 1, locals := 38 } : Room)) (a := a) (argsL := [(.int (-1 : Int32)), .null]) (rest := [(.ref a)]) X00 hx hZ rfl hown (hw _ (List.mem_of_getElem? (i := 12) rfl)) (hw _ (List.mem_of_getElem? (i := 13) rfl)) (hw _ (List.mem_of_getElem? (i := 8) rfl)) (hw _ (List.mem_of_getElem? (i := 14) rfl)) (by decide) e00 (rm3 l Z a0 hw a h0.size  h00 q0 X_a F_a_subroutine F_a_outer F_a_depth F_a_links  Z1) (by rw [hml]; rfl) pd_3 rfl rfl (hb hby d2_6) rfl (by decide) rfl (by decide) (by decide) (by decide) ?_
  rintro _ T6 L6 ⟨rfl, N, K⟩ X6
  show Ends p e below s (Q2 Z  h0) ({ frames := 4, cells := 2, slots := 7, locals := 53 } : Room).cells ({ frames := 4, cells := 2, slots := 7, locals := 53 } : Room).slots (T6.setTop (mkF m 9 #[] [(.ref a)]))
  have KK : Keep h0 T6.heap [] := ((Keep.refl h0 []).ext E00).trans K (fun x q => Or.inr (by cases List.mem_singleton.mp q; exact q0))
  have lt := (X_a.keep K).lt
  exact o_retA (t := .object "com/example/ubver/ubver/verifier/ActiveSubroutines") X6 hx rfl rfl hlk hret (hb hby d2_9) ⟨a, rfl, q0, lt, by first | exact N | simpa using N, KK⟩ (by decide) (by decide)
abbrev Q9 (Z : State) (b top : Addr) (cc : Cell) (ty : FieldType) (h0 : Heap) (v : Option Value) (h : Heap) (L : List Loc) : Prop := v = none ∧ L = [] ∧ h = h0
set_option maxRecDepth 65536 in
set_option maxHeartbeats 40000000 in
theorem rm9 (l : Launch) (Z : State) (a0 : Array Value) (hw : ∀ d ∈ tables_1, d.before a0 Z = true) (b top : Addr) (cc : Cell) (ty : FieldType) (h0 : Heap) (A : Arr Z h0 b cc ty) (hz : cc.slots.size = 0) :
    Con l Z (⟨"java/util/Arrays", "fill", "([Ljava/lang/Object;Ljava/lang/Object;)V"⟩ : MethodName) jdk_65_method_117_code 4 none ({ frames := 0, cells := 0, slots := 0, locals := 0 } : Room) #[(.ref b), (.ref top)] h0 (Q9 Z b top cc ty h0) := by
  refine Con.of pn_9 (fun p e s m below meth c T0 X0 hx hby hml hret hlk hown hnm hZ e0 => ?_)
  replace hown : s.vm.findClass "java/util/Arrays" = some m.cls := hown
  have ef : entryFrame m #[(.ref b), (.ref top)] 4 = mkF m 0 #[.val (.ref b), .val (.ref top), .unset, .unset] [] := by first | (simp [entryFrame, mkF, argsToLocals, Value.category]; done) | rfl
  rw [ef]
  refine o_iconst (v := (0 : Int32)) (pc' := 1) X0 hx (hb hby d9_0) (by decide) rfl ?_
  refine o_istoreN (Ls' := #[.val (.ref b), .val (.ref top), .val (.int (0 : Int32)), .unset]) (pc' := 2) X0 hx (hb hby d9_1) rfl rfl ?_
  refine o_aloadN (pc' := 3) X0 hx (hb hby d9_2) rfl rfl rfl ?_
  refine o_len (pc' := 4) (n := (0 : Int32)) X0 hx hZ e0 A (by rw [hz]; decide) (hb hby d9_3) rfl ?_
  refine o_istoreN (Ls' := #[.val (.ref b), .val (.ref top), .val (.int (0 : Int32)), .val (.int (0 : Int32))]) (pc' := 5) X0 hx (hb hby d9_4) rfl rfl ?_
  refine o_iloadN (pc' := 6) X0 hx (hb hby d9_5) rfl rfl ?_
  refine o_iloadN (pc' := 7) X0 hx (hb hby d9_6) rfl rfl ?_
  refine o_icmp_ge (p1 := 10) (p2 := 20) X0 hx (hb hby d9_7) rfl (by decide) (by decide) (fun hc7 => ?_) (fun hc7 => absurd hc7 (by decide))
  exact o_ret0 X0 hx hlk hret (hb hby d9_20) ⟨rfl, rfl, e0⟩ (by decide) (by decide)
abbrev Q8 (Z : State) (a : Addr) (n0 : Nat)(top : Addr) (h0 : Heap) (v : Option Value) (h : Heap) (L : List Loc) : Prop := v = none ∧ Fr n0 L ∧ Keep h0 h [a] ∧ Fld Z h a "com/example/ubver/ubver/verifier/TypeState" "thisUninitialized" "Z" (.int (0 : Int32)) ∧ Fld Z h a "com/example/ubver/ubver/verifier/InferredState" "initializationHandler" "I" (.int (0 : Int32)) ∧ Fld Z h a "com/example/ubver/ubver/verifier/InferredState" "namedAt" "I" (.int (0 : Int32)) ∧ Fld Z h a "com/example/ubver/ubver/verifier/InferredState" "active" "Lcom/example/ubver/ubver/verifier/ActiveSubroutines;" .null
set_option maxRecDepth 65536 in
set_option maxHeartbeats 40000000 in
theorem rm8 (l : Launch) (Z : State) (a0 : Array Value) (hw : ∀ d ∈ tables_1, d.before a0 Z = true) (a : Addr) (n0 : Nat)(top : Addr) (h0 : Heap) (q0 : n0 ≤ a) (E : Exa Z h0 a "com/example/ubver/ubver/verifier/InferredState") (F_a_logged : Fld Z h0 a "com/example/ubver/ubver/verifier/TypeState" "logged" "[I" .null) (F_a_places : Fld Z h0 a "com/example/ubver/ubver/verifier/TypeState" "places" "[I" .null) (F_a_locals : Fld Z h0 a "com/example/ubver/ubver/verifier/TypeState" "locals" "[Lcom/example/ubver/ubver/verifier/VerificationType;" .null) (F_a_stack : Fld Z h0 a "com/example/ubver/ubver/verifier/TypeState" "stack" "[Lcom/example/ubver/ubver/verifier/VerificationType;" .null) (F_a_thisUninitialized : Fld Z h0 a "com/example/ubver/ubver/verifier/TypeState" "thisUninitialized" "Z" (.int (0 : Int32))) (F_a_initializationHandler : Fld Z h0 a "com/example/ubver/ubver/verifier/InferredState" "initializationHandler" "I" (.int (0 : Int32))) (F_a_namedAt : Fld Z h0 a "com/example/ubver/ubver/verifier/InferredState" "namedAt" "I" (.int (0 : Int32))) (F_a_active : Fld Z h0 a "com/example/ubver/ubver/verifier/InferredState" "active" "Lcom/example/ubver/ubver/verifier/ActiveSubroutines;" .null) (TP : Sta Z h0 "com/example/ubver/ubver/verifier/VerificationType$Simple" "TOP" "Lcom/example/ubver/ubver/verifier/VerificationType$Simple;" (.ref top)) (Z0 : n0 ≤ h0.size) :
    Con l Z (⟨"com/example/ubver/ubver/verifier/TypeState", "<init>", "([III)V"⟩ : MethodName) prog_124_method_2_code 4 none ({ frames := 1, cells := 3, slots := 16, locals := 15 } : Room) #[(.ref a), .null, (.int (0 : Int32)), (.int (0 : Int32))] h0 (Q8 Z a n0 top h0) := by
  refine Con.of pn_8 (fun p e s m below meth c T0 X0 hx hby hml hret hlk hown hnm hZ e0 => ?_)
  replace hown : s.vm.findClass "com/example/ubver/ubver/verifier/TypeState" = some m.cls := hown
  have ef : entryFrame m #[(.ref a), .null, (.int (0 : Int32)), (.int (0 : Int32))] 4 = mkF m 0 #[.val (.ref a), .val .null, .val (.int (0 : Int32)), .val (.int (0 : Int32))] [] := by first | (simp [entryFrame, mkF, argsToLocals, Value.category]; done) | rfl
  rw [ef]
  have N := Fr.nil n0
  have K := Keep.refl h0 [a]
  refine o_aloadN (pc' := 1) X0 hx (hb hby d8_0) rfl rfl rfl ?_
  refine o_initO (W := 0) (pc' := 4) X0 hx hZ hown (hw _ (List.mem_of_getElem? (i := 46) rfl)) (hw _ (List.mem_of_getElem? (i := 16) rfl)) (hw _ (List.mem_of_getElem? (i := 17) rfl)) e0 (by rw [hml]; rfl) (hb hby d8_1) rfl (by decide) rfl (by decide) ?_
  intro T1 e1 X1
  refine o_aloadN (pc' := 5) X1 hx (hb hby d8_4) rfl rfl rfl ?_
  refine o_bipush (v := (16 : Int32)) (pc' := 7) X1 hx (hb hby d8_5) (by decide) rfl ?_
  refine o_newarr (pc' := 9) (cap := 16) X1 hx hZ (hw _ (List.mem_of_getElem? (i := 47) rfl)) e1 (hb hby d8_7) rfl (by decide) (by decide) (by decide) (by decide) (by decide) ?_
  intro T7 h7 cA7 b1 gb1 e7 E7 Ab1 X7
  have n_a_b1 : a ≠ b1 := by rw [gb1]; exact Nat.ne_of_lt E.lt
  replace E := E.ext E7
  replace F_a_logged := F_a_logged.ext E7
  replace F_a_places := F_a_places.ext E7
  replace F_a_locals := F_a_locals.ext E7
  replace F_a_stack := F_a_stack.ext E7
  replace F_a_thisUninitialized := F_a_thisUninitialized.ext E7
  replace F_a_initializationHandler := F_a_initializationHandler.ext E7
  replace F_a_namedAt := F_a_namedAt.ext E7
  replace F_a_active := F_a_active.ext E7
  replace TP := TP.ext E7
  replace K := K.ext E7
  refine o_putF (pc' := 12) (ty := (.array .int)) X7 hx hZ hown (hw _ (List.mem_of_getElem? (i := 48) rfl)) Via.refl e7 F_a_logged E (Or.inl (hw _ (List.mem_of_getElem? (i := 49) rfl))) (hw _ (List.mem_of_getElem? (i := 1) rfl)) (by decide) rfl rfl (hb hby d8_9) rfl ?_
  intro T9 h9 e9 W9 X9
  replace N := Fr.snoc X9 N q0
  replace K := K.wr W9 (Or.inl (List.mem_cons_self ..))
  replace E := E.wr W9
  replace F_a_logged := F_a_logged.same W9
  replace F_a_places := F_a_places.other W9 (Or.inr (slot_ne (C := "com/example/ubver/ubver/verifier/InferredState") (t := (.array .int)) (t' := (.array .int)) (Or.inr (hw _ (List.mem_of_getElem? (i := 51) rfl))) (Or.inl (hw _ (List.mem_of_getElem? (i := 49) rfl))) (by decide) (by decide) (by decide)))
  replace F_a_locals := F_a_locals.other W9 (Or.inr (slot_ne (C := "com/example/ubver/ubver/verifier/InferredState") (t := (.array (.object "com/example/ubver/ubver/verifier/VerificationType"))) (t' := (.array .int)) (Or.inr (hw _ (List.mem_of_getElem? (i := 55) rfl))) (Or.inl (hw _ (List.mem_of_getElem? (i := 49) rfl))) (by decide) (by decide) (by decide)))
  replace F_a_stack := F_a_stack.other W9 (Or.inr (slot_ne (C := "com/example/ubver/ubver/verifier/InferredState") (t := (.array (.object "com/example/ubver/ubver/verifier/VerificationType"))) (t' := (.array .int)) (Or.inr (hw _ (List.mem_of_getElem? (i := 57) rfl))) (Or.inl (hw _ (List.mem_of_getElem? (i := 49) rfl))) (by decide) (by decide) (by decide)))
  replace F_a_thisUninitialized := F_a_thisUninitialized.other W9 (Or.inr (slot_ne (C := "com/example/ubver/ubver/verifier/InferredState") (t := .boolean) (t' := (.array .int)) (Or.inl (hw _ (List.mem_of_getElem? (i := 73) rfl))) (Or.inl (hw _ (List.mem_of_getElem? (i := 49) rfl))) (by decide) (by decide) (by decide)))
  replace F_a_initializationHandler := F_a_initializationHandler.other W9 (Or.inr (slot_ne (C := "com/example/ubver/ubver/verifier/InferredState") (t := .int) (t' := (.array .int)) (Or.inl (hw _ (List.mem_of_getElem? (i := 66) rfl))) (Or.inl (hw _ (List.mem_of_getElem? (i := 49) rfl))) (by decide) (by decide) (by decide)))
  replace F_a_namedAt := F_a_namedAt.other W9 (Or.inr (slot_ne (C := "com/example/ubver/ubver/verifier/InferredState") (t := .int) (t' := (.array .int)) (Or.inl (hw _ (List.mem_of_getElem? (i := 68) rfl))) (Or.inl (hw _ (List.mem_of_getElem? (i := 49) rfl))) (by decide) (by decide) (by decide)))
  replace F_a_active := F_a_active.other W9 (Or.inr (slot_ne (C := "com/example/ubver/ubver/verifier/InferredState") (t := (.object "com/example/ubver/ubver/verifier/ActiveSubroutines")) (t' := (.array .int)) (Or.inl (hw _ (List.mem_of_getElem? (i := 70) rfl))) (Or.inl (hw _ (List.mem_of_getElem? (i := 49) rfl))) (by decide) (by decide) (by decide)))
  replace TP := TP.wr W9
  refine o_aloadN (pc' := 13) X9 hx (hb hby d8_12) rfl rfl rfl ?_
  refine o_aloadN (pc' := 14) X9 hx (hb hby d8_13) rfl rfl rfl ?_
  refine o_putF (pc' := 17) (ty := (.array .int)) X9 hx hZ hown (hw _ (List.mem_of_getElem? (i := 50) rfl)) Via.refl e9 F_a_places E (Or.inr ⟨(hw _ (List.mem_of_getElem? (i := 51) rfl)), rfl, hnm⟩) (hw _ (List.mem_of_getElem? (i := 1) rfl)) (by decide) rfl rfl (hb hby d8_14) rfl ?_
  intro T14 h14 e14 W14 X14
  replace N := Fr.snoc X14 N q0
  replace K := K.wr W14 (Or.inl (List.mem_cons_self ..))
  replace E := E.wr W14
  replace F_a_logged := F_a_logged.other W14 (Or.inr (slot_ne (C := "com/example/ubver/ubver/verifier/InferredState") (t := (.array .int)) (t' := (.array .int)) (Or.inl (hw _ (List.mem_of_getElem? (i := 49) rfl))) (Or.inr (hw _ (List.mem_of_getElem? (i := 51) rfl))) (by decide) (by decide) (by decide)))
  replace F_a_places := F_a_places.same W14
  replace F_a_locals := F_a_locals.other W14 (Or.inr (slot_ne (C := "com/example/ubver/ubver/verifier/InferredState") (t := (.array (.object "com/example/ubver/ubver/verifier/VerificationType"))) (t' := (.array .int)) (Or.inr (hw _ (List.mem_of_getElem? (i := 55) rfl))) (Or.inr (hw _ (List.mem_of_getElem? (i := 51) rfl))) (by decide) (by decide) (by decide)))
  replace F_a_stack := F_a_stack.other W14 (Or.inr (slot_ne (C := "com/example/ubver/ubver/verifier/InferredState") (t := (.array (.object "com/example/ubver/ubver/verifier/VerificationType"))) (t' := (.array .int)) (Or.inr (hw _ (List.mem_of_getElem? (i := 57) rfl))) (Or.inr (hw _ (List.mem_of_getElem? (i := 51) rfl))) (by decide) (by decide) (by decide)))
  replace F_a_thisUninitialized := F_a_thisUninitialized.other W14 (Or.inr (slot_ne (C := "com/example/ubver/ubver/verifier/InferredState") (t := .boolean) (t' := (.array .int)) (Or.inl (hw _ (List.mem_of_getElem? (i := 73) rfl))) (Or.inr (hw _ (List.mem_of_getElem? (i := 51) rfl))) (by decide) (by decide) (by decide)))
  replace F_a_initializationHandler := F_a_initializationHandler.other W14 (Or.inr (slot_ne (C := "com/example/ubver/ubver/verifier/InferredState") (t := .int) (t' := (.array .int)) (Or.inl (hw _ (List.mem_of_getElem? (i := 66) rfl))) (Or.inr (hw _ (List.mem_of_getElem? (i := 51) rfl))) (by decide) (by decide) (by decide)))
  replace F_a_namedAt := F_a_namedAt.other W14 (Or.inr (slot_ne (C := "com/example/ubver/ubver/verifier/InferredState") (t := .int) (t' := (.array .int)) (Or.inl (hw _ (List.mem_of_getElem? (i := 68) rfl))) (Or.inr (hw _ (List.mem_of_getElem? (i := 51) rfl))) (by decide) (by decide) (by decide)))
  replace F_a_active := F_a_active.other W14 (Or.inr (slot_ne (C := "com/example/ubver/ubver/verifier/InferredState") (t := (.object "com/example/ubver/ubver/verifier/ActiveSubroutines")) (t' := (.array .int)) (Or.inl (hw _ (List.mem_of_getElem? (i := 70) rfl))) (Or.inr (hw _ (List.mem_of_getElem? (i := 51) rfl))) (by decide) (by decide) (by decide)))
  replace TP := TP.wr W14
  refine o_aloadN (pc' := 18) X14 hx (hb hby d8_17) rfl rfl rfl ?_
  refine o_iloadN (pc' := 19) X14 hx (hb hby d8_18) rfl rfl ?_
  refine o_anewarr (pc' := 22) (cap := 0) X14 hx hZ hown (hw _ (List.mem_of_getElem? (i := 52) rfl)) (hw _ (List.mem_of_getElem? (i := 53) rfl)) e14 (hb hby d8_19) rfl (by decide) (by decide) (by decide) (by decide) (by decide) ?_
  intro T19 h19 cA19 b2 gb2 e19 E19 Ab2 Ob2 X19
  have n_a_b2 : a ≠ b2 := by rw [gb2]; exact Nat.ne_of_lt E.lt
  replace E := E.ext E19
  replace F_a_logged := F_a_logged.ext E19
  replace F_a_places := F_a_places.ext E19
  replace F_a_locals := F_a_locals.ext E19
  replace F_a_stack := F_a_stack.ext E19
  replace F_a_thisUninitialized := F_a_thisUninitialized.ext E19
  replace F_a_initializationHandler := F_a_initializationHandler.ext E19
  replace F_a_namedAt := F_a_namedAt.ext E19
  replace F_a_active := F_a_active.ext E19
  replace TP := TP.ext E19
  replace K := K.ext E19
  refine o_putF (pc' := 25) (ty := (.array (.object "com/example/ubver/ubver/verifier/VerificationType"))) X19 hx hZ hown (hw _ (List.mem_of_getElem? (i := 54) rfl)) Via.refl e19 F_a_locals E (Or.inr ⟨(hw _ (List.mem_of_getElem? (i := 55) rfl)), rfl, hnm⟩) (hw _ (List.mem_of_getElem? (i := 1) rfl)) (by decide) rfl rfl (hb hby d8_22) rfl ?_
  intro T22 h22 e22 W22 X22
  replace N := Fr.snoc X22 N q0
  replace K := K.wr W22 (Or.inl (List.mem_cons_self ..))
  replace E := E.wr W22
  replace F_a_logged := F_a_logged.other W22 (Or.inr (slot_ne (C := "com/example/ubver/ubver/verifier/InferredState") (t := (.array .int)) (t' := (.array (.object "com/example/ubver/ubver/verifier/VerificationType"))) (Or.inl (hw _ (List.mem_of_getElem? (i := 49) rfl))) (Or.inr (hw _ (List.mem_of_getElem? (i := 55) rfl))) (by decide) (by decide) (by decide)))
  replace F_a_places := F_a_places.other W22 (Or.inr (slot_ne (C := "com/example/ubver/ubver/verifier/InferredState") (t := (.array .int)) (t' := (.array (.object "com/example/ubver/ubver/verifier/VerificationType"))) (Or.inr (hw _ (List.mem_of_getElem? (i := 51) rfl))) (Or.inr (hw _ (List.mem_of_getElem? (i := 55) rfl))) (by decide) (by decide) (by decide)))
  replace F_a_locals := F_a_locals.same W22
  replace F_a_stack := F_a_stack.other W22 (Or.inr (slot_ne (C := "com/example/ubver/ubver/verifier/InferredState") (t := (.array (.object "com/example/ubver/ubver/verifier/VerificationType"))) (t' := (.array (.object "com/example/ubver/ubver/verifier/VerificationType"))) (Or.inr (hw _ (List.mem_of_getElem? (i := 57) rfl))) (Or.inr (hw _ (List.mem_of_getElem? (i := 55) rfl))) (by decide) (by decide) (by decide)))
  replace F_a_thisUninitialized := F_a_thisUninitialized.other W22 (Or.inr (slot_ne (C := "com/example/ubver/ubver/verifier/InferredState") (t := .boolean) (t' := (.array (.object "com/example/ubver/ubver/verifier/VerificationType"))) (Or.inl (hw _ (List.mem_of_getElem? (i := 73) rfl))) (Or.inr (hw _ (List.mem_of_getElem? (i := 55) rfl))) (by decide) (by decide) (by decide)))
  replace F_a_initializationHandler := F_a_initializationHandler.other W22 (Or.inr (slot_ne (C := "com/example/ubver/ubver/verifier/InferredState") (t := .int) (t' := (.array (.object "com/example/ubver/ubver/verifier/VerificationType"))) (Or.inl (hw _ (List.mem_of_getElem? (i := 66) rfl))) (Or.inr (hw _ (List.mem_of_getElem? (i := 55) rfl))) (by decide) (by decide) (by decide)))
  replace F_a_namedAt := F_a_namedAt.other W22 (Or.inr (slot_ne (C := "com/example/ubver/ubver/verifier/InferredState") (t := .int) (t' := (.array (.object "com/example/ubver/ubver/verifier/VerificationType"))) (Or.inl (hw _ (List.mem_of_getElem? (i := 68) rfl))) (Or.inr (hw _ (List.mem_of_getElem? (i := 55) rfl))) (by decide) (by decide) (by decide)))
  replace F_a_active := F_a_active.other W22 (Or.inr (slot_ne (C := "com/example/ubver/ubver/verifier/InferredState") (t := (.object "com/example/ubver/ubver/verifier/ActiveSubroutines")) (t' := (.array (.object "com/example/ubver/ubver/verifier/VerificationType"))) (Or.inl (hw _ (List.mem_of_getElem? (i := 70) rfl))) (Or.inr (hw _ (List.mem_of_getElem? (i := 55) rfl))) (by decide) (by decide) (by decide)))
  replace TP := TP.wr W22
  replace Ab2 := Ab2.other W22 (Ne.symm n_a_b2)
  refine o_aloadN (pc' := 26) X22 hx (hb hby d8_25) rfl rfl rfl ?_
  refine o_iloadN (pc' := 27) X22 hx (hb hby d8_26) rfl rfl ?_
  refine o_anewarr (pc' := 30) (cap := 0) X22 hx hZ hown (hw _ (List.mem_of_getElem? (i := 52) rfl)) (hw _ (List.mem_of_getElem? (i := 53) rfl)) e22 (hb hby d8_27) rfl (by decide) (by decide) (by decide) (by decide) (by decide) ?_
  intro T27 h27 cA27 b3 gb3 e27 E27 Ab3 Ob3 X27
  have n_a_b3 : a ≠ b3 := by rw [gb3]; exact Nat.ne_of_lt E.lt
  have n_b2_b3 : b2 ≠ b3 := by rw [gb3]; exact Nat.ne_of_lt Ab2.lt
  replace E := E.ext E27
  replace F_a_logged := F_a_logged.ext E27
  replace F_a_places := F_a_places.ext E27
  replace F_a_locals := F_a_locals.ext E27
  replace F_a_stack := F_a_stack.ext E27
  replace F_a_thisUninitialized := F_a_thisUninitialized.ext E27
  replace F_a_initializationHandler := F_a_initializationHandler.ext E27
  replace F_a_namedAt := F_a_namedAt.ext E27
  replace F_a_active := F_a_active.ext E27
  replace TP := TP.ext E27
  replace Ab2 := Ab2.ext E27
  replace K := K.ext E27
  refine o_putF (pc' := 33) (ty := (.array (.object "com/example/ubver/ubver/verifier/VerificationType"))) X27 hx hZ hown (hw _ (List.mem_of_getElem? (i := 56) rfl)) Via.refl e27 F_a_stack E (Or.inr ⟨(hw _ (List.mem_of_getElem? (i := 57) rfl)), rfl, hnm⟩) (hw _ (List.mem_of_getElem? (i := 1) rfl)) (by decide) rfl rfl (hb hby d8_30) rfl ?_
  intro T30 h30 e30 W30 X30
  replace N := Fr.snoc X30 N q0
  replace K := K.wr W30 (Or.inl (List.mem_cons_self ..))
  replace E := E.wr W30
  replace F_a_logged := F_a_logged.other W30 (Or.inr (slot_ne (C := "com/example/ubver/ubver/verifier/InferredState") (t := (.array .int)) (t' := (.array (.object "com/example/ubver/ubver/verifier/VerificationType"))) (Or.inl (hw _ (List.mem_of_getElem? (i := 49) rfl))) (Or.inr (hw _ (List.mem_of_getElem? (i := 57) rfl))) (by decide) (by decide) (by decide)))
  replace F_a_places := F_a_places.other W30 (Or.inr (slot_ne (C := "com/example/ubver/ubver/verifier/InferredState") (t := (.array .int)) (t' := (.array (.object "com/example/ubver/ubver/verifier/VerificationType"))) (Or.inr (hw _ (List.mem_of_getElem? (i := 51) rfl))) (Or.inr (hw _ (List.mem_of_getElem? (i := 57) rfl))) (by decide) (by decide) (by decide)))
  replace F_a_locals := F_a_locals.other W30 (Or.inr (slot_ne (C := "com/example/ubver/ubver/verifier/InferredState") (t := (.array (.object "com/example/ubver/ubver/verifier/VerificationType"))) (t' := (.array (.object "com/example/ubver/ubver/verifier/VerificationType"))) (Or.inr (hw _ (List.mem_of_getElem? (i := 55) rfl))) (Or.inr (hw _ (List.mem_of_getElem? (i := 57) rfl))) (by decide) (by decide) (by decide)))
  replace F_a_stack := F_a_stack.same W30
  replace F_a_thisUninitialized := F_a_thisUninitialized.other W30 (Or.inr (slot_ne (C := "com/example/ubver/ubver/verifier/InferredState") (t := .boolean) (t' := (.array (.object "com/example/ubver/ubver/verifier/VerificationType"))) (Or.inl (hw _ (List.mem_of_getElem? (i := 73) rfl))) (Or.inr (hw _ (List.mem_of_getElem? (i := 57) rfl))) (by decide) (by decide) (by decide)))
  replace F_a_initializationHandler := F_a_initializationHandler.other W30 (Or.inr (slot_ne (C := "com/example/ubver/ubver/verifier/InferredState") (t := .int) (t' := (.array (.object "com/example/ubver/ubver/verifier/VerificationType"))) (Or.inl (hw _ (List.mem_of_getElem? (i := 66) rfl))) (Or.inr (hw _ (List.mem_of_getElem? (i := 57) rfl))) (by decide) (by decide) (by decide)))
  replace F_a_namedAt := F_a_namedAt.other W30 (Or.inr (slot_ne (C := "com/example/ubver/ubver/verifier/InferredState") (t := .int) (t' := (.array (.object "com/example/ubver/ubver/verifier/VerificationType"))) (Or.inl (hw _ (List.mem_of_getElem? (i := 68) rfl))) (Or.inr (hw _ (List.mem_of_getElem? (i := 57) rfl))) (by decide) (by decide) (by decide)))
  replace F_a_active := F_a_active.other W30 (Or.inr (slot_ne (C := "com/example/ubver/ubver/verifier/InferredState") (t := (.object "com/example/ubver/ubver/verifier/ActiveSubroutines")) (t' := (.array (.object "com/example/ubver/ubver/verifier/VerificationType"))) (Or.inl (hw _ (List.mem_of_getElem? (i := 70) rfl))) (Or.inr (hw _ (List.mem_of_getElem? (i := 57) rfl))) (by decide) (by decide) (by decide)))
  replace TP := TP.wr W30
  replace Ab2 := Ab2.other W30 (Ne.symm n_a_b2)
  refine o_aloadN (pc' := 34) X30 hx (hb hby d8_33) rfl rfl rfl ?_
  refine o_getF (pc' := 37) X30 hx hZ hown (hw _ (List.mem_of_getElem? (i := 54) rfl)) Via.refl e30 F_a_locals (hb hby d8_34) rfl ?_
  intro T34 e34 X34
  refine o_getS (pc' := 40) X34 hx hZ hown (hw _ (List.mem_of_getElem? (i := 58) rfl)) Via.refl e34 TP (hb hby d8_37) rfl ?_
  intro T37 e37 X37
  refine o_callS (W := 0) (pc' := 43) (rm := ({ frames := 0, cells := 0, slots := 0, locals := 0 } : Room)) (argsL := [(.ref b2), (.ref top)]) (rest := []) X37 hx hZ hown (hw _ (List.mem_of_getElem? (i := 61) rfl)) (hw _ (List.mem_of_getElem? (i := 62) rfl)) (hw _ (List.mem_of_getElem? (i := 63) rfl)) (hw _ (List.mem_of_getElem? (i := 64) rfl)) (by decide) e37 (rm9 l Z a0 hw b2 top _ _ h30 Ab2 rfl) (by rw [hml]; rfl) pd_9 rfl rfl (hb hby d8_40) rfl (by decide) rfl (by decide) (by decide) (by decide) ?_
  rintro _ T40 L40 ⟨rfl, rfl, e40⟩ X40
  show Ends p e below s (Q8 Z a n0 top h0) ({ frames := 1, cells := 3, slots := 16, locals := 15 } : Room).cells ({ frames := 1, cells := 3, slots := 16, locals := 15 } : Room).slots (T40.setTop (mkF m 43 #[.val (.ref a), .val .null, .val (.int (0 : Int32)), .val (.int (0 : Int32))] []))
  exact o_ret0 X40 hx hlk hret (hb hby d8_43) ⟨rfl, by first | exact N | simpa using N, by rw [e40]; exact K, by rw [e40]; exact F_a_thisUninitialized, by rw [e40]; exact F_a_initializationHandler, by rw [e40]; exact F_a_namedAt, by rw [e40]; exact F_a_active⟩ (by decide) (by decide)
abbrev Q7 (Z : State) (a : Addr) (n0 : Nat)(top act : Addr) (h0 : Heap) (v : Option Value) (h : Heap) (L : List Loc) : Prop := v = none ∧ Fr n0 L ∧ Keep h0 h [a] ∧ Fld Z h a "com/example/ubver/ubver/verifier/TypeState" "thisUninitialized" "Z" (.int (0 : Int32)) ∧ Fld Z h a "com/example/ubver/ubver/verifier/InferredState" "initializationHandler" "I" (.int (-1 : Int32))
set_option maxRecDepth 65536 in
set_option maxHeartbeats 40000000 in
theorem rm7 (l : Launch) (Z : State) (a0 : Array Value) (hw : ∀ d ∈ tables_1, d.before a0 Z = true) (a : Addr) (n0 : Nat)(top act : Addr) (h0 : Heap) (q0 : n0 ≤ a) (E : Exa Z h0 a "com/example/ubver/ubver/verifier/InferredState") (F_a_logged : Fld Z h0 a "com/example/ubver/ubver/verifier/TypeState" "logged" "[I" .null) (F_a_places : Fld Z h0 a "com/example/ubver/ubver/verifier/TypeState" "places" "[I" .null) (F_a_locals : Fld Z h0 a "com/example/ubver/ubver/verifier/TypeState" "locals" "[Lcom/example/ubver/ubver/verifier/VerificationType;" .null) (F_a_stack : Fld Z h0 a "com/example/ubver/ubver/verifier/TypeState" "stack" "[Lcom/example/ubver/ubver/verifier/VerificationType;" .null) (F_a_thisUninitialized : Fld Z h0 a "com/example/ubver/ubver/verifier/TypeState" "thisUninitialized" "Z" (.int (0 : Int32))) (F_a_initializationHandler : Fld Z h0 a "com/example/ubver/ubver/verifier/InferredState" "initializationHandler" "I" (.int (0 : Int32))) (F_a_namedAt : Fld Z h0 a "com/example/ubver/ubver/verifier/InferredState" "namedAt" "I" (.int (0 : Int32))) (F_a_active : Fld Z h0 a "com/example/ubver/ubver/verifier/InferredState" "active" "Lcom/example/ubver/ubver/verifier/ActiveSubroutines;" .null) (TP : Sta Z h0 "com/example/ubver/ubver/verifier/VerificationType$Simple" "TOP" "Lcom/example/ubver/ubver/verifier/VerificationType$Simple;" (.ref top)) (Z0 : n0 ≤ h0.size) :
    Con l Z (⟨"com/example/ubver/ubver/verifier/InferredState", "<init>", "([IIILcom/example/ubver/ubver/verifier/ActiveSubroutines;)V"⟩ : MethodName) prog_83_method_2_code 5 none ({ frames := 2, cells := 3, slots := 16, locals := 30 } : Room) #[(.ref a), .null, (.int (0 : Int32)), (.int (0 : Int32)), (.ref act)] h0 (Q7 Z a n0 top act h0) := by
  refine Con.of pn_7 (fun p e s m below meth c T0 X0 hx hby hml hret hlk hown hnm hZ e0 => ?_)
  replace hown : s.vm.findClass "com/example/ubver/ubver/verifier/InferredState" = some m.cls := hown
  have ef : entryFrame m #[(.ref a), .null, (.int (0 : Int32)), (.int (0 : Int32)), (.ref act)] 5 = mkF m 0 #[.val (.ref a), .val .null, .val (.int (0 : Int32)), .val (.int (0 : Int32)), .val (.ref act)] [] := by first | (simp [entryFrame, mkF, argsToLocals, Value.category]; done) | rfl
  rw [ef]
  have N := Fr.nil n0
  have K := Keep.refl h0 [a]
  refine o_aloadN (pc' := 1) X0 hx (hb hby d7_0) rfl rfl rfl ?_
  refine o_aloadN (pc' := 2) X0 hx (hb hby d7_1) rfl rfl rfl ?_
  refine o_iloadN (pc' := 3) X0 hx (hb hby d7_2) rfl rfl ?_
  refine o_iloadN (pc' := 4) X0 hx (hb hby d7_3) rfl rfl ?_
  refine o_callC (W := 0) (pc' := 7) (rm := ({ frames := 1, cells := 3, slots := 16, locals := 15 } : Room)) (a := a) (argsL := [.null, (.int (0 : Int32)), (.int (0 : Int32))]) (rest := []) X0 hx hZ rfl hown (hw _ (List.mem_of_getElem? (i := 41) rfl)) (hw _ (List.mem_of_getElem? (i := 42) rfl)) (hw _ (List.mem_of_getElem? (i := 44) rfl)) (hw _ (List.mem_of_getElem? (i := 45) rfl)) (by decide) e0 (rm8 l Z a0 hw a n0 top h0 q0 E F_a_logged F_a_places F_a_locals F_a_stack F_a_thisUninitialized F_a_initializationHandler F_a_namedAt F_a_active TP Z0) (by rw [hml]; rfl) pd_8 rfl rfl (hb hby d7_4) rfl (by decide) rfl (by decide) (by decide) (by decide) ?_
  rintro _ T4 L4 ⟨rfl, N1, K1, F_a_thisUninitialized, F_a_initializationHandler, F_a_namedAt, F_a_active⟩ X4
  show Ends p e below s (Q7 Z a n0 top act h0) ({ frames := 2, cells := 3, slots := 16, locals := 30 } : Room).cells ({ frames := 2, cells := 3, slots := 16, locals := 30 } : Room).slots (T4.setTop (mkF m 7 #[.val (.ref a), .val .null, .val (.int (0 : Int32)), .val (.int (0 : Int32)), .val (.ref act)] []))
  replace N := N.app N1
  replace K := K1
  replace E := E.keep K1
  refine o_aloadN (pc' := 8) X4 hx (hb hby d7_7) rfl rfl rfl ?_
  refine o_iconst (v := (-1 : Int32)) (pc' := 9) X4 hx (hb hby d7_8) (by decide) rfl ?_
  refine o_putF (pc' := 12) (ty := .int) X4 hx hZ hown (hw _ (List.mem_of_getElem? (i := 65) rfl)) Via.refl rfl F_a_initializationHandler E (Or.inl (hw _ (List.mem_of_getElem? (i := 66) rfl))) (hw _ (List.mem_of_getElem? (i := 1) rfl)) (by decide) rfl rfl (hb hby d7_9) rfl ?_
  intro T9 h9 e9 W9 X9
  replace N := Fr.snoc X9 N q0
  replace K := K.wr W9 (Or.inl (List.mem_cons_self ..))
  replace E := E.wr W9
  replace F_a_thisUninitialized := F_a_thisUninitialized.other W9 (Or.inr (slot_ne (C := "com/example/ubver/ubver/verifier/InferredState") (t := .boolean) (t' := .int) (Or.inl (hw _ (List.mem_of_getElem? (i := 73) rfl))) (Or.inl (hw _ (List.mem_of_getElem? (i := 66) rfl))) (by decide) (by decide) (by decide)))
  replace F_a_initializationHandler := F_a_initializationHandler.same W9
  replace F_a_namedAt := F_a_namedAt.other W9 (Or.inr (slot_ne (C := "com/example/ubver/ubver/verifier/InferredState") (t := .int) (t' := .int) (Or.inl (hw _ (List.mem_of_getElem? (i := 68) rfl))) (Or.inl (hw _ (List.mem_of_getElem? (i := 66) rfl))) (by decide) (by decide) (by decide)))
  replace F_a_active := F_a_active.other W9 (Or.inr (slot_ne (C := "com/example/ubver/ubver/verifier/InferredState") (t := (.object "com/example/ubver/ubver/verifier/ActiveSubroutines")) (t' := .int) (Or.inl (hw _ (List.mem_of_getElem? (i := 70) rfl))) (Or.inl (hw _ (List.mem_of_getElem? (i := 66) rfl))) (by decide) (by decide) (by decide)))
  refine o_aloadN (pc' := 13) X9 hx (hb hby d7_12) rfl rfl rfl ?_
  refine o_iconst (v := (-1 : Int32)) (pc' := 14) X9 hx (hb hby d7_13) (by decide) rfl ?_
  refine o_putF (pc' := 17) (ty := .int) X9 hx hZ hown (hw _ (List.mem_of_getElem? (i := 67) rfl)) Via.refl e9 F_a_namedAt E (Or.inl (hw _ (List.mem_of_getElem? (i := 68) rfl))) (hw _ (List.mem_of_getElem? (i := 1) rfl)) (by decide) rfl rfl (hb hby d7_14) rfl ?_
  intro T14 h14 e14 W14 X14
  replace N := Fr.snoc X14 N q0
  replace K := K.wr W14 (Or.inl (List.mem_cons_self ..))
  replace E := E.wr W14
  replace F_a_thisUninitialized := F_a_thisUninitialized.other W14 (Or.inr (slot_ne (C := "com/example/ubver/ubver/verifier/InferredState") (t := .boolean) (t' := .int) (Or.inl (hw _ (List.mem_of_getElem? (i := 73) rfl))) (Or.inl (hw _ (List.mem_of_getElem? (i := 68) rfl))) (by decide) (by decide) (by decide)))
  replace F_a_initializationHandler := F_a_initializationHandler.other W14 (Or.inr (slot_ne (C := "com/example/ubver/ubver/verifier/InferredState") (t := .int) (t' := .int) (Or.inl (hw _ (List.mem_of_getElem? (i := 66) rfl))) (Or.inl (hw _ (List.mem_of_getElem? (i := 68) rfl))) (by decide) (by decide) (by decide)))
  replace F_a_namedAt := F_a_namedAt.same W14
  replace F_a_active := F_a_active.other W14 (Or.inr (slot_ne (C := "com/example/ubver/ubver/verifier/InferredState") (t := (.object "com/example/ubver/ubver/verifier/ActiveSubroutines")) (t' := .int) (Or.inl (hw _ (List.mem_of_getElem? (i := 70) rfl))) (Or.inl (hw _ (List.mem_of_getElem? (i := 68) rfl))) (by decide) (by decide) (by decide)))
  refine o_aloadN (pc' := 18) X14 hx (hb hby d7_17) rfl rfl rfl ?_
  refine o_aload (pc' := 20) X14 hx (hb hby d7_18) rfl rfl rfl ?_
  refine o_putF (pc' := 23) (ty := (.object "com/example/ubver/ubver/verifier/ActiveSubroutines")) X14 hx hZ hown (hw _ (List.mem_of_getElem? (i := 69) rfl)) Via.refl e14 F_a_active E (Or.inl (hw _ (List.mem_of_getElem? (i := 70) rfl))) (hw _ (List.mem_of_getElem? (i := 1) rfl)) (by decide) rfl rfl (hb hby d7_20) rfl ?_
  intro T20 h20 e20 W20 X20
  replace N := Fr.snoc X20 N q0
  replace K := K.wr W20 (Or.inl (List.mem_cons_self ..))
  replace E := E.wr W20
  replace F_a_thisUninitialized := F_a_thisUninitialized.other W20 (Or.inr (slot_ne (C := "com/example/ubver/ubver/verifier/InferredState") (t := .boolean) (t' := (.object "com/example/ubver/ubver/verifier/ActiveSubroutines")) (Or.inl (hw _ (List.mem_of_getElem? (i := 73) rfl))) (Or.inl (hw _ (List.mem_of_getElem? (i := 70) rfl))) (by decide) (by decide) (by decide)))
  replace F_a_initializationHandler := F_a_initializationHandler.other W20 (Or.inr (slot_ne (C := "com/example/ubver/ubver/verifier/InferredState") (t := .int) (t' := (.object "com/example/ubver/ubver/verifier/ActiveSubroutines")) (Or.inl (hw _ (List.mem_of_getElem? (i := 66) rfl))) (Or.inl (hw _ (List.mem_of_getElem? (i := 70) rfl))) (by decide) (by decide) (by decide)))
  replace F_a_namedAt := F_a_namedAt.other W20 (Or.inr (slot_ne (C := "com/example/ubver/ubver/verifier/InferredState") (t := .int) (t' := (.object "com/example/ubver/ubver/verifier/ActiveSubroutines")) (Or.inl (hw _ (List.mem_of_getElem? (i := 68) rfl))) (Or.inl (hw _ (List.mem_of_getElem? (i := 70) rfl))) (by decide) (by decide) (by decide)))
  replace F_a_active := F_a_active.same W20
  exact o_ret0 X20 hx hlk hret (hb hby d7_23) ⟨rfl, by first | exact N | simpa using N, by rw [e20]; exact K, by rw [e20]; exact F_a_thisUninitialized, by rw [e20]; exact F_a_initializationHandler⟩ (by decide) (by decide)
abbrev Q1 (Z : State) (a : Addr) (n0 : Nat)(top : Addr) (h0 : Heap) (v : Option Value) (h : Heap) (L : List Loc) : Prop := v = none ∧ Fr n0 L ∧ Keep h0 h [a] ∧ Fld Z h a "com/example/ubver/ubver/verifier/TypeState" "thisUninitialized" "Z" (.int (0 : Int32)) ∧ Fld Z h a "com/example/ubver/ubver/verifier/InferredState" "initializationHandler" "I" (.int (-1 : Int32))
set_option maxRecDepth 65536 in
set_option maxHeartbeats 40000000 in
theorem rm1 (l : Launch) (Z : State) (a0 : Array Value) (hw : ∀ d ∈ tables_1, d.before a0 Z = true) (a : Addr) (n0 : Nat)(top : Addr) (h0 : Heap) (q0 : n0 ≤ a) (E : Exa Z h0 a "com/example/ubver/ubver/verifier/InferredState") (F_a_logged : Fld Z h0 a "com/example/ubver/ubver/verifier/TypeState" "logged" "[I" .null) (F_a_places : Fld Z h0 a "com/example/ubver/ubver/verifier/TypeState" "places" "[I" .null) (F_a_locals : Fld Z h0 a "com/example/ubver/ubver/verifier/TypeState" "locals" "[Lcom/example/ubver/ubver/verifier/VerificationType;" .null) (F_a_stack : Fld Z h0 a "com/example/ubver/ubver/verifier/TypeState" "stack" "[Lcom/example/ubver/ubver/verifier/VerificationType;" .null) (F_a_thisUninitialized : Fld Z h0 a "com/example/ubver/ubver/verifier/TypeState" "thisUninitialized" "Z" (.int (0 : Int32))) (F_a_initializationHandler : Fld Z h0 a "com/example/ubver/ubver/verifier/InferredState" "initializationHandler" "I" (.int (0 : Int32))) (F_a_namedAt : Fld Z h0 a "com/example/ubver/ubver/verifier/InferredState" "namedAt" "I" (.int (0 : Int32))) (F_a_active : Fld Z h0 a "com/example/ubver/ubver/verifier/InferredState" "active" "Lcom/example/ubver/ubver/verifier/ActiveSubroutines;" .null) (TP : Sta Z h0 "com/example/ubver/ubver/verifier/VerificationType$Simple" "TOP" "Lcom/example/ubver/ubver/verifier/VerificationType$Simple;" (.ref top)) (Z0 : n0 ≤ h0.size) :
    Con l Z (⟨"com/example/ubver/ubver/verifier/InferredState", "<init>", "([III)V"⟩ : MethodName) prog_83_method_1_code 4 none ({ frames := 5, cells := 5, slots := 23, locals := 68 } : Room) #[(.ref a), .null, (.int (0 : Int32)), (.int (0 : Int32))] h0 (Q1 Z a n0 top h0) := by
  refine Con.of pn_1 (fun p e s m below meth c T0 X0 hx hby hml hret hlk hown hnm hZ e0 => ?_)
  replace hown : s.vm.findClass "com/example/ubver/ubver/verifier/InferredState" = some m.cls := hown
  have ef : entryFrame m #[(.ref a), .null, (.int (0 : Int32)), (.int (0 : Int32))] 4 = mkF m 0 #[.val (.ref a), .val .null, .val (.int (0 : Int32)), .val (.int (0 : Int32))] [] := by first | (simp [entryFrame, mkF, argsToLocals, Value.category]; done) | rfl
  rw [ef]
  have N := Fr.nil n0
  have K := Keep.refl h0 [a]
  refine o_aloadN (pc' := 1) X0 hx (hb hby d1_0) rfl rfl rfl ?_
  refine o_aloadN (pc' := 2) X0 hx (hb hby d1_1) rfl rfl rfl ?_
  refine o_iloadN (pc' := 3) X0 hx (hb hby d1_2) rfl rfl ?_
  refine o_iloadN (pc' := 4) X0 hx (hb hby d1_3) rfl rfl ?_
  refine o_callS (W := 4) (pc' := 7) (rm := ({ frames := 4, cells := 2, slots := 7, locals := 53 } : Room)) (argsL := []) (rest := [(.int (0 : Int32)), (.int (0 : Int32)), .null, (.ref a)]) X0 hx hZ hown (hw _ (List.mem_of_getElem? (i := 6) rfl)) (hw _ (List.mem_of_getElem? (i := 7) rfl)) (hw _ (List.mem_of_getElem? (i := 8) rfl)) (hw _ (List.mem_of_getElem? (i := 9) rfl)) (by decide) e0 (rm2 l Z a0 hw h0) (by rw [hml]; rfl) pd_2 rfl rfl (hb hby d1_4) rfl (by decide) rfl (by decide) (by decide) (by decide) ?_
  rintro _ T4 L4 ⟨r, rfl, gr, lr, Nr, Kr⟩ X4
  show Ends p e below s (Q1 Z a n0 top h0) ({ frames := 5, cells := 5, slots := 23, locals := 68 } : Room).cells ({ frames := 5, cells := 5, slots := 23, locals := 68 } : Room).slots (T4.setTop (mkF m 7 #[.val (.ref a), .val .null, .val (.int (0 : Int32)), .val (.int (0 : Int32))] [(.ref r), (.int (0 : Int32)), (.int (0 : Int32)), .null, (.ref a)]))
  replace N := N.app (fun y hy => Nat.le_trans Z0 (Nr y hy))
  replace K := K.trans Kr (fun x q => nomatch q)
  replace TP := own_staK0 TP Kr
  replace E := E.keep Kr
  replace F_a_logged := F_a_logged.keep Kr nin0
  replace F_a_places := F_a_places.keep Kr nin0
  replace F_a_locals := F_a_locals.keep Kr nin0
  replace F_a_stack := F_a_stack.keep Kr nin0
  replace F_a_thisUninitialized := F_a_thisUninitialized.keep Kr nin0
  replace F_a_initializationHandler := F_a_initializationHandler.keep Kr nin0
  replace F_a_namedAt := F_a_namedAt.keep Kr nin0
  replace F_a_active := F_a_active.keep Kr nin0
  have Z1 : n0 ≤ T4.heap.size := Nat.le_trans Z0 Kr.1
  refine o_callC (W := 0) (pc' := 10) (rm := ({ frames := 2, cells := 3, slots := 16, locals := 30 } : Room)) (a := a) (argsL := [.null, (.int (0 : Int32)), (.int (0 : Int32)), (.ref r)]) (rest := []) X4 hx hZ rfl hown (hw _ (List.mem_of_getElem? (i := 38) rfl)) (hw _ (List.mem_of_getElem? (i := 39) rfl)) (hw _ (List.mem_of_getElem? (i := 2) rfl)) (hw _ (List.mem_of_getElem? (i := 40) rfl)) (by decide) rfl (rm7 l Z a0 hw a n0 top r T4.heap q0 E F_a_logged F_a_places F_a_locals F_a_stack F_a_thisUninitialized F_a_initializationHandler F_a_namedAt F_a_active TP Z1) (by rw [hml]; rfl) pd_7 rfl rfl (hb hby d1_7) rfl (by decide) rfl (by decide) (by decide) (by decide) ?_
  rintro _ T7 L7 ⟨rfl, N1, K1, G1, G2⟩ X7
  show Ends p e below s (Q1 Z a n0 top h0) ({ frames := 5, cells := 5, slots := 23, locals := 68 } : Room).cells ({ frames := 5, cells := 5, slots := 23, locals := 68 } : Room).slots (T7.setTop (mkF m 10 #[.val (.ref a), .val .null, .val (.int (0 : Int32)), .val (.int (0 : Int32))] []))
  replace N := N.app N1
  replace K := K.trans K1 (fun x q => Or.inl q)
  exact o_ret0 X7 hx hlk hret (hb hby d1_10) ⟨rfl, by first | exact N | simpa using N, K, G1, G2⟩ (by decide) (by decide)

def fu (u w : Int32) : Int32 := if w = 0 then u else if u = 0 then 1 else u
def fi (i j : Int32) : Int32 := if j < 0 then i else if i < 0 then j else i
def fch (u i w j : Int32) : Int32 := if j < 0 then (if w = 0 then 0 else if u = 0 then 1 else 0) else if i < 0 then 1 else (if w = 0 then 0 else if u = 0 then 1 else 0)
abbrev Q10 (Z : State) (a b : Addr) (n0 : Nat) (u i x j : Int32) (h0 : Heap) (v : Option Value) (h : Heap) (L : List Loc) : Prop := v = some (.int (fch u i x j)) ∧ Fr n0 L ∧ Keep h0 h [a] ∧ Fld Z h a "com/example/ubver/ubver/verifier/TypeState" "thisUninitialized" "Z" (.int (fu u x)) ∧ Fld Z h a "com/example/ubver/ubver/verifier/InferredState" "initializationHandler" "I" (.int (fi i j))
set_option maxRecDepth 65536 in
set_option maxHeartbeats 40000000 in
theorem rm10 (l : Launch) (Z : State) (a0 : Array Value) (hw : ∀ d ∈ tables_1, d.before a0 Z = true) (a b : Addr) (n0 : Nat) (u i x j : Int32) (h0 : Heap) (q0 : n0 ≤ a) (hab : a ≠ b) (E : Exa Z h0 a "com/example/ubver/ubver/verifier/InferredState") (F1 : Fld Z h0 a "com/example/ubver/ubver/verifier/TypeState" "thisUninitialized" "Z" (.int u)) (F2 : Fld Z h0 a "com/example/ubver/ubver/verifier/InferredState" "initializationHandler" "I" (.int i)) (F3 : Fld Z h0 b "com/example/ubver/ubver/verifier/TypeState" "thisUninitialized" "Z" (.int x)) (F4 : Fld Z h0 b "com/example/ubver/ubver/verifier/InferredState" "initializationHandler" "I" (.int j)) :
    Con l Z (⟨"com/example/ubver/ubver/verifier/InferredState", "mergeInitialization", "(Lcom/example/ubver/ubver/verifier/InferredState;)Z"⟩ : MethodName) prog_83_method_23_code 3 (some .boolean) ({ frames := 0, cells := 0, slots := 0, locals := 0 } : Room) #[(.ref a), (.ref b)] h0 (Q10 Z a b n0 u i x j h0) := by
  refine Con.of pn_10 (fun p e s m below meth c T0 X0 hx hby hml hret hlk hown hnm hZ e0 => ?_)
  replace hown : s.vm.findClass "com/example/ubver/ubver/verifier/InferredState" = some m.cls := hown
  have ef : entryFrame m #[(.ref a), (.ref b)] 3 = mkF m 0 #[.val (.ref a), .val (.ref b), .unset] [] := by first | (simp [entryFrame, mkF, argsToLocals, Value.category]; done) | rfl
  rw [ef]
  have N := Fr.nil n0
  have K := Keep.refl h0 [a]
  refine o_iconst (v := (0 : Int32)) (pc' := 1) X0 hx (hb hby d10_0) (by decide) rfl ?_
  refine o_istoreN (Ls' := #[.val (.ref a), .val (.ref b), .val (.int (0 : Int32))]) (pc' := 2) X0 hx (hb hby d10_1) rfl rfl ?_
  refine o_aloadN (pc' := 3) X0 hx (hb hby d10_2) rfl rfl rfl ?_
  refine o_getF (pc' := 6) X0 hx hZ hown (hw _ (List.mem_of_getElem? (i := 80) rfl)) (Via.of (hw _ (List.mem_of_getElem? (i := 72) rfl))) e0 F3 (hb hby d10_3) rfl ?_
  intro T3 e3 X3
  refine o_if_eq (p1 := 9) (p2 := 23) X3 hx (hb hby d10_6) rfl (by decide) (by decide) (fun hc6 => ?_) (fun hc6 => ?_)
  · refine o_aloadN (pc' := 24) X3 hx (hb hby d10_23) rfl rfl rfl ?_
    refine o_getF (pc' := 27) X3 hx hZ hown (hw _ (List.mem_of_getElem? (i := 65) rfl)) Via.refl e3 F4 (hb hby d10_24) rfl ?_
    intro T24 e24 X24
    refine o_if_lt (p1 := 30) (p2 := 47) X24 hx (hb hby d10_27) rfl (by decide) (by decide) (fun hc27 => ?_) (fun hc27 => ?_)
    · refine o_iloadN (pc' := 48) X24 hx (hb hby d10_47) rfl rfl ?_
      exact o_retZ X24 hx hlk hret (hb hby d10_48) (by decide) ⟨by simp only [fch, if_pos hc6, if_pos hc27], by first | exact N | simpa using N, by rw [e24]; exact K, by rw [e24]; simpa only [fu, fi, if_pos hc6, if_pos hc27] using F1, by rw [e24]; simpa only [fu, fi, if_pos hc6, if_pos hc27] using F2⟩ (by decide) (by decide)
    · refine o_aloadN (pc' := 31) X24 hx (hb hby d10_30) rfl rfl rfl ?_
      refine o_getF (pc' := 34) X24 hx hZ hown (hw _ (List.mem_of_getElem? (i := 65) rfl)) Via.refl e24 F2 (hb hby d10_31) rfl ?_
      intro T31 e31 X31
      refine o_if_ge (p1 := 37) (p2 := 47) X31 hx (hb hby d10_34) rfl (by decide) (by decide) (fun hc34 => ?_) (fun hc34 => ?_)
      · refine o_iloadN (pc' := 48) X31 hx (hb hby d10_47) rfl rfl ?_
        exact o_retZ X31 hx hlk hret (hb hby d10_48) (by decide) ⟨by simp only [fch, if_pos hc6, if_neg hc27, if_neg hc34], by first | exact N | simpa using N, by rw [e31]; exact K, by rw [e31]; simpa only [fu, fi, if_pos hc6, if_neg hc27, if_neg hc34] using F1, by rw [e31]; simpa only [fu, fi, if_pos hc6, if_neg hc27, if_neg hc34] using F2⟩ (by decide) (by decide)
      · refine o_aloadN (pc' := 38) X31 hx (hb hby d10_37) rfl rfl rfl ?_
        refine o_aloadN (pc' := 39) X31 hx (hb hby d10_38) rfl rfl rfl ?_
        refine o_getF (pc' := 42) X31 hx hZ hown (hw _ (List.mem_of_getElem? (i := 65) rfl)) Via.refl e31 F4 (hb hby d10_39) rfl ?_
        intro T39 e39 X39
        refine o_putF (pc' := 45) (ty := .int) X39 hx hZ hown (hw _ (List.mem_of_getElem? (i := 65) rfl)) Via.refl e39 F2 E (Or.inl (hw _ (List.mem_of_getElem? (i := 66) rfl))) (hw _ (List.mem_of_getElem? (i := 1) rfl)) (by decide) rfl rfl (hb hby d10_42) rfl ?_
        intro T42 h42 e42 W42 X42
        replace N := Fr.snoc X42 N q0
        replace K := K.wr W42 (Or.inl (List.mem_cons_self ..))
        replace E := E.wr W42
        replace F1 := F1.other W42 (Or.inr (slot_ne (C := "com/example/ubver/ubver/verifier/InferredState") (t := .boolean) (t' := .int) (Or.inl (hw _ (List.mem_of_getElem? (i := 73) rfl))) (Or.inl (hw _ (List.mem_of_getElem? (i := 66) rfl))) (by decide) (by decide) (by decide)))
        replace F2 := F2.same W42
        replace F3 := F3.other W42 (Or.inl (Ne.symm hab))
        replace F4 := F4.other W42 (Or.inl (Ne.symm hab))
        refine o_iconst (v := (1 : Int32)) (pc' := 46) X42 hx (hb hby d10_45) (by decide) rfl ?_
        refine o_istoreN (Ls' := #[.val (.ref a), .val (.ref b), .val (.int (1 : Int32))]) (pc' := 47) X42 hx (hb hby d10_46) rfl rfl ?_
        refine o_iloadN (pc' := 48) X42 hx (hb hby d10_47) rfl rfl ?_
        exact o_retZ X42 hx hlk hret (hb hby d10_48) (by decide) ⟨by simp only [fch, if_pos hc6, if_neg hc27, if_pos hc34], by first | exact N | simpa using N, by rw [e42]; exact K, by rw [e42]; simpa only [fu, fi, if_pos hc6, if_neg hc27, if_pos hc34] using F1, by rw [e42]; simpa only [fu, fi, if_pos hc6, if_neg hc27, if_pos hc34] using F2⟩ (by decide) (by decide)
  · refine o_aloadN (pc' := 10) X3 hx (hb hby d10_9) rfl rfl rfl ?_
    refine o_getF (pc' := 13) X3 hx hZ hown (hw _ (List.mem_of_getElem? (i := 80) rfl)) (Via.of (hw _ (List.mem_of_getElem? (i := 72) rfl))) e3 F1 (hb hby d10_10) rfl ?_
    intro T10 e10 X10
    refine o_if_ne (p1 := 16) (p2 := 23) X10 hx (hb hby d10_13) rfl (by decide) (by decide) (fun hc13 => ?_) (fun hc13 => ?_)
    · refine o_aloadN (pc' := 24) X10 hx (hb hby d10_23) rfl rfl rfl ?_
      refine o_getF (pc' := 27) X10 hx hZ hown (hw _ (List.mem_of_getElem? (i := 65) rfl)) Via.refl e10 F4 (hb hby d10_24) rfl ?_
      intro T24 e24 X24
      refine o_if_lt (p1 := 30) (p2 := 47) X24 hx (hb hby d10_27) rfl (by decide) (by decide) (fun hc27 => ?_) (fun hc27 => ?_)
      · refine o_iloadN (pc' := 48) X24 hx (hb hby d10_47) rfl rfl ?_
        exact o_retZ X24 hx hlk hret (hb hby d10_48) (by decide) ⟨by simp only [fch, if_neg hc6, if_neg hc13, if_pos hc27], by first | exact N | simpa using N, by rw [e24]; exact K, by rw [e24]; simpa only [fu, fi, if_neg hc6, if_neg hc13, if_pos hc27] using F1, by rw [e24]; simpa only [fu, fi, if_neg hc6, if_neg hc13, if_pos hc27] using F2⟩ (by decide) (by decide)
      · refine o_aloadN (pc' := 31) X24 hx (hb hby d10_30) rfl rfl rfl ?_
        refine o_getF (pc' := 34) X24 hx hZ hown (hw _ (List.mem_of_getElem? (i := 65) rfl)) Via.refl e24 F2 (hb hby d10_31) rfl ?_
        intro T31 e31 X31
        refine o_if_ge (p1 := 37) (p2 := 47) X31 hx (hb hby d10_34) rfl (by decide) (by decide) (fun hc34 => ?_) (fun hc34 => ?_)
        · refine o_iloadN (pc' := 48) X31 hx (hb hby d10_47) rfl rfl ?_
          exact o_retZ X31 hx hlk hret (hb hby d10_48) (by decide) ⟨by simp only [fch, if_neg hc6, if_neg hc13, if_neg hc27, if_neg hc34], by first | exact N | simpa using N, by rw [e31]; exact K, by rw [e31]; simpa only [fu, fi, if_neg hc6, if_neg hc13, if_neg hc27, if_neg hc34] using F1, by rw [e31]; simpa only [fu, fi, if_neg hc6, if_neg hc13, if_neg hc27, if_neg hc34] using F2⟩ (by decide) (by decide)
        · refine o_aloadN (pc' := 38) X31 hx (hb hby d10_37) rfl rfl rfl ?_
          refine o_aloadN (pc' := 39) X31 hx (hb hby d10_38) rfl rfl rfl ?_
          refine o_getF (pc' := 42) X31 hx hZ hown (hw _ (List.mem_of_getElem? (i := 65) rfl)) Via.refl e31 F4 (hb hby d10_39) rfl ?_
          intro T39 e39 X39
          refine o_putF (pc' := 45) (ty := .int) X39 hx hZ hown (hw _ (List.mem_of_getElem? (i := 65) rfl)) Via.refl e39 F2 E (Or.inl (hw _ (List.mem_of_getElem? (i := 66) rfl))) (hw _ (List.mem_of_getElem? (i := 1) rfl)) (by decide) rfl rfl (hb hby d10_42) rfl ?_
          intro T42 h42 e42 W42 X42
          replace N := Fr.snoc X42 N q0
          replace K := K.wr W42 (Or.inl (List.mem_cons_self ..))
          replace E := E.wr W42
          replace F1 := F1.other W42 (Or.inr (slot_ne (C := "com/example/ubver/ubver/verifier/InferredState") (t := .boolean) (t' := .int) (Or.inl (hw _ (List.mem_of_getElem? (i := 73) rfl))) (Or.inl (hw _ (List.mem_of_getElem? (i := 66) rfl))) (by decide) (by decide) (by decide)))
          replace F2 := F2.same W42
          replace F3 := F3.other W42 (Or.inl (Ne.symm hab))
          replace F4 := F4.other W42 (Or.inl (Ne.symm hab))
          refine o_iconst (v := (1 : Int32)) (pc' := 46) X42 hx (hb hby d10_45) (by decide) rfl ?_
          refine o_istoreN (Ls' := #[.val (.ref a), .val (.ref b), .val (.int (1 : Int32))]) (pc' := 47) X42 hx (hb hby d10_46) rfl rfl ?_
          refine o_iloadN (pc' := 48) X42 hx (hb hby d10_47) rfl rfl ?_
          exact o_retZ X42 hx hlk hret (hb hby d10_48) (by decide) ⟨by simp only [fch, if_neg hc6, if_neg hc13, if_neg hc27, if_pos hc34], by first | exact N | simpa using N, by rw [e42]; exact K, by rw [e42]; simpa only [fu, fi, if_neg hc6, if_neg hc13, if_neg hc27, if_pos hc34] using F1, by rw [e42]; simpa only [fu, fi, if_neg hc6, if_neg hc13, if_neg hc27, if_pos hc34] using F2⟩ (by decide) (by decide)
    · refine o_aloadN (pc' := 17) X10 hx (hb hby d10_16) rfl rfl rfl ?_
      refine o_iconst (v := (1 : Int32)) (pc' := 18) X10 hx (hb hby d10_17) (by decide) rfl ?_
      refine o_putF (pc' := 21) (ty := .boolean) X10 hx hZ hown (hw _ (List.mem_of_getElem? (i := 80) rfl)) (Via.of (hw _ (List.mem_of_getElem? (i := 72) rfl))) e10 F1 E (Or.inl (hw _ (List.mem_of_getElem? (i := 73) rfl))) (hw _ (List.mem_of_getElem? (i := 1) rfl)) (by decide) rfl (by decide) (hb hby d10_18) rfl ?_
      intro T18 h18 e18 W18 X18
      replace N := Fr.snoc X18 N q0
      replace K := K.wr W18 (Or.inl (List.mem_cons_self ..))
      replace E := E.wr W18
      replace F1 := F1.same W18
      replace F2 := F2.other W18 (Or.inr (slot_ne (C := "com/example/ubver/ubver/verifier/InferredState") (t := .int) (t' := .boolean) (Or.inl (hw _ (List.mem_of_getElem? (i := 66) rfl))) (Or.inl (hw _ (List.mem_of_getElem? (i := 73) rfl))) (by decide) (by decide) (by decide)))
      replace F3 := F3.other W18 (Or.inl (Ne.symm hab))
      replace F4 := F4.other W18 (Or.inl (Ne.symm hab))
      refine o_iconst (v := (1 : Int32)) (pc' := 22) X18 hx (hb hby d10_21) (by decide) rfl ?_
      refine o_istoreN (Ls' := #[.val (.ref a), .val (.ref b), .val (.int (1 : Int32))]) (pc' := 23) X18 hx (hb hby d10_22) rfl rfl ?_
      refine o_aloadN (pc' := 24) X18 hx (hb hby d10_23) rfl rfl rfl ?_
      refine o_getF (pc' := 27) X18 hx hZ hown (hw _ (List.mem_of_getElem? (i := 65) rfl)) Via.refl e18 F4 (hb hby d10_24) rfl ?_
      intro T24 e24 X24
      refine o_if_lt (p1 := 30) (p2 := 47) X24 hx (hb hby d10_27) rfl (by decide) (by decide) (fun hc27 => ?_) (fun hc27 => ?_)
      · refine o_iloadN (pc' := 48) X24 hx (hb hby d10_47) rfl rfl ?_
        exact o_retZ X24 hx hlk hret (hb hby d10_48) (by decide) ⟨by simp only [fch, if_neg hc6, if_pos hc13, if_pos hc27], by first | exact N | simpa using N, by rw [e24]; exact K, by rw [e24]; simpa only [fu, fi, if_neg hc6, if_pos hc13, if_pos hc27] using F1, by rw [e24]; simpa only [fu, fi, if_neg hc6, if_pos hc13, if_pos hc27] using F2⟩ (by decide) (by decide)
      · refine o_aloadN (pc' := 31) X24 hx (hb hby d10_30) rfl rfl rfl ?_
        refine o_getF (pc' := 34) X24 hx hZ hown (hw _ (List.mem_of_getElem? (i := 65) rfl)) Via.refl e24 F2 (hb hby d10_31) rfl ?_
        intro T31 e31 X31
        refine o_if_ge (p1 := 37) (p2 := 47) X31 hx (hb hby d10_34) rfl (by decide) (by decide) (fun hc34 => ?_) (fun hc34 => ?_)
        · refine o_iloadN (pc' := 48) X31 hx (hb hby d10_47) rfl rfl ?_
          exact o_retZ X31 hx hlk hret (hb hby d10_48) (by decide) ⟨by simp only [fch, if_neg hc6, if_pos hc13, if_neg hc27, if_neg hc34], by first | exact N | simpa using N, by rw [e31]; exact K, by rw [e31]; simpa only [fu, fi, if_neg hc6, if_pos hc13, if_neg hc27, if_neg hc34] using F1, by rw [e31]; simpa only [fu, fi, if_neg hc6, if_pos hc13, if_neg hc27, if_neg hc34] using F2⟩ (by decide) (by decide)
        · refine o_aloadN (pc' := 38) X31 hx (hb hby d10_37) rfl rfl rfl ?_
          refine o_aloadN (pc' := 39) X31 hx (hb hby d10_38) rfl rfl rfl ?_
          refine o_getF (pc' := 42) X31 hx hZ hown (hw _ (List.mem_of_getElem? (i := 65) rfl)) Via.refl e31 F4 (hb hby d10_39) rfl ?_
          intro T39 e39 X39
          refine o_putF (pc' := 45) (ty := .int) X39 hx hZ hown (hw _ (List.mem_of_getElem? (i := 65) rfl)) Via.refl e39 F2 E (Or.inl (hw _ (List.mem_of_getElem? (i := 66) rfl))) (hw _ (List.mem_of_getElem? (i := 1) rfl)) (by decide) rfl rfl (hb hby d10_42) rfl ?_
          intro T42 h42 e42 W42 X42
          replace N := Fr.snoc X42 N q0
          replace K := K.wr W42 (Or.inl (List.mem_cons_self ..))
          replace E := E.wr W42
          replace F1 := F1.other W42 (Or.inr (slot_ne (C := "com/example/ubver/ubver/verifier/InferredState") (t := .boolean) (t' := .int) (Or.inl (hw _ (List.mem_of_getElem? (i := 73) rfl))) (Or.inl (hw _ (List.mem_of_getElem? (i := 66) rfl))) (by decide) (by decide) (by decide)))
          replace F2 := F2.same W42
          replace F3 := F3.other W42 (Or.inl (Ne.symm hab))
          replace F4 := F4.other W42 (Or.inl (Ne.symm hab))
          refine o_iconst (v := (1 : Int32)) (pc' := 46) X42 hx (hb hby d10_45) (by decide) rfl ?_
          refine o_istoreN (Ls' := #[.val (.ref a), .val (.ref b), .val (.int (1 : Int32))]) (pc' := 47) X42 hx (hb hby d10_46) rfl rfl ?_
          refine o_iloadN (pc' := 48) X42 hx (hb hby d10_47) rfl rfl ?_
          exact o_retZ X42 hx hlk hret (hb hby d10_48) (by decide) ⟨by simp only [fch, if_neg hc6, if_pos hc13, if_neg hc27, if_pos hc34], by first | exact N | simpa using N, by rw [e42]; exact K, by rw [e42]; simpa only [fu, fi, if_neg hc6, if_pos hc13, if_neg hc27, if_pos hc34] using F1, by rw [e42]; simpa only [fu, fi, if_neg hc6, if_pos hc13, if_neg hc27, if_pos hc34] using F2⟩ (by decide) (by decide)

theorem own_b01 {q : Prop} [Decidable q] {z : Int32} (h : z = if q then (0 : Int32) else (1 : Int32)) : z = 0 ∨ z = 1 := by
  by_cases c : q
  · exact Or.inl (by rw [h, if_pos c])
  · exact Or.inr (by rw [h, if_neg c])
theorem own_nar {z : Int32} (h : z = 0 ∨ z = 1) : narrow .boolean (.int z) = .int z := by rcases h with rfl | rfl <;> rfl
theorem own_fit {z : Int32} (h : z = 0 ∨ z = 1) : fits .boolean (.int z) = true := by rcases h with rfl | rfl <;> decide
theorem own_fin (us uo p2 p3 eu eh ec : Int32) (bu : us = 0 ∨ us = 1) (bo : uo = 0 ∨ uo = 1) (heu : eu = (if us = (0 : Int32) then (if uo = (0 : Int32) then (0 : Int32) else (1 : Int32)) else (1 : Int32))) (heh : eh = (if p2 < (0 : Int32) then (if p3 < (0 : Int32) then p2 else p3) else p2)) (hec : ec = (if eu = us then (if eh = p2 then (0 : Int32) else (1 : Int32)) else (1 : Int32))) : fch us p2 uo p3 = ec ∧ fu us uo = eu ∧ fi p2 p3 = eh := by
  have hne : p2 < 0 → ¬ p3 < 0 → ¬ p3 = p2 := fun a b q => by subst q; exact b a
  subst hec heu heh
  rcases bu with rfl | rfl <;> rcases bo with rfl | rfl <;> by_cases a : p2 < 0 <;> by_cases b : p3 < 0 <;> first | (simp [fch, fu, fi, a, b, hne a b]; done) | (simp [fch, fu, fi, a, b]; done)
abbrev Q0 (Z : State) (p1 p2 p3 : Int32) (top : Addr) (h0 : Heap) (v : Option Value) (h : Heap) (L : List Loc) : Prop := v = some (.int (1 : Int32)) ∧ Fr h0.size L
set_option maxRecDepth 65536 in
set_option maxHeartbeats 40000000 in
theorem rm0 (l : Launch) (Z : State) (a0 : Array Value) (hw : ∀ d ∈ tables_1, d.before a0 Z = true) (p1 p2 p3 : Int32) (top : Addr) (h0 : Heap) (TP : Sta Z h0 "com/example/ubver/ubver/verifier/VerificationType$Simple" "TOP" "Lcom/example/ubver/ubver/verifier/VerificationType$Simple;" (.ref top)) :
    Con l Z x code maxLocals ret room_1 #[(.int p1), (.int p2), (.int p3)] h0 (Q0 Z p1 p2 p3 top h0) := by
  refine Con.of pn_0 (fun p e s m below meth c T0 X0 hx hby hml hret hlk hown hnm hZ e0 => ?_)
  replace hown : s.vm.findClass "com/example/ubver/ubver/verifier/InferredStateMergeInitializationPinLaw" = some m.cls := hown
  have ef : entryFrame m #[(.int p1), (.int p2), (.int p3)] maxLocals = mkF m 0 #[.val (.int p1), .val (.int p2), .val (.int p3), .unset, .unset, .unset, .unset, .unset, .unset, .unset, .unset] [] := by first | (simp [entryFrame, mkF, argsToLocals, Value.category, maxLocals]; done) | rfl
  rw [ef]
  refine o_iloadN (pc' := 1) X0 hx (hb hby at_0) rfl rfl ?_
  refine o_iconst (v := (1 : Int32)) (pc' := 2) X0 hx (hb hby at_1) (by decide) rfl ?_
  refine o_iand (pc' := 3) X0 hx (hb hby at_2) rfl ?_
  obtain ⟨us, hus⟩ : ∃ z : Int32, z = (if (p1 &&& (1 : Int32)) = (0 : Int32) then (0 : Int32) else (1 : Int32)) := ⟨_, rfl⟩
  suffices J11 : Ends p e below s (Q0 Z p1 p2 p3 top h0) room_1.cells room_1.slots (T0.setTop (mkF m 11 #[.val (.int p1), .val (.int p2), .val (.int p3), .unset, .unset, .unset, .unset, .unset, .unset, .unset, .unset] [(.int us)])) by
    refine o_if_eq (p1 := 6) (p2 := 10) X0 hx (hb hby at_3) rfl (by decide) (by decide) (fun hc3 => ?_) (fun hc3 => ?_)
    · refine o_iconst (v := (0 : Int32)) (pc' := 11) X0 hx (hb hby at_10) (by decide) rfl ?_
      simp only [hus, if_pos hc3] at J11; exact J11
    · refine o_iconst (v := (1 : Int32)) (pc' := 7) X0 hx (hb hby at_6) (by decide) rfl ?_
      refine o_goto (pc' := 11) X0 hx (hb hby at_7) (by decide) (by decide) ?_
      simp only [hus, if_neg hc3] at J11; exact J11
  refine o_istoreN (Ls' := #[.val (.int p1), .val (.int p2), .val (.int p3), .val (.int us), .unset, .unset, .unset, .unset, .unset, .unset, .unset]) (pc' := 12) X0 hx (hb hby at_11) rfl rfl ?_
  refine o_iloadN (pc' := 13) X0 hx (hb hby at_12) rfl rfl ?_
  refine o_iconst (v := (2 : Int32)) (pc' := 14) X0 hx (hb hby at_13) (by decide) rfl ?_
  refine o_iand (pc' := 15) X0 hx (hb hby at_14) rfl ?_
  obtain ⟨uo, huo⟩ : ∃ z : Int32, z = (if (p1 &&& (2 : Int32)) = (0 : Int32) then (0 : Int32) else (1 : Int32)) := ⟨_, rfl⟩
  suffices J23 : Ends p e below s (Q0 Z p1 p2 p3 top h0) room_1.cells room_1.slots (T0.setTop (mkF m 23 #[.val (.int p1), .val (.int p2), .val (.int p3), .val (.int us), .unset, .unset, .unset, .unset, .unset, .unset, .unset] [(.int uo)])) by
    refine o_if_eq (p1 := 18) (p2 := 22) X0 hx (hb hby at_15) rfl (by decide) (by decide) (fun hc15 => ?_) (fun hc15 => ?_)
    · refine o_iconst (v := (0 : Int32)) (pc' := 23) X0 hx (hb hby at_22) (by decide) rfl ?_
      simp only [huo, if_pos hc15] at J23; exact J23
    · refine o_iconst (v := (1 : Int32)) (pc' := 19) X0 hx (hb hby at_18) (by decide) rfl ?_
      refine o_goto (pc' := 23) X0 hx (hb hby at_19) (by decide) (by decide) ?_
      simp only [huo, if_neg hc15] at J23; exact J23
  refine o_istore (Ls' := #[.val (.int p1), .val (.int p2), .val (.int p3), .val (.int us), .val (.int uo), .unset, .unset, .unset, .unset, .unset, .unset]) (pc' := 25) X0 hx (hb hby at_23) rfl rfl ?_
  have bu := own_b01 hus
  have bo := own_b01 huo
  have N := Fr.nil h0.size
  refine o_new (pc' := 28) X0 hx hZ hown (hw _ (List.mem_of_getElem? (i := 0) rfl)) (hw _ (List.mem_of_getElem? (i := 1) rfl)) (hw _ (List.mem_of_getElem? (i := 2) rfl)) e0 (hb hby at_25) rfl (by decide) (by decide) ?_
  intro T25 h25 a g_a e25 E25 X_a D_a X25
  replace TP := TP.ext E25
  have F_a_logged : Fld Z h25 a "com/example/ubver/ubver/verifier/TypeState" "logged" "[I" .null := D_a (Or.inl (hw _ (List.mem_of_getElem? (i := 49) rfl))) (ty := (.array .int)) (by decide)
  have F_a_places : Fld Z h25 a "com/example/ubver/ubver/verifier/TypeState" "places" "[I" .null := D_a (Or.inr (hw _ (List.mem_of_getElem? (i := 51) rfl))) (ty := (.array .int)) (by decide)
  have F_a_locals : Fld Z h25 a "com/example/ubver/ubver/verifier/TypeState" "locals" "[Lcom/example/ubver/ubver/verifier/VerificationType;" .null := D_a (Or.inr (hw _ (List.mem_of_getElem? (i := 55) rfl))) (ty := (.array (.object "com/example/ubver/ubver/verifier/VerificationType"))) (by decide)
  have F_a_stack : Fld Z h25 a "com/example/ubver/ubver/verifier/TypeState" "stack" "[Lcom/example/ubver/ubver/verifier/VerificationType;" .null := D_a (Or.inr (hw _ (List.mem_of_getElem? (i := 57) rfl))) (ty := (.array (.object "com/example/ubver/ubver/verifier/VerificationType"))) (by decide)
  have F_a_thisUninitialized : Fld Z h25 a "com/example/ubver/ubver/verifier/TypeState" "thisUninitialized" "Z" (.int (0 : Int32)) := D_a (Or.inl (hw _ (List.mem_of_getElem? (i := 73) rfl))) (ty := .boolean) (by decide)
  have F_a_initializationHandler : Fld Z h25 a "com/example/ubver/ubver/verifier/InferredState" "initializationHandler" "I" (.int (0 : Int32)) := D_a (Or.inl (hw _ (List.mem_of_getElem? (i := 66) rfl))) (ty := .int) (by decide)
  have F_a_namedAt : Fld Z h25 a "com/example/ubver/ubver/verifier/InferredState" "namedAt" "I" (.int (0 : Int32)) := D_a (Or.inl (hw _ (List.mem_of_getElem? (i := 68) rfl))) (ty := .int) (by decide)
  have F_a_active : Fld Z h25 a "com/example/ubver/ubver/verifier/InferredState" "active" "Lcom/example/ubver/ubver/verifier/ActiveSubroutines;" .null := D_a (Or.inl (hw _ (List.mem_of_getElem? (i := 70) rfl))) (ty := (.object "com/example/ubver/ubver/verifier/ActiveSubroutines")) (by decide)
  have q_a : h0.size ≤ a := Nat.le_of_eq g_a.symm
  have Zn_a : h0.size ≤ h25.size := E25.1
  refine o_dup (pc' := 29) X25 hx (hb hby at_28) rfl rfl ?_
  refine o_aconstNull (pc' := 30) X25 hx (hb hby at_29) rfl ?_
  refine o_iconst (v := (0 : Int32)) (pc' := 31) X25 hx (hb hby at_30) (by decide) rfl ?_
  refine o_iconst (v := (0 : Int32)) (pc' := 32) X25 hx (hb hby at_31) (by decide) rfl ?_
  refine o_callC (W := 1) (pc' := 35) (rm := ({ frames := 5, cells := 5, slots := 23, locals := 68 } : Room)) (a := a) (argsL := [.null, (.int (0 : Int32)), (.int (0 : Int32))]) (rest := [(.ref a)]) X25 hx hZ rfl hown (hw _ (List.mem_of_getElem? (i := 3) rfl)) (hw _ (List.mem_of_getElem? (i := 4) rfl)) (hw _ (List.mem_of_getElem? (i := 2) rfl)) (hw _ (List.mem_of_getElem? (i := 5) rfl)) (by decide) e25 (rm1 l Z a0 hw a h0.size top h25 q_a X_a F_a_logged F_a_places F_a_locals F_a_stack F_a_thisUninitialized F_a_initializationHandler F_a_namedAt F_a_active TP Zn_a) (by rw [hml]; rfl) pd_1 rfl rfl (hb hby at_32) rfl (by decide) rfl (by decide) (by decide) (by decide) ?_
  rintro _ T32 L32 ⟨rfl, N_a, K_a, U_a, H_a⟩ X32
  show Ends p e below s (Q0 Z p1 p2 p3 top h0) room_1.cells room_1.slots (T32.setTop (mkF m 35 #[.val (.int p1), .val (.int p2), .val (.int p3), .val (.int us), .val (.int uo), .unset, .unset, .unset, .unset, .unset, .unset] [(.ref a)]))
  replace N := N.app N_a
  have Z_a : h0.size ≤ T32.heap.size := Nat.le_trans Zn_a K_a.1
  replace TP := own_staKX TP K_a X_a
  replace X_a := X_a.keep K_a
  refine o_astore (Ls' := #[.val (.int p1), .val (.int p2), .val (.int p3), .val (.int us), .val (.int uo), .val (.ref a), .unset, .unset, .unset, .unset, .unset]) (pc' := 37) X32 hx (hb hby at_35) rfl rfl rfl ?_
  refine o_new (pc' := 40) X32 hx hZ hown (hw _ (List.mem_of_getElem? (i := 0) rfl)) (hw _ (List.mem_of_getElem? (i := 1) rfl)) (hw _ (List.mem_of_getElem? (i := 2) rfl)) rfl (hb hby at_37) rfl (by decide) (by decide) ?_
  intro T37 h37 b g_b e37 E37 X_b D_b X37
  have n_a_b : a ≠ b := by rw [g_b]; exact Nat.ne_of_lt X_a.lt
  replace TP := TP.ext E37
  replace X_a := X_a.ext E37
  replace U_a := U_a.ext E37
  replace H_a := H_a.ext E37
  have F_b_logged : Fld Z h37 b "com/example/ubver/ubver/verifier/TypeState" "logged" "[I" .null := D_b (Or.inl (hw _ (List.mem_of_getElem? (i := 49) rfl))) (ty := (.array .int)) (by decide)
  have F_b_places : Fld Z h37 b "com/example/ubver/ubver/verifier/TypeState" "places" "[I" .null := D_b (Or.inr (hw _ (List.mem_of_getElem? (i := 51) rfl))) (ty := (.array .int)) (by decide)
  have F_b_locals : Fld Z h37 b "com/example/ubver/ubver/verifier/TypeState" "locals" "[Lcom/example/ubver/ubver/verifier/VerificationType;" .null := D_b (Or.inr (hw _ (List.mem_of_getElem? (i := 55) rfl))) (ty := (.array (.object "com/example/ubver/ubver/verifier/VerificationType"))) (by decide)
  have F_b_stack : Fld Z h37 b "com/example/ubver/ubver/verifier/TypeState" "stack" "[Lcom/example/ubver/ubver/verifier/VerificationType;" .null := D_b (Or.inr (hw _ (List.mem_of_getElem? (i := 57) rfl))) (ty := (.array (.object "com/example/ubver/ubver/verifier/VerificationType"))) (by decide)
  have F_b_thisUninitialized : Fld Z h37 b "com/example/ubver/ubver/verifier/TypeState" "thisUninitialized" "Z" (.int (0 : Int32)) := D_b (Or.inl (hw _ (List.mem_of_getElem? (i := 73) rfl))) (ty := .boolean) (by decide)
  have F_b_initializationHandler : Fld Z h37 b "com/example/ubver/ubver/verifier/InferredState" "initializationHandler" "I" (.int (0 : Int32)) := D_b (Or.inl (hw _ (List.mem_of_getElem? (i := 66) rfl))) (ty := .int) (by decide)
  have F_b_namedAt : Fld Z h37 b "com/example/ubver/ubver/verifier/InferredState" "namedAt" "I" (.int (0 : Int32)) := D_b (Or.inl (hw _ (List.mem_of_getElem? (i := 68) rfl))) (ty := .int) (by decide)
  have F_b_active : Fld Z h37 b "com/example/ubver/ubver/verifier/InferredState" "active" "Lcom/example/ubver/ubver/verifier/ActiveSubroutines;" .null := D_b (Or.inl (hw _ (List.mem_of_getElem? (i := 70) rfl))) (ty := (.object "com/example/ubver/ubver/verifier/ActiveSubroutines")) (by decide)
  have q_b : h0.size ≤ b := by rw [g_b]; exact Z_a
  have Zn_b : h0.size ≤ h37.size := Nat.le_trans Z_a E37.1
  refine o_dup (pc' := 41) X37 hx (hb hby at_40) rfl rfl ?_
  refine o_aconstNull (pc' := 42) X37 hx (hb hby at_41) rfl ?_
  refine o_iconst (v := (0 : Int32)) (pc' := 43) X37 hx (hb hby at_42) (by decide) rfl ?_
  refine o_iconst (v := (0 : Int32)) (pc' := 44) X37 hx (hb hby at_43) (by decide) rfl ?_
  refine o_callC (W := 1) (pc' := 47) (rm := ({ frames := 5, cells := 5, slots := 23, locals := 68 } : Room)) (a := b) (argsL := [.null, (.int (0 : Int32)), (.int (0 : Int32))]) (rest := [(.ref b)]) X37 hx hZ rfl hown (hw _ (List.mem_of_getElem? (i := 3) rfl)) (hw _ (List.mem_of_getElem? (i := 4) rfl)) (hw _ (List.mem_of_getElem? (i := 2) rfl)) (hw _ (List.mem_of_getElem? (i := 5) rfl)) (by decide) e37 (rm1 l Z a0 hw b h0.size top h37 q_b X_b F_b_logged F_b_places F_b_locals F_b_stack F_b_thisUninitialized F_b_initializationHandler F_b_namedAt F_b_active TP Zn_b) (by rw [hml]; rfl) pd_1 rfl rfl (hb hby at_44) rfl (by decide) rfl (by decide) (by decide) (by decide) ?_
  rintro _ T44 L44 ⟨rfl, N_b, K_b, U_b, H_b⟩ X44
  show Ends p e below s (Q0 Z p1 p2 p3 top h0) room_1.cells room_1.slots (T44.setTop (mkF m 47 #[.val (.int p1), .val (.int p2), .val (.int p3), .val (.int us), .val (.int uo), .val (.ref a), .unset, .unset, .unset, .unset, .unset] [(.ref b)]))
  replace N := N.app N_b
  have Z_b : h0.size ≤ T44.heap.size := Nat.le_trans Zn_b K_b.1
  replace TP := own_staKX TP K_b X_b
  replace X_a := X_a.keep K_b
  replace U_a := U_a.keep K_b (ninS n_a_b nin0)
  replace H_a := H_a.keep K_b (ninS n_a_b nin0)
  replace X_b := X_b.keep K_b
  refine o_astore (Ls' := #[.val (.int p1), .val (.int p2), .val (.int p3), .val (.int us), .val (.int uo), .val (.ref a), .val (.ref b), .unset, .unset, .unset, .unset]) (pc' := 49) X44 hx (hb hby at_47) rfl rfl rfl ?_
  refine o_aload (pc' := 51) X44 hx (hb hby at_49) rfl rfl rfl ?_
  refine o_iloadN (pc' := 52) X44 hx (hb hby at_51) rfl rfl ?_
  refine o_putF (pc' := 55) (ty := .boolean) X44 hx hZ hown (hw _ (List.mem_of_getElem? (i := 71) rfl)) (Via.of (hw _ (List.mem_of_getElem? (i := 72) rfl))) rfl U_a X_a (Or.inl (hw _ (List.mem_of_getElem? (i := 73) rfl))) (hw _ (List.mem_of_getElem? (i := 1) rfl)) (by decide) (own_nar bu) (own_fit bu) (hb hby at_52) rfl ?_
  intro T52 h52 e52 W52 X52
  replace N := Fr.snoc X52 N q_a
  replace TP := TP.wr W52
  replace X_a := X_a.wr W52
  replace U_a := U_a.same W52
  replace H_a := H_a.other W52 (Or.inr (slot_ne (C := "com/example/ubver/ubver/verifier/InferredState") (t := .int) (t' := .boolean) (Or.inl (hw _ (List.mem_of_getElem? (i := 66) rfl))) (Or.inl (hw _ (List.mem_of_getElem? (i := 73) rfl))) (by decide) (by decide) (by decide)))
  replace X_b := X_b.wr W52
  replace U_b := U_b.other W52 (Or.inl (Ne.symm n_a_b))
  replace H_b := H_b.other W52 (Or.inl (Ne.symm n_a_b))
  refine o_aload (pc' := 57) X52 hx (hb hby at_55) rfl rfl rfl ?_
  refine o_iloadN (pc' := 58) X52 hx (hb hby at_57) rfl rfl ?_
  refine o_putF (pc' := 61) (ty := .int) X52 hx hZ hown (hw _ (List.mem_of_getElem? (i := 74) rfl)) Via.refl e52 H_a X_a (Or.inl (hw _ (List.mem_of_getElem? (i := 66) rfl))) (hw _ (List.mem_of_getElem? (i := 1) rfl)) (by decide) rfl rfl (hb hby at_58) rfl ?_
  intro T58 h58 e58 W58 X58
  replace N := Fr.snoc X58 N q_a
  replace TP := TP.wr W58
  replace X_a := X_a.wr W58
  replace U_a := U_a.other W58 (Or.inr (slot_ne (C := "com/example/ubver/ubver/verifier/InferredState") (t := .boolean) (t' := .int) (Or.inl (hw _ (List.mem_of_getElem? (i := 73) rfl))) (Or.inl (hw _ (List.mem_of_getElem? (i := 66) rfl))) (by decide) (by decide) (by decide)))
  replace H_a := H_a.same W58
  replace X_b := X_b.wr W58
  replace U_b := U_b.other W58 (Or.inl (Ne.symm n_a_b))
  replace H_b := H_b.other W58 (Or.inl (Ne.symm n_a_b))
  refine o_aload (pc' := 63) X58 hx (hb hby at_61) rfl rfl rfl ?_
  refine o_iload (pc' := 65) X58 hx (hb hby at_63) rfl rfl ?_
  refine o_putF (pc' := 68) (ty := .boolean) X58 hx hZ hown (hw _ (List.mem_of_getElem? (i := 71) rfl)) (Via.of (hw _ (List.mem_of_getElem? (i := 72) rfl))) e58 U_b X_b (Or.inl (hw _ (List.mem_of_getElem? (i := 73) rfl))) (hw _ (List.mem_of_getElem? (i := 1) rfl)) (by decide) (own_nar bo) (own_fit bo) (hb hby at_65) rfl ?_
  intro T65 h65 e65 W65 X65
  replace N := Fr.snoc X65 N q_b
  replace TP := TP.wr W65
  replace X_a := X_a.wr W65
  replace U_a := U_a.other W65 (Or.inl n_a_b)
  replace H_a := H_a.other W65 (Or.inl n_a_b)
  replace X_b := X_b.wr W65
  replace U_b := U_b.same W65
  replace H_b := H_b.other W65 (Or.inr (slot_ne (C := "com/example/ubver/ubver/verifier/InferredState") (t := .int) (t' := .boolean) (Or.inl (hw _ (List.mem_of_getElem? (i := 66) rfl))) (Or.inl (hw _ (List.mem_of_getElem? (i := 73) rfl))) (by decide) (by decide) (by decide)))
  refine o_aload (pc' := 70) X65 hx (hb hby at_68) rfl rfl rfl ?_
  refine o_iloadN (pc' := 71) X65 hx (hb hby at_70) rfl rfl ?_
  refine o_putF (pc' := 74) (ty := .int) X65 hx hZ hown (hw _ (List.mem_of_getElem? (i := 74) rfl)) Via.refl e65 H_b X_b (Or.inl (hw _ (List.mem_of_getElem? (i := 66) rfl))) (hw _ (List.mem_of_getElem? (i := 1) rfl)) (by decide) rfl rfl (hb hby at_71) rfl ?_
  intro T71 h71 e71 W71 X71
  replace N := Fr.snoc X71 N q_b
  replace TP := TP.wr W71
  replace X_a := X_a.wr W71
  replace U_a := U_a.other W71 (Or.inl n_a_b)
  replace H_a := H_a.other W71 (Or.inl n_a_b)
  replace X_b := X_b.wr W71
  replace U_b := U_b.other W71 (Or.inr (slot_ne (C := "com/example/ubver/ubver/verifier/InferredState") (t := .boolean) (t' := .int) (Or.inl (hw _ (List.mem_of_getElem? (i := 73) rfl))) (Or.inl (hw _ (List.mem_of_getElem? (i := 66) rfl))) (by decide) (by decide) (by decide)))
  replace H_b := H_b.same W71
  refine o_aload (pc' := 76) X71 hx (hb hby at_74) rfl rfl rfl ?_
  refine o_aload (pc' := 78) X71 hx (hb hby at_76) rfl rfl rfl ?_
  refine o_callV (W := 0) (pc' := 81) (rm := ({ frames := 0, cells := 0, slots := 0, locals := 0 } : Room)) (argsL := [(.ref b)]) (rest := []) X71 hx hZ hown (hw _ (List.mem_of_getElem? (i := 75) rfl)) (hw _ (List.mem_of_getElem? (i := 76) rfl)) (hw _ (List.mem_of_getElem? (i := 78) rfl)) (hw _ (List.mem_of_getElem? (i := 77) rfl)) (hw _ (List.mem_of_getElem? (i := 2) rfl)) (hw _ (List.mem_of_getElem? (i := 79) rfl)) (by decide) e71 X_a (rm10 l Z a0 hw a b h0.size us p2 uo p3 h71 q_a n_a_b X_a U_a H_a U_b H_b) (by rw [hml]; rfl) pd_10 rfl rfl (hb hby at_78) rfl (by decide) rfl (by decide) (by decide) (by decide) ?_
  rintro _ T78 L78 ⟨rfl, Nm, Km, G1, G2⟩ X78
  show Ends p e below s (Q0 Z p1 p2 p3 top h0) room_1.cells room_1.slots (T78.setTop (mkF m 81 #[.val (.int p1), .val (.int p2), .val (.int p3), .val (.int us), .val (.int uo), .val (.ref a), .val (.ref b), .unset, .unset, .unset, .unset] [(.int (fch us p2 uo p3))]))
  replace N := N.app Nm
  replace TP := own_staKX TP Km X_a
  replace X_a := X_a.keep Km
  replace X_b := X_b.keep Km
  replace U_b := U_b.keep Km (ninS (Ne.symm n_a_b) nin0)
  replace H_b := H_b.keep Km (ninS (Ne.symm n_a_b) nin0)
  generalize hch : fch us p2 uo p3 = ch
  refine o_istore (Ls' := #[.val (.int p1), .val (.int p2), .val (.int p3), .val (.int us), .val (.int uo), .val (.ref a), .val (.ref b), .val (.int ch), .unset, .unset, .unset]) (pc' := 83) X78 hx (hb hby at_81) rfl rfl ?_
  refine o_iloadN (pc' := 84) X78 hx (hb hby at_83) rfl rfl ?_
  obtain ⟨eu, heu⟩ : ∃ z : Int32, z = (if us = (0 : Int32) then (if uo = (0 : Int32) then (0 : Int32) else (1 : Int32)) else (1 : Int32)) := ⟨_, rfl⟩
  suffices J97 : Ends p e below s (Q0 Z p1 p2 p3 top h0) room_1.cells room_1.slots (T78.setTop (mkF m 97 #[.val (.int p1), .val (.int p2), .val (.int p3), .val (.int us), .val (.int uo), .val (.ref a), .val (.ref b), .val (.int ch), .unset, .unset, .unset] [(.int eu)])) by
    refine o_if_ne (p1 := 87) (p2 := 92) X78 hx (hb hby at_84) rfl (by decide) (by decide) (fun hc84 => ?_) (fun hc84 => ?_)
    · refine o_iconst (v := (1 : Int32)) (pc' := 93) X78 hx (hb hby at_92) (by decide) rfl ?_
      refine o_goto (pc' := 97) X78 hx (hb hby at_93) (by decide) (by decide) ?_
      simp only [heu, if_neg hc84] at J97; exact J97
    · refine o_iload (pc' := 89) X78 hx (hb hby at_87) rfl rfl ?_
      refine o_if_eq (p1 := 92) (p2 := 96) X78 hx (hb hby at_89) rfl (by decide) (by decide) (fun hc89 => ?_) (fun hc89 => ?_)
      · refine o_iconst (v := (0 : Int32)) (pc' := 97) X78 hx (hb hby at_96) (by decide) rfl ?_
        simp only [heu, if_pos hc84, if_pos hc89] at J97; exact J97
      · refine o_iconst (v := (1 : Int32)) (pc' := 93) X78 hx (hb hby at_92) (by decide) rfl ?_
        refine o_goto (pc' := 97) X78 hx (hb hby at_93) (by decide) (by decide) ?_
        simp only [heu, if_pos hc84, if_neg hc89] at J97; exact J97
  refine o_istore (Ls' := #[.val (.int p1), .val (.int p2), .val (.int p3), .val (.int us), .val (.int uo), .val (.ref a), .val (.ref b), .val (.int ch), .val (.int eu), .unset, .unset]) (pc' := 99) X78 hx (hb hby at_97) rfl rfl ?_
  refine o_iloadN (pc' := 100) X78 hx (hb hby at_99) rfl rfl ?_
  refine o_istore (Ls' := #[.val (.int p1), .val (.int p2), .val (.int p3), .val (.int us), .val (.int uo), .val (.ref a), .val (.ref b), .val (.int ch), .val (.int eu), .val (.int p2), .unset]) (pc' := 102) X78 hx (hb hby at_100) rfl rfl ?_
  refine o_iloadN (pc' := 103) X78 hx (hb hby at_102) rfl rfl ?_
  obtain ⟨eh, heh⟩ : ∃ z : Int32, z = (if p2 < (0 : Int32) then (if p3 < (0 : Int32) then p2 else p3) else p2) := ⟨_, rfl⟩
  suffices J113 : Ends p e below s (Q0 Z p1 p2 p3 top h0) room_1.cells room_1.slots (T78.setTop (mkF m 113 #[.val (.int p1), .val (.int p2), .val (.int p3), .val (.int us), .val (.int uo), .val (.ref a), .val (.ref b), .val (.int ch), .val (.int eu), .val (.int eh), .unset] [])) by
    refine o_if_ge (p1 := 106) (p2 := 113) X78 hx (hb hby at_103) rfl (by decide) (by decide) (fun hc103 => ?_) (fun hc103 => ?_)
    · simp only [heh, if_neg hc103] at J113; exact J113
    · refine o_iloadN (pc' := 107) X78 hx (hb hby at_106) rfl rfl ?_
      refine o_if_lt (p1 := 110) (p2 := 113) X78 hx (hb hby at_107) rfl (by decide) (by decide) (fun hc107 => ?_) (fun hc107 => ?_)
      · simp only [heh, if_pos hc103, if_pos hc107] at J113; exact J113
      · refine o_iloadN (pc' := 111) X78 hx (hb hby at_110) rfl rfl ?_
        refine o_istore (Ls' := #[.val (.int p1), .val (.int p2), .val (.int p3), .val (.int us), .val (.int uo), .val (.ref a), .val (.ref b), .val (.int ch), .val (.int eu), .val (.int p3), .unset]) (pc' := 113) X78 hx (hb hby at_111) rfl rfl ?_
        simp only [heh, if_pos hc103, if_neg hc107] at J113; exact J113
  refine o_iload (pc' := 115) X78 hx (hb hby at_113) rfl rfl ?_
  refine o_iloadN (pc' := 116) X78 hx (hb hby at_115) rfl rfl ?_
  obtain ⟨ec, hec⟩ : ∃ z : Int32, z = (if eu = us then (if eh = p2 then (0 : Int32) else (1 : Int32)) else (1 : Int32)) := ⟨_, rfl⟩
  suffices J130 : Ends p e below s (Q0 Z p1 p2 p3 top h0) room_1.cells room_1.slots (T78.setTop (mkF m 130 #[.val (.int p1), .val (.int p2), .val (.int p3), .val (.int us), .val (.int uo), .val (.ref a), .val (.ref b), .val (.int ch), .val (.int eu), .val (.int eh), .unset] [(.int ec)])) by
    refine o_icmp_ne (p1 := 119) (p2 := 125) X78 hx (hb hby at_116) rfl (by decide) (by decide) (fun hc116 => ?_) (fun hc116 => ?_)
    · refine o_iconst (v := (1 : Int32)) (pc' := 126) X78 hx (hb hby at_125) (by decide) rfl ?_
      refine o_goto (pc' := 130) X78 hx (hb hby at_126) (by decide) (by decide) ?_
      simp only [hec, if_neg hc116] at J130; exact J130
    · refine o_iload (pc' := 121) X78 hx (hb hby at_119) rfl rfl ?_
      refine o_iloadN (pc' := 122) X78 hx (hb hby at_121) rfl rfl ?_
      refine o_icmp_eq (p1 := 125) (p2 := 129) X78 hx (hb hby at_122) rfl (by decide) (by decide) (fun hc122 => ?_) (fun hc122 => ?_)
      · refine o_iconst (v := (0 : Int32)) (pc' := 130) X78 hx (hb hby at_129) (by decide) rfl ?_
        simp only [hec, if_pos hc116, if_pos hc122] at J130; exact J130
      · refine o_iconst (v := (1 : Int32)) (pc' := 126) X78 hx (hb hby at_125) (by decide) rfl ?_
        refine o_goto (pc' := 130) X78 hx (hb hby at_126) (by decide) (by decide) ?_
        simp only [hec, if_pos hc116, if_neg hc122] at J130; exact J130
  refine o_istore (Ls' := #[.val (.int p1), .val (.int p2), .val (.int p3), .val (.int us), .val (.int uo), .val (.ref a), .val (.ref b), .val (.int ch), .val (.int eu), .val (.int eh), .val (.int ec)]) (pc' := 132) X78 hx (hb hby at_130) rfl rfl ?_
  refine o_iload (pc' := 134) X78 hx (hb hby at_132) rfl rfl ?_
  refine o_iload (pc' := 136) X78 hx (hb hby at_134) rfl rfl ?_
  have key := own_fin us uo p2 p3 eu eh ec bu bo heu heh hec
  refine o_icmp_ne (p1 := 139) (p2 := 182) X78 hx (hb hby at_136) rfl (by decide) (by decide) (fun hc136 => absurd (hch ▸ key.1) hc136) (fun hc136 => ?_)
  refine o_aload (pc' := 141) X78 hx (hb hby at_139) rfl rfl rfl ?_
  refine o_getF (pc' := 144) X78 hx hZ hown (hw _ (List.mem_of_getElem? (i := 71) rfl)) (Via.of (hw _ (List.mem_of_getElem? (i := 72) rfl))) rfl G1 (hb hby at_141) rfl ?_
  intro T141 e141 X141
  refine o_iload (pc' := 146) X141 hx (hb hby at_144) rfl rfl ?_
  refine o_icmp_ne (p1 := 149) (p2 := 182) X141 hx (hb hby at_146) rfl (by decide) (by decide) (fun hc146 => absurd key.2.1 hc146) (fun hc146 => ?_)
  refine o_aload (pc' := 151) X141 hx (hb hby at_149) rfl rfl rfl ?_
  refine o_getF (pc' := 154) X141 hx hZ hown (hw _ (List.mem_of_getElem? (i := 74) rfl)) Via.refl e141 G2 (hb hby at_151) rfl ?_
  intro T151 e151 X151
  refine o_iload (pc' := 156) X151 hx (hb hby at_154) rfl rfl ?_
  refine o_icmp_ne (p1 := 159) (p2 := 182) X151 hx (hb hby at_156) rfl (by decide) (by decide) (fun hc156 => absurd key.2.2 hc156) (fun hc156 => ?_)
  refine o_aload (pc' := 161) X151 hx (hb hby at_159) rfl rfl rfl ?_
  refine o_getF (pc' := 164) X151 hx hZ hown (hw _ (List.mem_of_getElem? (i := 71) rfl)) (Via.of (hw _ (List.mem_of_getElem? (i := 72) rfl))) e151 U_b (hb hby at_161) rfl ?_
  intro T161 e161 X161
  refine o_iload (pc' := 166) X161 hx (hb hby at_164) rfl rfl ?_
  refine o_icmp_ne (p1 := 169) (p2 := 182) X161 hx (hb hby at_166) rfl (by decide) (by decide) (fun hc166 => absurd rfl hc166) (fun hc166 => ?_)
  refine o_aload (pc' := 171) X161 hx (hb hby at_169) rfl rfl rfl ?_
  refine o_getF (pc' := 174) X161 hx hZ hown (hw _ (List.mem_of_getElem? (i := 74) rfl)) Via.refl e161 H_b (hb hby at_171) rfl ?_
  intro T171 e171 X171
  refine o_iloadN (pc' := 175) X171 hx (hb hby at_174) rfl rfl ?_
  refine o_icmp_ne (p1 := 178) (p2 := 182) X171 hx (hb hby at_175) rfl (by decide) (by decide) (fun hc175 => absurd rfl hc175) (fun hc175 => ?_)
  refine o_iconst (v := (1 : Int32)) (pc' := 179) X171 hx (hb hby at_178) (by decide) rfl ?_
  refine o_goto (pc' := 183) X171 hx (hb hby at_179) (by decide) (by decide) ?_
  exact o_retZ X171 hx hlk hret (hb hby at_183) (by decide) ⟨rfl, by first | exact N | simpa using N⟩ (by decide) (by decide)
set_option maxRecDepth 65536 in
set_option maxHeartbeats 40000000 in
theorem comes_1 {Post : Tables → Env → Array Value → State → Outcome → State → Prop} (hpost : ∀ tb e args s v u, (limb_1_1.after args s (.returned v) u = true ∧ limb_1_2.after args s (.returned v) u = true ∧ True) → FrameEnd s (.returned v) u (Jvm.fieldLocs frame_1_writes args s ++ Jvm.arrayLocs frame_1_arrays args s ++ Jvm.staticLocs frame_1_statics s) 32 256 → Post tb e args s (.returned v) u) :
    ArmFor flags0 classFile x code maxLocals ret World_1 tables_1 room_1 Calls_1 rest_1 Pre_1 Post := by
  intro l hfl _ _ p e ha hc hk s m args below hf hA hF happ hP
  obtain ⟨hcalls, hrest, hpre⟩ := hP
  obtain ⟨-, -, -, hnamed, -, -, -, hat⟩ := (Spec.applies_iff hf).mp happ
  obtain ⟨hg, hn⟩ := and_e (Cond.before_iff.mp (show (Jvm.Cond.and given_1 narrow_1).before args s = true from hpre))
  obtain ⟨g0, gr0⟩ := and_e hg
  obtain ⟨g1, gr1⟩ := and_e gr0
  obtain ⟨g2, gr2⟩ := and_e gr1
  obtain ⟨w0, w1, w2, rfl⟩ : ∃ w0 w1 w2 : Value, args = #[w0, w1, w2] := by
    have hs : args.size = 3 := by simpa [Cond.value, given_1] using g0
    obtain ⟨L⟩ := args
    match L, hs with
    | [w0, w1, w2], _ => exact ⟨w0, w1, w2, rfl⟩
  have hw := fun d (hd : d ∈ tables_1) => atoms_spec (ws := Jvm.Cond.code x code maxLocals ret :: tables_1) hat d (List.mem_cons_of_mem _ hd)
  have hfit : Fit s := fun {y c} hc i hi => by
    obtain ⟨ha, rfl⟩ := Array.getElem?_eq_some_iff.mp hc
    have q := List.all_eq_true.mp ((Array.all_eq_true_iff_forall_mem.mp hF) _ (Array.getElem_mem ha)) i (List.mem_range.mpr hi)
    simpa [Array.getElem?_eq_getElem hi] using q
  obtain ⟨i0, ei0⟩ := is_v g1
  obtain rfl : w0 = (.int i0) := Option.some.inj ei0
  obtain ⟨i1, ei1⟩ := is_v g2
  obtain rfl : w1 = (.int i1) := Option.some.inj ei1
  obtain ⟨i2, ei2⟩ := is_v gr2
  obtain rfl : w2 = (.int i2) := Option.some.inj ei2
  obtain ⟨top, et⟩ := exa_v hn
  obtain ⟨n, o, h1, h2, h3, _, L, rfl, ⟨rfl, N⟩, hq⟩ := rm0 l s _ hw i0 i1 i2 top s.heap (Sta.start et (Or.inr ⟨(hw _ (List.mem_of_getElem? (i := 59) rfl)), (hw _ (List.mem_of_getElem? (i := 60) rfl))⟩)) tables_1 p e ha hc hk s m _ below hf ((Spec.applies_iff_loose hf).mp happ).1 ⟨rfl, State.Warmed39.refl s, rfl⟩ trivial
  refine ⟨n, _, h1, h2, h3, hpost _ _ _ _ _ _ ⟨Cond.after_iff.mpr rfl, Cond.after_iff.mpr (eq_i res_at (Term.int_eval (1)) rfl), trivial⟩ ⟨hq.1, hq.2.1, (hq.2.2.sift fun y hy => Or.inr (N y hy)).mono (by decide) (by decide)⟩⟩
theorem main_1_1 : Claimed_1_1 := comes_1 fun _ _ _ _ _ _ h hF => ⟨h.1, hF⟩
theorem main_1_2 : Claimed_1_2 := comes_1 fun _ _ _ _ _ _ h hF => ⟨h.2.1, hF⟩
end Jvm.Pilot.@@N@@
namespace Jvm.Pilot.@@N@@
open Jvm Jvm.ClassFile Sem Op Lib Jvm.Free Jvm.Stand Jvm.Pilot.@@N@@.Jvm.D
/-! MADE BY PROGRAM (witnessworld.py) out of the Statement's table words and the real class files: 20 classes; the members and pool entries that the words name. The judged class is class 1, her method 1. -/
namespace start1
open Jvm.ClassFile
def u (s : String) : CpInfo := .utf8 (stringToUtf16 s)
/-- a pool by its gaps: so many unusable entries, then the entry; so many at the end -/
def gap : Nat → List CpInfo → List CpInfo
  | 0, r => r
  | n + 1, r => .unusable :: gap n r
def poolList (es : List (Nat × CpInfo)) (last : Nat) : List CpInfo := es.foldr (fun e r => gap e.1 (e.2 :: r)) (gap last [])
def pool (es : List (Nat × CpInfo)) (last : Nat) : Array CpInfo := ⟨poolList es last⟩
def fileOf (pool : Array CpInfo) (this : Nat) (attrs : Array Attribute := #[]) (ms : Array MethodInfo := #[]) (fl : Nat := 33) (sup : Nat := 0) (ifs : Array Nat := #[]) (fds : Array FieldInfo := #[]) : ClassFile where
  minorVersion := 0
  majorVersion := 65
  constantPool := pool
  accessFlags := fl
  thisClass := this
  superClass := sup
  interfaces := ifs
  fields := fds
  methods := ms
  attributes := attrs
def plain (name : String) (sup : Option ClassId) : Class where
  name := name
  kind := .ordinary
  loader := none
  accessFlags := 33
  super := sup
  interfaces := #[]
  cf := none
  fields := #[]
  methods := #[]
  instanceTypes := #[]
  staticTypes := #[]
  resolved := #[]
  callSites := []
  init := .initialized
  statics := none
  mirror := none

def pool0 : Array CpInfo := pool [(5, u "<init>"), (0, u "()V"), (1, .class_ 10), (1, u "java/lang/Object")] 113

def k0c0 : Code := { maxStack := 0, maxLocals := 1, code := object_method_1_code, exceptionTable := #[], attributes := #[] }
def k0m0 : Method := { name := "<init>", desc := "()V", sig := { parameters := [], returnType := none }, accessFlags := 1, code := some k0c0 }
/-- java/lang/Object -/
def k0 : Class := { plain "java/lang/Object" none with
  accessFlags := 33
  interfaces := #[]
  cf := some (fileOf pool0 8 #[] #[{ accessFlags := 1, nameIndex := 5, descriptorIndex := 6, attributes := #[] }] 33 0 #[] #[])
  fields := #[]
  methods := #[k0m0]
  instanceTypes := #[]
  staticTypes := #[]
  resolved := Array.replicate 124 none
  statics := none }

def pool1 : Array CpInfo := pool [(2, .class_ 4), (1, u "java/lang/Object"), (0, u "<init>"), (0, u "()V"), (0, .class_ 8), (0, u "com/example/ubver/ubver/verifier/InferredState"), (0, .methodref 7 10), (0, .nameAndType 5 11), (0, u "([III)V"), (0, .fieldref 7 13), (0, .nameAndType 14 15), (0, u "thisUninitialized"), (0, u "Z"), (0, .fieldref 7 17), (0, .nameAndType 18 19), (0, u "initializationHandler"), (0, u "I"), (0, .methodref 7 21), (0, .nameAndType 22 23), (0, u "mergeInitialization"), (0, u "(Lcom/example/ubver/ubver/verifier/InferredState;)Z"), (0, .class_ 25), (0, u "com/example/ubver/ubver/verifier/InferredStateMergeInitializationPinLaw"), (2, u "law"), (0, u "(III)Z")] 3

def k1m0 : Method := { name := "<init>", desc := "()V", sig := { parameters := [], returnType := none }, accessFlags := 1, code := none }
def k1c1 : Code := { maxStack := 5, maxLocals := 11, code := code, exceptionTable := #[], attributes := #[] }
def k1m1 : Method := { name := "law", desc := "(III)Z", sig := { parameters := [.int, .int, .int], returnType := some .boolean }, accessFlags := 9, code := some k1c1 }
/-- com/example/ubver/ubver/verifier/InferredStateMergeInitializationPinLaw -/
def k1 : Class := { plain "com/example/ubver/ubver/verifier/InferredStateMergeInitializationPinLaw" (some 0) with
  accessFlags := 49
  interfaces := #[]
  cf := some (fileOf pool1 24 #[] #[{ accessFlags := 1, nameIndex := 5, descriptorIndex := 6, attributes := #[] }, { accessFlags := 9, nameIndex := 28, descriptorIndex := 29, attributes := #[] }] 49 2 #[] #[])
  fields := #[]
  methods := #[k1m0, k1m1]
  instanceTypes := #[]
  staticTypes := #[]
  resolved := Array.replicate 33 none
  statics := none }

def pool2 : Array CpInfo := pool [(2, .class_ 4), (1, u "com/example/ubver/ubver/verifier/TypeState"), (0, u "<init>"), (0, u "([III)V"), (0, .methodref 8 9), (0, .class_ 10), (0, .nameAndType 5 11), (0, u "java/lang/Object"), (0, u "()V"), (0, .fieldref 2 13), (0, .nameAndType 14 15), (0, u "logged"), (0, u "[I"), (0, .fieldref 2 17), (0, .nameAndType 18 15), (0, u "places"), (0, .class_ 20), (0, u "com/example/ubver/ubver/verifier/VerificationType"), (0, .fieldref 2 22), (0, .nameAndType 23 24), (0, u "locals"), (0, u "[Lcom/example/ubver/ubver/verifier/VerificationType;"), (0, .fieldref 2 26), (0, .nameAndType 27 24), (0, u "stack"), (0, .fieldref 29 30), (0, .class_ 31), (0, .nameAndType 32 33), (0, u "com/example/ubver/ubver/verifier/VerificationType$Simple"), (0, u "TOP"), (0, u "Lcom/example/ubver/ubver/verifier/VerificationType$Simple;"), (0, .methodref 35 36), (0, .class_ 37), (0, .nameAndType 38 39), (0, u "java/util/Arrays"), (0, u "fill"), (0, u "([Ljava/lang/Object;Ljava/lang/Object;)V"), (14, u "changes"), (0, u "I"), (2, u "overwrites"), (9, u "loggedCount"), (6, u "depth"), (10, u "thisUninitialized"), (0, u "Z")] 18

def k2c0 : Code := { maxStack := 2, maxLocals := 4, code := prog_124_method_2_code, exceptionTable := #[], attributes := #[] }
def k2m0 : Method := { name := "<init>", desc := "([III)V", sig := { parameters := [(.array .int), .int, .int], returnType := none }, accessFlags := 0, code := some k2c0 }
/-- com/example/ubver/ubver/verifier/TypeState -/
def k2 : Class := { plain "com/example/ubver/ubver/verifier/TypeState" (some 0) with
  accessFlags := 32
  interfaces := #[]
  cf := some (fileOf pool2 2 #[] #[{ accessFlags := 0, nameIndex := 5, descriptorIndex := 6, attributes := #[] }] 32 8 #[] #[{ accessFlags := 16, nameIndex := 23, descriptorIndex := 24, attributes := #[] }, { accessFlags := 16, nameIndex := 27, descriptorIndex := 24, attributes := #[] }, { accessFlags := 0, nameIndex := 75, descriptorIndex := 55, attributes := #[] }, { accessFlags := 0, nameIndex := 86, descriptorIndex := 87, attributes := #[] }, { accessFlags := 0, nameIndex := 54, descriptorIndex := 55, attributes := #[] }, { accessFlags := 0, nameIndex := 58, descriptorIndex := 55, attributes := #[] }, { accessFlags := 16, nameIndex := 18, descriptorIndex := 15, attributes := #[] }, { accessFlags := 2, nameIndex := 14, descriptorIndex := 15, attributes := #[] }, { accessFlags := 2, nameIndex := 68, descriptorIndex := 55, attributes := #[] }])
  fields := #[{ name := "locals", type := (.array (.object "com/example/ubver/ubver/verifier/VerificationType")), accessFlags := 16, slot := 0, constantValue := 0 }, { name := "stack", type := (.array (.object "com/example/ubver/ubver/verifier/VerificationType")), accessFlags := 16, slot := 1, constantValue := 0 }, { name := "depth", type := .int, accessFlags := 0, slot := 2, constantValue := 0 }, { name := "thisUninitialized", type := .boolean, accessFlags := 0, slot := 3, constantValue := 0 }, { name := "changes", type := .int, accessFlags := 0, slot := 4, constantValue := 0 }, { name := "overwrites", type := .int, accessFlags := 0, slot := 5, constantValue := 0 }, { name := "places", type := (.array .int), accessFlags := 16, slot := 6, constantValue := 0 }, { name := "logged", type := (.array .int), accessFlags := 2, slot := 7, constantValue := 0 }, { name := "loggedCount", type := .int, accessFlags := 2, slot := 8, constantValue := 0 }]
  methods := #[k2m0]
  instanceTypes := #[(.array (.object "com/example/ubver/ubver/verifier/VerificationType")), (.array (.object "com/example/ubver/ubver/verifier/VerificationType")), .int, .boolean, .int, .int, (.array .int), (.array .int), .int]
  staticTypes := #[]
  resolved := Array.replicate 106 none
  statics := none }

def pool3 : Array CpInfo := pool [(1, .class_ 2), (0, u "com/example/ubver/ubver/verifier/PathWalk$PathState"), (0, .class_ 4), (0, u "java/lang/Object"), (16, .class_ 22), (0, u "com/example/ubver/ubver/verifier/PathWalk")] 2

/-- com/example/ubver/ubver/verifier/PathWalk$PathState -/
def k3 : Class := { plain "com/example/ubver/ubver/verifier/PathWalk$PathState" (some 0) with
  accessFlags := 1536
  interfaces := #[]
  cf := some (fileOf pool3 1 #[.nestHost 21] #[] 1536 3 #[] #[])
  fields := #[]
  methods := #[]
  instanceTypes := #[]
  staticTypes := #[]
  resolved := Array.replicate 25 none
  statics := none }

def pool4 : Array CpInfo := pool [(1, .methodref 2 3), (0, .class_ 4), (0, .nameAndType 5 6), (0, u "com/example/ubver/ubver/verifier/ActiveSubroutines"), (0, u "none"), (0, u "()Lcom/example/ubver/ubver/verifier/ActiveSubroutines;"), (0, .methodref 8 9), (0, .class_ 10), (0, .nameAndType 11 12), (0, u "com/example/ubver/ubver/verifier/InferredState"), (0, u "<init>"), (0, u "([IIILcom/example/ubver/ubver/verifier/ActiveSubroutines;)V"), (0, .methodref 14 15), (0, .class_ 16), (0, .nameAndType 11 17), (0, u "com/example/ubver/ubver/verifier/TypeState"), (0, u "([III)V"), (0, .fieldref 8 19), (0, .nameAndType 20 21), (0, u "initializationHandler"), (0, u "I"), (0, .fieldref 8 23), (0, .nameAndType 24 21), (0, u "namedAt"), (0, .fieldref 8 26), (0, .nameAndType 27 28), (0, u "active"), (0, u "Lcom/example/ubver/ubver/verifier/ActiveSubroutines;"), (14, u "[I"), (21, u "sources"), (2, u "setBySources"), (0, u "Ljava/util/BitSet;"), (16, .fieldref 8 87), (0, .nameAndType 88 89), (0, u "thisUninitialized"), (0, u "Z"), (2, u "usedDepth"), (4, u "content"), (0, u "J"), (42, u "mergeLog"), (51, .class_ 194), (0, u "com/example/ubver/ubver/verifier/PathWalk$PathState"), (0, u "MOST_SOURCES"), (19, u "mergeInitialization"), (0, u "(Lcom/example/ubver/ubver/verifier/InferredState;)Z")] 36

def k4c0 : Code := { maxStack := 5, maxLocals := 4, code := prog_83_method_1_code, exceptionTable := #[], attributes := #[] }
def k4m0 : Method := { name := "<init>", desc := "([III)V", sig := { parameters := [(.array .int), .int, .int], returnType := none }, accessFlags := 0, code := some k4c0 }
def k4c1 : Code := { maxStack := 4, maxLocals := 5, code := prog_83_method_2_code, exceptionTable := #[], attributes := #[] }
def k4m1 : Method := { name := "<init>", desc := "([IIILcom/example/ubver/ubver/verifier/ActiveSubroutines;)V", sig := { parameters := [(.array .int), .int, .int, (.object "com/example/ubver/ubver/verifier/ActiveSubroutines")], returnType := none }, accessFlags := 2, code := some k4c1 }
def k4c2 : Code := { maxStack := 2, maxLocals := 3, code := prog_83_method_23_code, exceptionTable := #[], attributes := #[] }
def k4m2 : Method := { name := "mergeInitialization", desc := "(Lcom/example/ubver/ubver/verifier/InferredState;)Z", sig := { parameters := [(.object "com/example/ubver/ubver/verifier/InferredState")], returnType := some .boolean }, accessFlags := 0, code := some k4c2 }
/-- com/example/ubver/ubver/verifier/InferredState -/
def k4 : Class := { plain "com/example/ubver/ubver/verifier/InferredState" (some 2) with
  accessFlags := 32
  interfaces := #[3]
  cf := some (fileOf pool4 8 #[] #[{ accessFlags := 0, nameIndex := 11, descriptorIndex := 17, attributes := #[] }, { accessFlags := 2, nameIndex := 11, descriptorIndex := 12, attributes := #[] }, { accessFlags := 0, nameIndex := 215, descriptorIndex := 216, attributes := #[] }] 32 14 #[193] #[{ accessFlags := 26, nameIndex := 195, descriptorIndex := 21, attributes := #[] }, { accessFlags := 0, nameIndex := 20, descriptorIndex := 21, attributes := #[] }, { accessFlags := 2, nameIndex := 27, descriptorIndex := 28, attributes := #[] }, { accessFlags := 2, nameIndex := 92, descriptorIndex := 43, attributes := #[] }, { accessFlags := 2, nameIndex := 97, descriptorIndex := 98, attributes := #[] }, { accessFlags := 2, nameIndex := 24, descriptorIndex := 21, attributes := #[] }, { accessFlags := 2, nameIndex := 65, descriptorIndex := 43, attributes := #[] }, { accessFlags := 2, nameIndex := 68, descriptorIndex := 69, attributes := #[] }, { accessFlags := 2, nameIndex := 141, descriptorIndex := 98, attributes := #[] }])
  fields := #[{ name := "MOST_SOURCES", type := .int, accessFlags := 26, slot := 0, constantValue := 0 }, { name := "initializationHandler", type := .int, accessFlags := 0, slot := 9, constantValue := 0 }, { name := "active", type := (.object "com/example/ubver/ubver/verifier/ActiveSubroutines"), accessFlags := 2, slot := 10, constantValue := 0 }, { name := "usedDepth", type := (.array .int), accessFlags := 2, slot := 11, constantValue := 0 }, { name := "content", type := .long, accessFlags := 2, slot := 12, constantValue := 0 }, { name := "namedAt", type := .int, accessFlags := 2, slot := 13, constantValue := 0 }, { name := "sources", type := (.array .int), accessFlags := 2, slot := 14, constantValue := 0 }, { name := "setBySources", type := (.object "java/util/BitSet"), accessFlags := 2, slot := 15, constantValue := 0 }, { name := "mergeLog", type := .long, accessFlags := 2, slot := 16, constantValue := 0 }]
  methods := #[k4m0, k4m1, k4m2]
  instanceTypes := #[(.array (.object "com/example/ubver/ubver/verifier/VerificationType")), (.array (.object "com/example/ubver/ubver/verifier/VerificationType")), .int, .boolean, .int, .int, (.array .int), (.array .int), .int, .int, (.object "com/example/ubver/ubver/verifier/ActiveSubroutines"), (.array .int), .long, .int, (.array .int), (.object "java/util/BitSet"), .long]
  staticTypes := #[.int]
  resolved := Array.replicate 253 none
  statics := none }

def pool5 : Array CpInfo := pool [(1, .methodref 2 3), (0, .class_ 4), (0, .nameAndType 5 6), (0, u "java/lang/Object"), (0, u "<init>"), (0, u "()V"), (0, .fieldref 8 9), (0, .class_ 10), (0, .nameAndType 11 12), (0, u "com/example/ubver/ubver/verifier/ActiveSubroutines"), (0, u "subroutine"), (0, u "I"), (0, .fieldref 8 14), (0, .nameAndType 15 16), (0, u "outer"), (0, u "Lcom/example/ubver/ubver/verifier/ActiveSubroutines;"), (0, .fieldref 8 18), (0, .nameAndType 19 12), (0, u "depth"), (0, .methodref 21 22), (0, .class_ 23), (0, .nameAndType 24 25), (0, u "com/example/ubver/ubver/verifier/IntTrie"), (0, u "empty"), (0, u "()Lcom/example/ubver/ubver/verifier/IntTrie;"), (0, .fieldref 8 27), (0, .nameAndType 28 29), (0, u "links"), (0, u "Lcom/example/ubver/ubver/verifier/IntTrie;"), (4, .methodref 8 35), (0, .nameAndType 5 36), (0, u "(ILcom/example/ubver/ubver/verifier/ActiveSubroutines;)V"), (2, u "inner"), (0, u "Ljava/util/Map;"), (25, u "alone"), (0, u "Lcom/example/ubver/ubver/verifier/ActiveSubroutines$Meeting;"), (0, .class_ 69), (0, u "com/example/ubver/ubver/verifier/ActiveSubroutines$Meeting"), (46, .class_ 117), (0, u "com/example/ubver/ubver/verifier/ActiveSubroutines$Renumbering"), (9, u "none"), (0, u "()Lcom/example/ubver/ubver/verifier/ActiveSubroutines;")] 31

def k5c0 : Code := { maxStack := 4, maxLocals := 3, code := prog_56_method_1_code, exceptionTable := #[], attributes := #[] }
def k5m0 : Method := { name := "<init>", desc := "(ILcom/example/ubver/ubver/verifier/ActiveSubroutines;)V", sig := { parameters := [.int, (.object "com/example/ubver/ubver/verifier/ActiveSubroutines")], returnType := none }, accessFlags := 2, code := some k5c0 }
def k5c1 : Code := { maxStack := 4, maxLocals := 0, code := prog_56_method_2_code, exceptionTable := #[], attributes := #[] }
def k5m1 : Method := { name := "none", desc := "()Lcom/example/ubver/ubver/verifier/ActiveSubroutines;", sig := { parameters := [], returnType := some (.object "com/example/ubver/ubver/verifier/ActiveSubroutines") }, accessFlags := 8, code := some k5c1 }
/-- com/example/ubver/ubver/verifier/ActiveSubroutines -/
def k5 : Class := { plain "com/example/ubver/ubver/verifier/ActiveSubroutines" (some 0) with
  accessFlags := 32
  interfaces := #[]
  cf := some (fileOf pool5 8 #[.nestMembers #[68, 116]] #[{ accessFlags := 2, nameIndex := 5, descriptorIndex := 36, attributes := #[] }, { accessFlags := 8, nameIndex := 127, descriptorIndex := 128, attributes := #[] }] 32 2 #[] #[{ accessFlags := 18, nameIndex := 11, descriptorIndex := 12, attributes := #[] }, { accessFlags := 18, nameIndex := 15, descriptorIndex := 16, attributes := #[] }, { accessFlags := 16, nameIndex := 19, descriptorIndex := 12, attributes := #[] }, { accessFlags := 18, nameIndex := 28, descriptorIndex := 29, attributes := #[] }, { accessFlags := 2, nameIndex := 39, descriptorIndex := 40, attributes := #[] }, { accessFlags := 2, nameIndex := 66, descriptorIndex := 67, attributes := #[] }])
  fields := #[{ name := "subroutine", type := .int, accessFlags := 18, slot := 0, constantValue := 0 }, { name := "outer", type := (.object "com/example/ubver/ubver/verifier/ActiveSubroutines"), accessFlags := 18, slot := 1, constantValue := 0 }, { name := "depth", type := .int, accessFlags := 16, slot := 2, constantValue := 0 }, { name := "links", type := (.object "com/example/ubver/ubver/verifier/IntTrie"), accessFlags := 18, slot := 3, constantValue := 0 }, { name := "inner", type := (.object "java/util/Map"), accessFlags := 2, slot := 4, constantValue := 0 }, { name := "alone", type := (.object "com/example/ubver/ubver/verifier/ActiveSubroutines$Meeting"), accessFlags := 2, slot := 5, constantValue := 0 }]
  methods := #[k5m0, k5m1]
  instanceTypes := #[.int, (.object "com/example/ubver/ubver/verifier/ActiveSubroutines"), .int, (.object "com/example/ubver/ubver/verifier/IntTrie"), (.object "java/util/Map"), (.object "com/example/ubver/ubver/verifier/ActiveSubroutines$Meeting")]
  staticTypes := #[]
  resolved := Array.replicate 160 none
  statics := none }

def pool6 : Array CpInfo := pool [(1, .methodref 2 3), (0, .class_ 4), (0, .nameAndType 5 6), (0, u "java/lang/Object"), (0, u "<init>"), (0, u "()V"), (0, .fieldref 8 9), (0, .class_ 10), (0, .nameAndType 11 12), (0, u "com/example/ubver/ubver/verifier/IntTrie"), (0, u "root"), (0, u "Lcom/example/ubver/ubver/verifier/IntTrie$Node;"), (0, .methodref 8 14), (0, .nameAndType 5 15), (0, u "(Lcom/example/ubver/ubver/verifier/IntTrie$Node;)V"), (1, .class_ 19), (1, u "com/example/ubver/ubver/verifier/IntTrie$Node"), (25, u "LEVELS"), (0, u "I"), (7, u "empty"), (0, u "()Lcom/example/ubver/ubver/verifier/IntTrie;")] 28

def k6c0 : Code := { maxStack := 2, maxLocals := 2, code := prog_85_method_1_code, exceptionTable := #[], attributes := #[] }
def k6m0 : Method := { name := "<init>", desc := "(Lcom/example/ubver/ubver/verifier/IntTrie$Node;)V", sig := { parameters := [(.object "com/example/ubver/ubver/verifier/IntTrie$Node")], returnType := none }, accessFlags := 2, code := some k6c0 }
def k6c1 : Code := { maxStack := 3, maxLocals := 0, code := prog_85_method_2_code, exceptionTable := #[], attributes := #[] }
def k6m1 : Method := { name := "empty", desc := "()Lcom/example/ubver/ubver/verifier/IntTrie;", sig := { parameters := [], returnType := some (.object "com/example/ubver/ubver/verifier/IntTrie") }, accessFlags := 8, code := some k6c1 }
/-- com/example/ubver/ubver/verifier/IntTrie -/
def k6 : Class := { plain "com/example/ubver/ubver/verifier/IntTrie" (some 0) with
  accessFlags := 32
  interfaces := #[]
  cf := some (fileOf pool6 8 #[.nestMembers #[17]] #[{ accessFlags := 2, nameIndex := 5, descriptorIndex := 15, attributes := #[] }, { accessFlags := 8, nameIndex := 54, descriptorIndex := 55, attributes := #[] }] 32 2 #[] #[{ accessFlags := 26, nameIndex := 45, descriptorIndex := 46, attributes := #[] }, { accessFlags := 18, nameIndex := 11, descriptorIndex := 12, attributes := #[] }])
  fields := #[{ name := "LEVELS", type := .int, accessFlags := 26, slot := 0, constantValue := 0 }, { name := "root", type := (.object "com/example/ubver/ubver/verifier/IntTrie$Node"), accessFlags := 18, slot := 0, constantValue := 0 }]
  methods := #[k6m0, k6m1]
  instanceTypes := #[(.object "com/example/ubver/ubver/verifier/IntTrie$Node")]
  staticTypes := #[.int]
  resolved := Array.replicate 84 none
  statics := none }

def pool7 : Array CpInfo := pool [(2, .class_ 4), (1, u "com/example/ubver/ubver/verifier/VerificationType$Simple"), (5, .class_ 11), (0, u "com/example/ubver/ubver/verifier/VerificationType$Reference"), (0, .class_ 13), (0, u "com/example/ubver/ubver/verifier/VerificationType$Uninitialized"), (9, .class_ 25), (1, u "com/example/ubver/ubver/verifier/VerificationType$1"), (13, .class_ 41), (1, u "com/example/ubver/ubver/verifier/VerificationType"), (46, .class_ 89), (0, u "java/lang/Object"), (13, .class_ 104), (0, u "com/example/ubver/ubver/verifier/VerificationType$ReturnAddress")] 22

/-- com/example/ubver/ubver/verifier/VerificationType -/
def k7 : Class := { plain "com/example/ubver/ubver/verifier/VerificationType" (some 0) with
  accessFlags := 1536
  interfaces := #[]
  cf := some (fileOf pool7 39 #[.nestMembers #[23, 103, 10, 12, 2]] #[] 1536 88 #[] #[])
  fields := #[]
  methods := #[]
  instanceTypes := #[]
  staticTypes := #[]
  resolved := Array.replicate 127 none
  statics := none }

def pool8 : Array CpInfo := pool [(1, .class_ 2), (0, u "java/lang/constant/Constable"), (0, .class_ 4), (0, u "java/lang/Object")] 6

/-- java/lang/constant/Constable -/
def k8 : Class := { plain "java/lang/constant/Constable" (some 0) with
  accessFlags := 1537
  interfaces := #[]
  cf := some (fileOf pool8 1 #[] #[] 1537 3 #[] #[])
  fields := #[]
  methods := #[]
  instanceTypes := #[]
  staticTypes := #[]
  resolved := Array.replicate 11 none
  statics := none }

def pool9 : Array CpInfo := pool [(1, .class_ 2), (0, u "java/lang/Comparable"), (0, .class_ 4), (0, u "java/lang/Object")] 7

/-- java/lang/Comparable -/
def k9 : Class := { plain "java/lang/Comparable" (some 0) with
  accessFlags := 1537
  interfaces := #[]
  cf := some (fileOf pool9 1 #[] #[] 1537 3 #[] #[])
  fields := #[]
  methods := #[]
  instanceTypes := #[]
  staticTypes := #[]
  resolved := Array.replicate 12 none
  statics := none }

def pool10 : Array CpInfo := pool [(1, .class_ 2), (0, u "java/io/Serializable"), (0, .class_ 4), (0, u "java/lang/Object")] 2

/-- java/io/Serializable -/
def k10 : Class := { plain "java/io/Serializable" (some 0) with
  accessFlags := 1537
  interfaces := #[]
  cf := some (fileOf pool10 1 #[] #[] 1537 3 #[] #[])
  fields := #[]
  methods := #[]
  instanceTypes := #[]
  staticTypes := #[]
  resolved := Array.replicate 7 none
  statics := none }

def pool11 : Array CpInfo := pool [(2, .class_ 4), (1, u "java/lang/Enum"), (0, u "name"), (0, u "Ljava/lang/String;"), (2, u "ordinal"), (0, u "I"), (1, .class_ 14), (1, u "java/lang/Object"), (4, u "hash"), (86, .class_ 108), (1, u "java/lang/Enum$EnumDesc"), (2, .class_ 112), (0, u "java/lang/constant/Constable"), (0, .class_ 114), (0, u "java/lang/Comparable"), (0, .class_ 116), (0, u "java/io/Serializable")] 87

/-- java/lang/Enum -/
def k11 : Class := { plain "java/lang/Enum" (some 0) with
  accessFlags := 1057
  interfaces := #[8, 9, 10]
  cf := some (fileOf pool11 2 #[.nestMembers #[106]] #[] 1057 12 #[111, 113, 115] #[{ accessFlags := 18, nameIndex := 5, descriptorIndex := 6, attributes := #[] }, { accessFlags := 18, nameIndex := 9, descriptorIndex := 10, attributes := #[] }, { accessFlags := 2, nameIndex := 19, descriptorIndex := 10, attributes := #[] }])
  fields := #[{ name := "name", type := (.object "java/lang/String"), accessFlags := 18, slot := 0, constantValue := 0 }, { name := "ordinal", type := .int, accessFlags := 18, slot := 1, constantValue := 0 }, { name := "hash", type := .int, accessFlags := 2, slot := 2, constantValue := 0 }]
  methods := #[]
  instanceTypes := #[(.object "java/lang/String"), .int, .int]
  staticTypes := #[]
  resolved := Array.replicate 204 none
  statics := none }

def pool12 : Array CpInfo := pool [(1, .class_ 2), (0, u "com/example/ubver/ubver/verifier/VerificationType$Simple"), (2, u "TOP"), (0, u "Lcom/example/ubver/ubver/verifier/VerificationType$Simple;"), (2, u "INT"), (2, u "FLOAT"), (2, u "LONG"), (2, u "DOUBLE"), (2, u "NULL"), (2, u "UNINITIALIZED_THIS"), (2, u "$VALUES"), (0, u "[Lcom/example/ubver/ubver/verifier/VerificationType$Simple;"), (6, .class_ 37), (1, u "java/lang/Enum"), (8, u "written"), (0, u "Ljava/lang/String;"), (28, .class_ 77), (0, u "com/example/ubver/ubver/verifier/VerificationType")] 17

/-- com/example/ubver/ubver/verifier/VerificationType$Simple -/
def k12 : Class := { plain "com/example/ubver/ubver/verifier/VerificationType$Simple" (some 11) with
  accessFlags := 16433
  interfaces := #[7]
  cf := some (fileOf pool12 1 #[.nestHost 76] #[] 16433 35 #[76] #[{ accessFlags := 16409, nameIndex := 5, descriptorIndex := 6, attributes := #[] }, { accessFlags := 16409, nameIndex := 9, descriptorIndex := 6, attributes := #[] }, { accessFlags := 16409, nameIndex := 12, descriptorIndex := 6, attributes := #[] }, { accessFlags := 16409, nameIndex := 15, descriptorIndex := 6, attributes := #[] }, { accessFlags := 16409, nameIndex := 18, descriptorIndex := 6, attributes := #[] }, { accessFlags := 16409, nameIndex := 21, descriptorIndex := 6, attributes := #[] }, { accessFlags := 16409, nameIndex := 24, descriptorIndex := 6, attributes := #[] }, { accessFlags := 18, nameIndex := 46, descriptorIndex := 47, attributes := #[] }, { accessFlags := 4122, nameIndex := 27, descriptorIndex := 28, attributes := #[] }])
  fields := #[{ name := "TOP", type := (.object "com/example/ubver/ubver/verifier/VerificationType$Simple"), accessFlags := 16409, slot := 0, constantValue := 0 }, { name := "INT", type := (.object "com/example/ubver/ubver/verifier/VerificationType$Simple"), accessFlags := 16409, slot := 1, constantValue := 0 }, { name := "FLOAT", type := (.object "com/example/ubver/ubver/verifier/VerificationType$Simple"), accessFlags := 16409, slot := 2, constantValue := 0 }, { name := "LONG", type := (.object "com/example/ubver/ubver/verifier/VerificationType$Simple"), accessFlags := 16409, slot := 3, constantValue := 0 }, { name := "DOUBLE", type := (.object "com/example/ubver/ubver/verifier/VerificationType$Simple"), accessFlags := 16409, slot := 4, constantValue := 0 }, { name := "NULL", type := (.object "com/example/ubver/ubver/verifier/VerificationType$Simple"), accessFlags := 16409, slot := 5, constantValue := 0 }, { name := "UNINITIALIZED_THIS", type := (.object "com/example/ubver/ubver/verifier/VerificationType$Simple"), accessFlags := 16409, slot := 6, constantValue := 0 }, { name := "written", type := (.object "java/lang/String"), accessFlags := 18, slot := 3, constantValue := 0 }, { name := "$VALUES", type := (.array (.object "com/example/ubver/ubver/verifier/VerificationType$Simple")), accessFlags := 4122, slot := 7, constantValue := 0 }]
  methods := #[]
  instanceTypes := #[(.object "java/lang/String"), .int, .int, (.object "java/lang/String")]
  staticTypes := #[(.object "com/example/ubver/ubver/verifier/VerificationType$Simple"), (.object "com/example/ubver/ubver/verifier/VerificationType$Simple"), (.object "com/example/ubver/ubver/verifier/VerificationType$Simple"), (.object "com/example/ubver/ubver/verifier/VerificationType$Simple"), (.object "com/example/ubver/ubver/verifier/VerificationType$Simple"), (.object "com/example/ubver/ubver/verifier/VerificationType$Simple"), (.object "com/example/ubver/ubver/verifier/VerificationType$Simple"), (.array (.object "com/example/ubver/ubver/verifier/VerificationType$Simple"))]
  resolved := Array.replicate 95 none
  statics := some 0 }

def pool13 : Array CpInfo := pool [(2, .class_ 4), (1, u "java/lang/Object"), (0, u "<init>"), (0, u "()V"), (7, .class_ 16), (1, u "java/util/Arrays"), (57, .class_ 76), (1, u "java/util/Arrays$NaturalOrder"), (36, .class_ 115), (1, u "java/util/Arrays$LegacyMergeSort"), (1, u "Z"), (257, .class_ 376), (0, u "java/util/Arrays$ArrayList"), (68, u "$assertionsDisabled"), (269, u "MIN_ARRAY_SORT_GRAN"), (0, u "I"), (2, u "INSERTIONSORT_THRESHOLD"), (120, u "fill"), (17, u "([Ljava/lang/Object;Ljava/lang/Object;)V"), (116, .class_ 976), (0, u "java/util/Arrays$ArrayItr")] 52

def k13m0 : Method := { name := "<init>", desc := "()V", sig := { parameters := [], returnType := none }, accessFlags := 2, code := none }
def k13c1 : Code := { maxStack := 3, maxLocals := 4, code := jdk_65_method_117_code, exceptionTable := #[], attributes := #[] }
def k13m1 : Method := { name := "fill", desc := "([Ljava/lang/Object;Ljava/lang/Object;)V", sig := { parameters := [(.array (.object "java/lang/Object")), (.object "java/lang/Object")], returnType := none }, accessFlags := 9, code := some k13c1 }
/-- java/util/Arrays -/
def k13 : Class := { plain "java/util/Arrays" (some 0) with
  accessFlags := 49
  interfaces := #[]
  cf := some (fileOf pool13 14 #[.nestMembers #[975, 375, 113, 74]] #[{ accessFlags := 2, nameIndex := 5, descriptorIndex := 6, attributes := #[] }, { accessFlags := 9, nameIndex := 840, descriptorIndex := 858, attributes := #[] }] 49 2 #[] #[{ accessFlags := 26, nameIndex := 715, descriptorIndex := 716, attributes := #[] }, { accessFlags := 26, nameIndex := 719, descriptorIndex := 716, attributes := #[] }, { accessFlags := 4120, nameIndex := 445, descriptorIndex := 117, attributes := #[] }])
  fields := #[{ name := "MIN_ARRAY_SORT_GRAN", type := .int, accessFlags := 26, slot := 0, constantValue := 0 }, { name := "INSERTIONSORT_THRESHOLD", type := .int, accessFlags := 26, slot := 1, constantValue := 0 }, { name := "$assertionsDisabled", type := .boolean, accessFlags := 4120, slot := 2, constantValue := 0 }]
  methods := #[k13m0, k13m1]
  instanceTypes := #[]
  staticTypes := #[.int, .int, .boolean]
  resolved := Array.replicate 1029 none
  statics := none }

def pool14 : Array CpInfo := pool [(1, u "java/lang/Cloneable"), (0, .class_ 1), (0, u "java/lang/Object"), (0, .class_ 3)] 3

/-- java/lang/Cloneable -/
def k14 : Class := { plain "java/lang/Cloneable" (some 0) with
  accessFlags := 1537
  interfaces := #[]
  cf := some (fileOf pool14 2 #[] #[] 1537 4 #[] #[])
  fields := #[]
  methods := #[]
  instanceTypes := #[]
  staticTypes := #[]
  resolved := Array.replicate 8 none
  statics := none }

/-- the primitive byte -/
def k15 : Class := { plain "byte" none with kind := .primitive 'B', accessFlags := 0x411 }
/-- [B -/
def k16 : Class := { plain "[B" (some 0) with kind := .array 15 .byte, interfaces := #[14, 10], accessFlags := 1041 }

/-- the primitive int -/
def k17 : Class := { plain "int" none with kind := .primitive 'I', accessFlags := 0x411 }
/-- [I -/
def k18 : Class := { plain "[I" (some 0) with kind := .array 17 .int, interfaces := #[14, 10], accessFlags := 1041 }

/-- [Lcom/example/ubver/ubver/verifier/VerificationType; -/
def k19 : Class := { plain "[Lcom/example/ubver/ubver/verifier/VerificationType;" (some 0) with kind := .array 7 (.object "com/example/ubver/ubver/verifier/VerificationType"), interfaces := #[14, 10], accessFlags := 1041 }

def heap : Heap := #[{ cls := 12, slots := #[.ref 1, .null, .null, .null, .null, .null, .null, .null], vm := .statics 12 },
  { cls := 12, slots := #[.null, .int 0, .int 0, .null], vm := .none }]
def classes : Array Class := #[k0, k1, k2, k3, k4, k5, k6, k7, k8, k9, k10, k11, k12, k13, k14, k15, k16, k17, k18, k19]
def interned : List (Array UInt16 × Addr) := []
def slotsUsed : Nat := 12
def theMethod : MethodId := ⟨1, 1⟩
def args0 : Array Value := #[.int 1, .int 3, .int 4]
def aboutOver (below : List Frame) : State where
  vm := { classes := classes, interned := interned.toArray }
  heap := heap
  slotsUsed := slotsUsed
  threads := #[{ frames := .invoking theMethod args0 :: below }]
def below0 : List Frame := [.native { method := ⟨0, 0⟩, args := #[] }]
def about1 : State := aboutOver below0
def p0 : Program := .bare "" "" ""
def e0 : Env := launch0.env 0 0 0
theorem w_frames : about1.frames = Frame.invoking theMethod args0 :: below0 := rfl
set_option maxRecDepth 65536 in
theorem w_args : argsFit about1.vm theMethod args0 = true := by decide +kernel
set_option maxRecDepth 65536 in
theorem w_heap : heapFits about1 = true := by decide +kernel
set_option maxRecDepth 65536 in
theorem w_runnable : about1.curStatus? = some .runnable := by decide +kernel
set_option maxRecDepth 65536 in
theorem w_alone : about1.alone = true := by decide +kernel
set_option maxRecDepth 65536 in
theorem w_named : about1.methodNamed? x = some theMethod := by decide +kernel
set_option maxRecDepth 65536 in
theorem w_hears : about1.hears theMethod below0 = true := by decide +kernel
set_option maxRecDepth 65536 in
theorem w_ripe : about1.ripe theMethod args0 below0 = true := by decide +kernel
theorem w_running : about1.status = .running := rfl
set_option maxRecDepth 65536 in
theorem w_room : about1.hasRoom e0.platform room_1 = true :=
  launch0.hasRoom_least _ room_1 (by decide +kernel) (by decide +kernel) (by decide +kernel) (by decide +kernel) (by decide +kernel) (by decide +kernel)
theorem allAtoms_all (ts : List Jvm.Cond) (a : Array Jvm.Value) (st : Jvm.State) : (allAtoms ts).before a st = ts.all (fun c => c.before a st) := by
  induction ts with
  | nil => rfl
  | cons c t ih =>
    show (Jvm.Cond.and c (allAtoms t)).before a st = _
    rw [Jvm.Cond.before_and, ih, List.all_cons]
def words1 : List Jvm.Cond := Jvm.Cond.code x code maxLocals ret :: tables_1
/-- a 'code' word, met by the world's own term for the bytes: nothing is compared byte by byte -/
theorem code_word {y : MethodName} {bytes : ByteArray} {mx : Nat} {rt : Option FieldType} {a : Array Value} {s : State} {m : MethodId} {meth : Method} {c : Code} (h1 : s.methodNamed? y = some m) (h2 : s.vm.method? m = some meth) (h3 : meth.code = some c) (h4 : c.code = bytes)
    (h5 : (c.maxLocals == mx && c.exceptionTable.isEmpty && decide (c.maxStack ≤ mostOperands) && decide (meth.sig.returnType = rt) && !meth.locks && decide (parseMethodDescriptor y.desc = some meth.sig)) = true) : (Jvm.Cond.code y bytes mx rt).before a s = true := by
  simp only [Bool.and_eq_true, beq_iff_eq, Bool.not_eq_true', decide_eq_true_eq] at h5
  obtain ⟨⟨⟨⟨⟨g1, g2⟩, g3⟩, g4⟩, g5⟩, g6⟩ := h5
  simp [Cond.before, Cond.holds, Cond.value, h1, h2, h3, h4, g1, g2, g3, g4, g5, g6]
def isCode : Jvm.Cond → Bool
  | .code _ _ _ _ => true
  | _ => false
theorem all_split {L : List Jvm.Cond} {P : Jvm.Cond → Bool} (h1 : L.all (fun c => isCode c || P c) = true) (h2 : ∀ c ∈ L.filter isCode, P c = true) : L.all P = true := by
  refine List.all_eq_true.mpr fun c hc => ?_
  have h := List.all_eq_true.mp h1 c hc
  rcases Bool.eq_false_or_eq_true (isCode c) with hi | hi
  · exact h2 c (List.mem_filter.mpr ⟨hc, hi⟩)
  · simpa [hi] using h
set_option maxRecDepth 65536 in
theorem w_c0 : (Jvm.Cond.code x code maxLocals ret).before args0 about1 = true := code_word (m := ⟨1, 1⟩) (meth := k1m1) (c := k1c1) (by decide +kernel) rfl rfl rfl (by decide +kernel)
set_option maxRecDepth 65536 in
theorem w_c1 : (Jvm.Cond.code ({ cls := "com/example/ubver/ubver/verifier/InferredState", name := "<init>", desc := "([III)V" } : Jvm.MethodName) prog_83_method_1_code (4 : Nat) (Option.none : Option Jvm.ClassFile.FieldType)).before args0 about1 = true := code_word (m := ⟨4, 0⟩) (meth := k4m0) (c := k4c0) (by decide +kernel) rfl rfl rfl (by decide +kernel)
set_option maxRecDepth 65536 in
theorem w_c2 : (Jvm.Cond.code ({ cls := "com/example/ubver/ubver/verifier/ActiveSubroutines", name := "none", desc := "()Lcom/example/ubver/ubver/verifier/ActiveSubroutines;" } : Jvm.MethodName) prog_56_method_2_code (0 : Nat) (Option.some (Jvm.ClassFile.FieldType.object "com/example/ubver/ubver/verifier/ActiveSubroutines"))).before args0 about1 = true := code_word (m := ⟨5, 1⟩) (meth := k5m1) (c := k5c1) (by decide +kernel) rfl rfl rfl (by decide +kernel)
set_option maxRecDepth 65536 in
theorem w_c3 : (Jvm.Cond.code ({ cls := "com/example/ubver/ubver/verifier/ActiveSubroutines", name := "<init>", desc := "(ILcom/example/ubver/ubver/verifier/ActiveSubroutines;)V" } : Jvm.MethodName) prog_56_method_1_code (3 : Nat) (Option.none : Option Jvm.ClassFile.FieldType)).before args0 about1 = true := code_word (m := ⟨5, 0⟩) (meth := k5m0) (c := k5c0) (by decide +kernel) rfl rfl rfl (by decide +kernel)
set_option maxRecDepth 65536 in
theorem w_c4 : (Jvm.Cond.code ({ cls := "java/lang/Object", name := "<init>", desc := "()V" } : Jvm.MethodName) object_method_1_code (1 : Nat) (Option.none : Option Jvm.ClassFile.FieldType)).before args0 about1 = true := code_word (m := ⟨0, 0⟩) (meth := k0m0) (c := k0c0) (by decide +kernel) rfl rfl rfl (by decide +kernel)
set_option maxRecDepth 65536 in
theorem w_c5 : (Jvm.Cond.code ({ cls := "com/example/ubver/ubver/verifier/IntTrie", name := "empty", desc := "()Lcom/example/ubver/ubver/verifier/IntTrie;" } : Jvm.MethodName) prog_85_method_2_code (0 : Nat) (Option.some (Jvm.ClassFile.FieldType.object "com/example/ubver/ubver/verifier/IntTrie"))).before args0 about1 = true := code_word (m := ⟨6, 1⟩) (meth := k6m1) (c := k6c1) (by decide +kernel) rfl rfl rfl (by decide +kernel)
set_option maxRecDepth 65536 in
theorem w_c6 : (Jvm.Cond.code ({ cls := "com/example/ubver/ubver/verifier/IntTrie", name := "<init>", desc := "(Lcom/example/ubver/ubver/verifier/IntTrie$Node;)V" } : Jvm.MethodName) prog_85_method_1_code (2 : Nat) (Option.none : Option Jvm.ClassFile.FieldType)).before args0 about1 = true := code_word (m := ⟨6, 0⟩) (meth := k6m0) (c := k6c0) (by decide +kernel) rfl rfl rfl (by decide +kernel)
set_option maxRecDepth 65536 in
theorem w_c7 : (Jvm.Cond.code ({ cls := "com/example/ubver/ubver/verifier/InferredState", name := "<init>", desc := "([IIILcom/example/ubver/ubver/verifier/ActiveSubroutines;)V" } : Jvm.MethodName) prog_83_method_2_code (5 : Nat) (Option.none : Option Jvm.ClassFile.FieldType)).before args0 about1 = true := code_word (m := ⟨4, 1⟩) (meth := k4m1) (c := k4c1) (by decide +kernel) rfl rfl rfl (by decide +kernel)
set_option maxRecDepth 65536 in
theorem w_c8 : (Jvm.Cond.code ({ cls := "com/example/ubver/ubver/verifier/TypeState", name := "<init>", desc := "([III)V" } : Jvm.MethodName) prog_124_method_2_code (4 : Nat) (Option.none : Option Jvm.ClassFile.FieldType)).before args0 about1 = true := code_word (m := ⟨2, 0⟩) (meth := k2m0) (c := k2c0) (by decide +kernel) rfl rfl rfl (by decide +kernel)
set_option maxRecDepth 65536 in
theorem w_c9 : (Jvm.Cond.code ({ cls := "java/util/Arrays", name := "fill", desc := "([Ljava/lang/Object;Ljava/lang/Object;)V" } : Jvm.MethodName) jdk_65_method_117_code (4 : Nat) (Option.none : Option Jvm.ClassFile.FieldType)).before args0 about1 = true := code_word (m := ⟨13, 1⟩) (meth := k13m1) (c := k13c1) (by decide +kernel) rfl rfl rfl (by decide +kernel)
set_option maxRecDepth 65536 in
theorem w_c10 : (Jvm.Cond.code ({ cls := "com/example/ubver/ubver/verifier/InferredState", name := "mergeInitialization", desc := "(Lcom/example/ubver/ubver/verifier/InferredState;)Z" } : Jvm.MethodName) prog_83_method_23_code (3 : Nat) (Option.some Jvm.ClassFile.FieldType.boolean)).before args0 about1 = true := code_word (m := ⟨4, 2⟩) (meth := k4m2) (c := k4c2) (by decide +kernel) rfl rfl rfl (by decide +kernel)
def codes1 : List Jvm.Cond := [Jvm.Cond.code x code maxLocals ret, Jvm.Cond.code ({ cls := "com/example/ubver/ubver/verifier/InferredState", name := "<init>", desc := "([III)V" } : Jvm.MethodName) prog_83_method_1_code (4 : Nat) (Option.none : Option Jvm.ClassFile.FieldType), Jvm.Cond.code ({ cls := "com/example/ubver/ubver/verifier/ActiveSubroutines", name := "none", desc := "()Lcom/example/ubver/ubver/verifier/ActiveSubroutines;" } : Jvm.MethodName) prog_56_method_2_code (0 : Nat) (Option.some (Jvm.ClassFile.FieldType.object "com/example/ubver/ubver/verifier/ActiveSubroutines")), Jvm.Cond.code ({ cls := "com/example/ubver/ubver/verifier/ActiveSubroutines", name := "<init>", desc := "(ILcom/example/ubver/ubver/verifier/ActiveSubroutines;)V" } : Jvm.MethodName) prog_56_method_1_code (3 : Nat) (Option.none : Option Jvm.ClassFile.FieldType), Jvm.Cond.code ({ cls := "java/lang/Object", name := "<init>", desc := "()V" } : Jvm.MethodName) object_method_1_code (1 : Nat) (Option.none : Option Jvm.ClassFile.FieldType), Jvm.Cond.code ({ cls := "com/example/ubver/ubver/verifier/IntTrie", name := "empty", desc := "()Lcom/example/ubver/ubver/verifier/IntTrie;" } : Jvm.MethodName) prog_85_method_2_code (0 : Nat) (Option.some (Jvm.ClassFile.FieldType.object "com/example/ubver/ubver/verifier/IntTrie")), Jvm.Cond.code ({ cls := "com/example/ubver/ubver/verifier/IntTrie", name := "<init>", desc := "(Lcom/example/ubver/ubver/verifier/IntTrie$Node;)V" } : Jvm.MethodName) prog_85_method_1_code (2 : Nat) (Option.none : Option Jvm.ClassFile.FieldType), Jvm.Cond.code ({ cls := "com/example/ubver/ubver/verifier/InferredState", name := "<init>", desc := "([IIILcom/example/ubver/ubver/verifier/ActiveSubroutines;)V" } : Jvm.MethodName) prog_83_method_2_code (5 : Nat) (Option.none : Option Jvm.ClassFile.FieldType), Jvm.Cond.code ({ cls := "com/example/ubver/ubver/verifier/TypeState", name := "<init>", desc := "([III)V" } : Jvm.MethodName) prog_124_method_2_code (4 : Nat) (Option.none : Option Jvm.ClassFile.FieldType), Jvm.Cond.code ({ cls := "java/util/Arrays", name := "fill", desc := "([Ljava/lang/Object;Ljava/lang/Object;)V" } : Jvm.MethodName) jdk_65_method_117_code (4 : Nat) (Option.none : Option Jvm.ClassFile.FieldType), Jvm.Cond.code ({ cls := "com/example/ubver/ubver/verifier/InferredState", name := "mergeInitialization", desc := "(Lcom/example/ubver/ubver/verifier/InferredState;)Z" } : Jvm.MethodName) prog_83_method_23_code (3 : Nat) (Option.some Jvm.ClassFile.FieldType.boolean)]
set_option maxRecDepth 65536 in
theorem codes_eq : words1.filter isCode = codes1 := rfl
theorem w_codes : ∀ c ∈ words1.filter isCode, c.before args0 about1 = true := by
  rw [codes_eq]
  intro c hc
  simp only [codes1, List.mem_cons, List.not_mem_nil, or_false] at hc
  rcases hc with rfl | rfl | rfl | rfl | rfl | rfl | rfl | rfl | rfl | rfl | rfl
  · exact w_c0
  · exact w_c1
  · exact w_c2
  · exact w_c3
  · exact w_c4
  · exact w_c5
  · exact w_c6
  · exact w_c7
  · exact w_c8
  · exact w_c9
  · exact w_c10
set_option maxRecDepth 65536 in
theorem w_t1 : (words1.take 24).all (fun c => isCode c || c.before args0 about1) = true := by decide +kernel
set_option maxRecDepth 65536 in
theorem w_t2 : ((words1.drop 24).take 24).all (fun c => isCode c || c.before args0 about1) = true := by decide +kernel
set_option maxRecDepth 65536 in
theorem w_t3 : (((words1.drop 24).drop 24).take 24).all (fun c => isCode c || c.before args0 about1) = true := by decide +kernel
set_option maxRecDepth 65536 in
theorem w_t4 : (((words1.drop 24).drop 24).drop 24).all (fun c => isCode c || c.before args0 about1) = true := by decide +kernel
theorem w_tables : (allAtoms (Jvm.Cond.code x code maxLocals ret :: tables_1)).before args0 about1 = true := by
  rw [allAtoms_all]
  show words1.all (fun c => c.before args0 about1) = true
  refine all_split ?_ w_codes
  rw [← List.take_append_drop 24 words1, List.all_append, w_t1, ← List.take_append_drop 24 (words1.drop 24), List.all_append, w_t2, ← List.take_append_drop 24 ((words1.drop 24).drop 24), List.all_append, w_t3, w_t4]
  rfl
set_option maxRecDepth 65536 in
theorem w_case : (Jvm.Cond.and given_1 narrow_1).before args0 about1 = true := by decide +kernel
theorem w_applies : (headSpec (Jvm.Cond.code x code maxLocals ret :: tables_1) room_1).applies x e0.platform about1 = true :=
  (Spec.applies_iff w_frames).mpr ⟨w_running, w_runnable, w_alone, w_named, w_hears, w_ripe, w_room, w_tables⟩
theorem atStart : AtStart classFile x code maxLocals ret World_1 tables_1 room_1 Calls_1 rest_1 Pre_1 launch0 p0 e0 about1 theMethod args0 below0 :=
  ⟨lists_1, trivial, launch0.admits_env _ _ _, launch0.least_env, fairChoices_fair.cas, fairChoices_fair.clock, w_frames, w_args, w_heap, w_applies, trivial, trivial, w_case⟩
end start1
theorem witness_1 : WitnessClaimed_1 := ⟨start1.p0, start1.e0, start1.about1, start1.theMethod, start1.args0, start1.below0, start1.atStart⟩
end Jvm.Pilot.@@N@@
