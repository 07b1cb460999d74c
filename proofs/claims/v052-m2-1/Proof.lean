import JvmDerived
import JvmDerived.Pilot.@@N@@Statement
import JvmDerived.Pilot.@@N@@Code
set_option linter.unusedVariables false
set_option linter.unusedSimpArgs false
namespace Jvm.Pilot.@@N@@
open Jvm Jvm.ClassFile Sem Op Lib Jvm.Free Jvm.Stand Jvm.LawKit Jvm.RoadKit Bundle Jvm.Pilot.@@N@@.Jvm.D
def own_Go (tb : Tables) (e : Env) (below : List Frame) (G : State → Outcome → Prop) (s : State) : Prop := ∃ s₂ o, Steps tb e below s s₂ ∧ s₂.status = .running ∧ Ended s₂ below o ∧ G s₂ o
theorem own_up {tb : Tables} {e : Env} {below : List Frame} {G : State → Outcome → Prop} {s s' : State} (f : ∀ t, Steps tb e below s' t → Steps tb e below s t) (h : own_Go tb e below G s') : own_Go tb e below G s := by
  obtain ⟨s₂, o, h1, h2⟩ := h
  exact ⟨s₂, o, f _ h1, h2⟩
theorem own_selp {s : State} {args : Array Value} {y : MethodName} {n : Nat} (hi : (Cond.instantiable y.cls n).before args s = true) (hp : s.PrivateAt y) (hinst : (Cond.instanceMethod y).before args s = true) (hy : y.cls ≠ "java/lang/invoke/MethodHandle" ∧ y.cls ≠ "java/lang/invoke/VarHandle") : (Cond.selects y.cls y y).before args s = true := by
  obtain ⟨c, k, h1, h2, -, h4, -, -⟩ := Cond.instantiable_spec hi
  rw [Bool.or_eq_false_iff] at h4
  exact selects_self_of_private h1 h2 h4.1 hp hinst hy
theorem own_end {p : Program} {l : Launch} {e : Env} {R : Room} {s : State} {m : MethodId} {args : Array Value} {below : List Frame} {meth : Method} {c : Code} {T : State} {locs : List Loc} {cells slots : Nat} (X : Stand p l e R s m args below meth c T locs cells slots) (hlocks : meth.locks = false) {v : Option Value} (hv : meth.sig.returnType = none → v = none) {g : JFrame}
    (step : ∀ fs, (∀ (f : JFrame) (acts : List Action), f.method = m → f.locked = none → f.entered = [] → (doReturn e (T.setTop f) acts v).1 = T.setFrames fs) → Steps p.tables e below (T.setTop g) (T.setFrames fs)) {h : Heap} (eT : T.heap = h) {Q : Option Value → Heap → List Loc → Prop} {kc ks : Nat} (hQ : Q v h locs) (hc : cells ≤ kc) (hs : slots ≤ ks) :
    own_Go p.tables e below (fun u o => ∃ v L, o = .returned v ∧ Q v u.heap L ∧ FrameEnd s o u L kc ks) (T.setTop g) := by
  obtain ⟨fs, hr, hrun, hended, hW, hsame⟩ := X.leave (v := v) hv hlocks
  subst eT
  exact ⟨_, _, step fs hr, hrun, hended, _, _, rfl, hQ, ⟨_, rfl⟩, hW, hsame.mono hc hs⟩
theorem own_mask3 (x : Int32) : x &&& (3 : Int32) = 0 ∨ x &&& (3 : Int32) = 1 ∨ x &&& (3 : Int32) = 2 ∨ x &&& (3 : Int32) = 3 := by
  have h := c_mask x 3 2 (by decide) (by decide)
  have h2 : x.toInt % (2 ^ 2 : Nat) = 0 ∨ x.toInt % (2 ^ 2 : Nat) = 1 ∨ x.toInt % (2 ^ 2 : Nat) = 2 ∨ x.toInt % (2 ^ 2 : Nat) = 3 := by omega
  rw [← h] at h2
  rcases h2 with q | q | q | q
  · exact Or.inl (Int32.toInt_inj.mp q)
  · exact Or.inr (Or.inl (Int32.toInt_inj.mp q))
  · exact Or.inr (Or.inr (Or.inl (Int32.toInt_inj.mp q)))
  · exact Or.inr (Or.inr (Or.inr (Int32.toInt_inj.mp q)))
theorem own_cut0 (x : Int32) : (x &&& (3 : Int32)) % (1 : Int32) = 0 := by rcases own_mask3 x with q | q | q | q <;> rw [q] <;> decide
theorem own_cut1 (x : Int32) : (x &&& (3 : Int32)) % (2 : Int32) = 0 ∨ (x &&& (3 : Int32)) % (2 : Int32) = 1 := by rcases own_mask3 x with q | q | q | q <;> rw [q] <;> decide
theorem own_cut2 (x : Int32) : (x &&& (3 : Int32)) % (3 : Int32) = 0 ∨ (x &&& (3 : Int32)) % (3 : Int32) = 1 ∨ (x &&& (3 : Int32)) % (3 : Int32) = 2 := by rcases own_mask3 x with q | q | q | q <;> rw [q] <;> decide
theorem own_cut3 (x : Int32) : (x &&& (3 : Int32)) % (4 : Int32) = 0 ∨ (x &&& (3 : Int32)) % (4 : Int32) = 1 ∨ (x &&& (3 : Int32)) % (4 : Int32) = 2 ∨ (x &&& (3 : Int32)) % (4 : Int32) = 3 := by rcases own_mask3 x with q | q | q | q <;> rw [q] <;> decide
theorem own_eqv {s : State} {args : Array Value} {t : Term} {z : Int32} (h : (Cond.eq t (.int z)).value args s none s [] = some true) : t.eval args s none [] s = some (.int z) := by
  simp only [Cond.value] at h
  cases hv : t.eval args s none [] s with
  | none => simp [hv] at h
  | some v =>
    rw [hv, Term.int_eval] at h
    cases v <;> simp at h
    rw [h]
theorem own_len {s : State} {args : Array Value} {t : Term} {a : Addr} {cl : Cell} {ty : FieldType} {z : Int32} (ev : t.eval args s none [] s = some (.ref a)) (A : Arr s s.heap a cl ty) (h : (Cond.eq (.length t) (.int z)).value args s none s [] = some true) : cl.slots.size < 2 ^ 31 ∧ cl.slots.size.toInt32 = z := by
  have e4 := eqv_i (Term.int_eval z) h
  simp only [Term.eval, ev, Option.bind_eq_bind, Option.bind_some, A.fin (Vm.Alike.refl _)] at e4
  by_cases q : cl.slots.size < 2 ^ 31
  · rw [if_pos q] at e4
    exact ⟨q, Value.int.inj (Option.some.inj e4)⟩
  · rw [if_neg q] at e4
    cases e4
theorem own_arr0 {s : State} {args : Array Value} {t : Term} {a : Addr} {ty : FieldType} {d : Value} (hf : Fit s) (ev : t.eval args s none [] s = some (.ref a)) (h0 : (Cond.arrayOf t ty).value args s none s [] = some true) (h1 : (Cond.eq (.length t) (.int 0)).value args s none s [] = some true) :
    ∃ k, Arv s s.heap a k ty (0 : Int32) [] d := by
  obtain ⟨cl, A⟩ := Arr.start ev h0
  obtain ⟨q, e⟩ := own_len ev A h1
  exact ⟨cl.cls, Arv.start hf A q e (by decide) (by decide) trivial⟩
theorem d_jdk_22_m_1_0 : decode jdk_22_method_1_code 0 = .ok (.aload_n 0, 1) := by decide +kernel
theorem d_jdk_22_m_1_1 : decode jdk_22_method_1_code 1 = .ok (.invokespecial 1, 3) := by decide +kernel
theorem d_jdk_22_m_1_4 : decode jdk_22_method_1_code 4 = .ok (.return_, 1) := by decide +kernel
theorem own_pn0 : plainName "java/util/AbstractCollection" = true := by first | (simp [plainName, overriddenIn]; done) | decide +kernel
theorem ef_rmAC (m : MethodId) (y0 : Addr) : entryFrame m #[(.ref y0)] 1 = mkF m 0 #[.val (.ref y0)] [] := by first | (simp [entryFrame, mkF, argsToLocals, Value.category]; done) | rfl
def Q_rmAC (Z : State) (a : Addr) (h0 : Heap) (n0 : Nat) (v : Option Value) (h : Heap) (L : List Loc) : Prop := v = none ∧ Fr n0 L ∧ h = h0
set_option maxRecDepth 65536 in
set_option maxHeartbeats 40000000 in
theorem rmAC (l : Launch) (Z : State) (a0 : Array Value) (hw : ∀ d ∈ tables_1, d.before a0 Z = true) (ws : List Jvm.Cond) (a : Addr) (h0 : Heap) (n0 : Nat) (Z0 : n0 ≤ h0.size) :
    MetFree l (⟨"java/util/AbstractCollection", "<init>", "()V"⟩ : MethodName) (head1 (Jvm.Cond.code (⟨"java/util/AbstractCollection", "<init>", "()V"⟩ : MethodName) jdk_22_method_1_code 1 none :: ws) ({ frames := 1, cells := 0, slots := 0, locals := 12 } : Room)) (fun ar U => ar = #[(.ref a)] ∧ Z.Warmed39 U.vm ∧ U.heap = h0) (fun _ _ _ _ _ => True) (fun _ U o U' => ∃ v L, o = .returned v ∧ Q_rmAC Z a h0 n0 v U'.heap L ∧ FrameEnd U o U' L ({ frames := 1, cells := 0, slots := 0, locals := 12 } : Room).cells ({ frames := 1, cells := 0, slots := 0, locals := 12 } : Room).slots) := by
  refine MetFree.of_bodySF (plainFor_of_name own_pn0) hisR ?_
  intro p e s m args below meth c s₁ Bd hml0 hP hK
  obtain ⟨rfl, hZ, hh⟩ := hP
  have hx := Bd.exec
  have hby := Bd.bytes
  have hlk : meth.locks = false := BodyLoose.notSynchronized Bd
  have hml : c.maxLocals = 1 := hml0
  have hown : s.vm.findClass "java/util/AbstractCollection" = some m.cls := findClass_of_methodNamed Bd.named
  have hnm := (name_of_methodNamed Bd.named Bd.method).1
  have X0 : Stand p l e ({ frames := 1, cells := 0, slots := 0, locals := 12 } : Room) s m #[(.ref a)] below meth c s₁ [] 0 0 := Stand.of_body Bd
  have e0 : s₁.heap = h0 := by rw [← hh, Bd.state]; rfl
  have N0 := Fr.nil n0
  show own_Go p.tables e below (fun u o => ∃ v L, o = .returned v ∧ Q_rmAC Z a h0 n0 v u.heap L ∧ FrameEnd s o u L ({ frames := 1, cells := 0, slots := 0, locals := 12 } : Room).cells ({ frames := 1, cells := 0, slots := 0, locals := 12 } : Room).slots) (s₁.setTop (entryFrame m #[(.ref a)] 1))
  refine own_up (fun _ k => castTop (ef_rmAC m a) k) ?_
  show own_Go p.tables e below _ (s₁.setTop (mkF m 0 #[.val (.ref a)] []))
  refine own_up (fun _ k => XS.aloadN X0.here hx rfl (hb hby d_jdk_22_m_1_0) rfl rfl k) ?_
  show own_Go p.tables e below _ (s₁.setTop (mkF m 1 #[.val (.ref a)] [(.ref a)]))
  obtain ⟨T1, X1, e1, st1⟩ := initO X0 hx hZ hown (hw _ (List.mem_of_getElem? (i := 28) rfl)) (hw _ (List.mem_of_getElem? (i := 8) rfl)) (hw _ (List.mem_of_getElem? (i := 9) rfl)) e0 (g := (mkF m 1 #[.val (.ref a)] [(.ref a)])) rfl (by rw [hml]; rfl) rfl (hb hby d_jdk_22_m_1_1) (by decide) (W := 0) (by show 2 * 0 + _ ≤ _; exact Nat.le_of_eq rfl) (by decide)
  refine own_up st1 ?_
  show own_Go p.tables e below _ (T1.setTop (mkF m 4 #[.val (.ref a)] []))
  exact own_end X1 hlk (v := none) (fun _ => rfl) (fun fs hr => X1.returnOut hx Bd.returns (hb hby d_jdk_22_m_1_4) hr) e1 ⟨rfl, N0, rfl⟩ (by decide) (by decide)
theorem d_jdk_71_m_1_0 : decode jdk_71_method_1_code 0 = .ok (.aload_n 0, 1) := by decide +kernel
theorem d_jdk_71_m_1_1 : decode jdk_71_method_1_code 1 = .ok (.invokespecial 1, 3) := by decide +kernel
theorem d_jdk_71_m_1_4 : decode jdk_71_method_1_code 4 = .ok (.return_, 1) := by decide +kernel
theorem own_pn1 : plainName "java/util/AbstractMap" = true := by first | (simp [plainName, overriddenIn]; done) | decide +kernel
theorem ef_rmAM (m : MethodId) (y0 : Addr) : entryFrame m #[(.ref y0)] 1 = mkF m 0 #[.val (.ref y0)] [] := by first | (simp [entryFrame, mkF, argsToLocals, Value.category]; done) | rfl
def Q_rmAM (Z : State) (a : Addr) (h0 : Heap) (n0 : Nat) (v : Option Value) (h : Heap) (L : List Loc) : Prop := v = none ∧ Fr n0 L ∧ h = h0
set_option maxRecDepth 65536 in
set_option maxHeartbeats 40000000 in
theorem rmAM (l : Launch) (Z : State) (a0 : Array Value) (hw : ∀ d ∈ tables_1, d.before a0 Z = true) (ws : List Jvm.Cond) (a : Addr) (h0 : Heap) (n0 : Nat) (Z0 : n0 ≤ h0.size) :
    MetFree l (⟨"java/util/AbstractMap", "<init>", "()V"⟩ : MethodName) (head1 (Jvm.Cond.code (⟨"java/util/AbstractMap", "<init>", "()V"⟩ : MethodName) jdk_71_method_1_code 1 none :: ws) ({ frames := 1, cells := 0, slots := 0, locals := 12 } : Room)) (fun ar U => ar = #[(.ref a)] ∧ Z.Warmed39 U.vm ∧ U.heap = h0) (fun _ _ _ _ _ => True) (fun _ U o U' => ∃ v L, o = .returned v ∧ Q_rmAM Z a h0 n0 v U'.heap L ∧ FrameEnd U o U' L ({ frames := 1, cells := 0, slots := 0, locals := 12 } : Room).cells ({ frames := 1, cells := 0, slots := 0, locals := 12 } : Room).slots) := by
  refine MetFree.of_bodySF (plainFor_of_name own_pn1) hisR ?_
  intro p e s m args below meth c s₁ Bd hml0 hP hK
  obtain ⟨rfl, hZ, hh⟩ := hP
  have hx := Bd.exec
  have hby := Bd.bytes
  have hlk : meth.locks = false := BodyLoose.notSynchronized Bd
  have hml : c.maxLocals = 1 := hml0
  have hown : s.vm.findClass "java/util/AbstractMap" = some m.cls := findClass_of_methodNamed Bd.named
  have hnm := (name_of_methodNamed Bd.named Bd.method).1
  have X0 : Stand p l e ({ frames := 1, cells := 0, slots := 0, locals := 12 } : Room) s m #[(.ref a)] below meth c s₁ [] 0 0 := Stand.of_body Bd
  have e0 : s₁.heap = h0 := by rw [← hh, Bd.state]; rfl
  have N0 := Fr.nil n0
  show own_Go p.tables e below (fun u o => ∃ v L, o = .returned v ∧ Q_rmAM Z a h0 n0 v u.heap L ∧ FrameEnd s o u L ({ frames := 1, cells := 0, slots := 0, locals := 12 } : Room).cells ({ frames := 1, cells := 0, slots := 0, locals := 12 } : Room).slots) (s₁.setTop (entryFrame m #[(.ref a)] 1))
  refine own_up (fun _ k => castTop (ef_rmAM m a) k) ?_
  show own_Go p.tables e below _ (s₁.setTop (mkF m 0 #[.val (.ref a)] []))
  refine own_up (fun _ k => XS.aloadN X0.here hx rfl (hb hby d_jdk_71_m_1_0) rfl rfl k) ?_
  show own_Go p.tables e below _ (s₁.setTop (mkF m 1 #[.val (.ref a)] [(.ref a)]))
  obtain ⟨T1, X1, e1, st1⟩ := initO X0 hx hZ hown (hw _ (List.mem_of_getElem? (i := 48) rfl)) (hw _ (List.mem_of_getElem? (i := 8) rfl)) (hw _ (List.mem_of_getElem? (i := 9) rfl)) e0 (g := (mkF m 1 #[.val (.ref a)] [(.ref a)])) rfl (by rw [hml]; rfl) rfl (hb hby d_jdk_71_m_1_1) (by decide) (W := 0) (by show 2 * 0 + _ ≤ _; exact Nat.le_of_eq rfl) (by decide)
  refine own_up st1 ?_
  show own_Go p.tables e below _ (T1.setTop (mkF m 4 #[.val (.ref a)] []))
  exact own_end X1 hlk (v := none) (fun _ => rfl) (fun fs hr => X1.returnOut hx Bd.returns (hb hby d_jdk_71_m_1_4) hr) e1 ⟨rfl, N0, rfl⟩ (by decide) (by decide)
theorem d_jdk_39_m_1_0 : decode jdk_39_method_1_code 0 = .ok (.aload_n 0, 1) := by decide +kernel
theorem d_jdk_39_m_1_1 : decode jdk_39_method_1_code 1 = .ok (.invokespecial 1, 3) := by decide +kernel
theorem own_pd0 : parseMethodDescriptor "()V" = some ⟨[], none⟩ := by decide +kernel
theorem d_jdk_39_m_1_4 : decode jdk_39_method_1_code 4 = .ok (.aload_n 0, 1) := by decide +kernel
theorem d_jdk_39_m_1_5 : decode jdk_39_method_1_code 5 = .ok (.iconst 0, 1) := by decide +kernel
theorem d_jdk_39_m_1_6 : decode jdk_39_method_1_code 6 = .ok (.putfield 7, 3) := by decide +kernel
theorem d_jdk_39_m_1_9 : decode jdk_39_method_1_code 9 = .ok (.return_, 1) := by decide +kernel
theorem own_pn2 : plainName "java/util/AbstractList" = true := by first | (simp [plainName, overriddenIn]; done) | decide +kernel
theorem ef_rmAB (m : MethodId) (y0 : Addr) : entryFrame m #[(.ref y0)] 1 = mkF m 0 #[.val (.ref y0)] [] := by first | (simp [entryFrame, mkF, argsToLocals, Value.category]; done) | rfl
def Q_rmAB (Z : State) (a : Addr) (h0 : Heap) (n0 : Nat) (v : Option Value) (h : Heap) (L : List Loc) : Prop := v = none ∧ Fr n0 L ∧ Keep h0 h [a] ∧ Exa Z h a "java/util/ArrayList" ∧ Fld Z h a "java/util/AbstractList" "modCount" "I" (.int (0 : Int32)) ∧ Fld Z h a "java/util/ArrayList" "elementData" "[Ljava/lang/Object;" .null ∧ Fld Z h a "java/util/ArrayList" "size" "I" (.int (0 : Int32))
set_option maxRecDepth 65536 in
set_option maxHeartbeats 40000000 in
theorem rmAB (l : Launch) (Z : State) (a0 : Array Value) (hw : ∀ d ∈ tables_1, d.before a0 Z = true) (ws : List Jvm.Cond) (a : Addr) (h0 : Heap) (n0 : Nat) (Z0 : n0 ≤ h0.size) (E : Exa Z h0 a "java/util/ArrayList") (F1 : Fld Z h0 a "java/util/AbstractList" "modCount" "I" (.int (0 : Int32))) (F2 : Fld Z h0 a "java/util/ArrayList" "elementData" "[Ljava/lang/Object;" .null) (F3 : Fld Z h0 a "java/util/ArrayList" "size" "I" (.int (0 : Int32))) (G : n0 ≤ a) :
    MetFree l (⟨"java/util/AbstractList", "<init>", "()V"⟩ : MethodName) (head1 (Jvm.Cond.code (⟨"java/util/AbstractList", "<init>", "()V"⟩ : MethodName) jdk_39_method_1_code 1 none :: ws) ({ frames := 2, cells := 0, slots := 0, locals := 24 } : Room)) (fun ar U => ar = #[(.ref a)] ∧ Z.Warmed39 U.vm ∧ U.heap = h0) (fun _ _ _ _ _ => True) (fun _ U o U' => ∃ v L, o = .returned v ∧ Q_rmAB Z a h0 n0 v U'.heap L ∧ FrameEnd U o U' L ({ frames := 2, cells := 0, slots := 0, locals := 24 } : Room).cells ({ frames := 2, cells := 0, slots := 0, locals := 24 } : Room).slots) := by
  refine MetFree.of_bodySF (plainFor_of_name own_pn2) hisR ?_
  intro p e s m args below meth c s₁ Bd hml0 hP hK
  obtain ⟨rfl, hZ, hh⟩ := hP
  have hx := Bd.exec
  have hby := Bd.bytes
  have hlk : meth.locks = false := BodyLoose.notSynchronized Bd
  have hml : c.maxLocals = 1 := hml0
  have hown : s.vm.findClass "java/util/AbstractList" = some m.cls := findClass_of_methodNamed Bd.named
  have hnm := (name_of_methodNamed Bd.named Bd.method).1
  have X0 : Stand p l e ({ frames := 2, cells := 0, slots := 0, locals := 24 } : Room) s m #[(.ref a)] below meth c s₁ [] 0 0 := Stand.of_body Bd
  have e0 : s₁.heap = h0 := by rw [← hh, Bd.state]; rfl
  have N0 := Fr.nil n0
  show own_Go p.tables e below (fun u o => ∃ v L, o = .returned v ∧ Q_rmAB Z a h0 n0 v u.heap L ∧ FrameEnd s o u L ({ frames := 2, cells := 0, slots := 0, locals := 24 } : Room).cells ({ frames := 2, cells := 0, slots := 0, locals := 24 } : Room).slots) (s₁.setTop (entryFrame m #[(.ref a)] 1))
  refine own_up (fun _ k => castTop (ef_rmAB m a) k) ?_
  show own_Go p.tables e below _ (s₁.setTop (mkF m 0 #[.val (.ref a)] []))
  refine own_up (fun _ k => XS.aloadN X0.here hx rfl (hb hby d_jdk_39_m_1_0) rfl rfl k) ?_
  show own_Go p.tables e below _ (s₁.setTop (mkF m 1 #[.val (.ref a)] [(.ref a)]))
  obtain ⟨_, _, ⟨T1, L1, k1, n1⟩, -, X1, ⟨Lc1, hQ1, l1, y1, z1⟩, st1⟩ := X0.specialBack hx (y := (⟨"java/util/AbstractCollection", "<init>", "()V"⟩ : MethodName)) rfl hown (mvT hZ (hw _ (List.mem_of_getElem? (i := 22) rfl))) (mvT hZ (hw _ (List.mem_of_getElem? (i := 23) rfl))) (mvT hZ (hw _ (List.mem_of_getElem? (i := 27) rfl))) (by decide) (backOf (W := 0) (rmAC l Z a0 hw [] a h0 n0 Z0 ) hZ (hw _ (List.mem_of_getElem? (i := 27) rfl)) (hw _ (List.mem_of_getElem? (i := 26) rfl)) (by decide) (by decide)) (g := (mkF m 1 #[.val (.ref a)] [(.ref a)])) rfl (by rw [hml]; rfl) (Steps.refl _) (a := a) (argsL := []) (rest := []) (lenOf own_pd0 rfl) rfl (by show 2 * 0 + _ ≤ _; exact Nat.le_of_eq rfl) (hb hby d_jdk_39_m_1_1) (fun _ _ => ⟨rfl, e0, (by decide : 0 + 0 ≤ _), (by decide : 0 + 0 ≤ _)⟩)
  dsimp only [Pt.U, Pt.locs, Pt.cells, Pt.slots] at X1 l1 y1 z1 st1 hQ1
  subst l1 y1 z1
  obtain ⟨rfl, N1q, eq1⟩ := hQ1
  have N1 := Fr.app N0 N1q
  refine own_up (fun _ k => st1.trans k) ?_
  show own_Go p.tables e below _ (T1.setTop (mkF m 4 #[.val (.ref a)] []))
  refine own_up (fun _ k => XS.aloadN X1.here hx rfl (hb hby d_jdk_39_m_1_4) rfl rfl k) ?_
  show own_Go p.tables e below _ (T1.setTop (mkF m 5 #[.val (.ref a)] [(.ref a)]))
  refine own_up (fun _ k => XS.iconst X1.here hx rfl (hb hby d_jdk_39_m_1_5) k) ?_
  show own_Go p.tables e below _ (T1.setTop (mkF m 6 #[.val (.ref a)] [(.int (0 : Int32)), (.ref a)]))
  obtain ⟨T2, h2, X2, e2, W2, st2⟩ := putF X1 hx hZ hown (host := "") (Or.inl (hw _ (List.mem_of_getElem? (i := 29) rfl))) Via.refl eq1 F1 E (Or.inl (hw _ (List.mem_of_getElem? (i := 30) rfl))) (hw _ (List.mem_of_getElem? (i := 11) rfl)) (ty := .int) (by decide) rfl rfl (g := (mkF m 6 #[.val (.ref a)] [(.int (0 : Int32)), (.ref a)])) rfl rfl (hb hby d_jdk_39_m_1_6)
  have Fw2 := F1.same W2
  have N2 := Fr.snoc X2 N1 G
  refine own_up st2 ?_
  show own_Go p.tables e below _ (T2.setTop (mkF m 9 #[.val (.ref a)] []))
  have f3 : Exa Z h2 a "java/util/ArrayList" := (E.wr W2)
  have f4 : Fld Z h2 a "java/util/ArrayList" "elementData" "[Ljava/lang/Object;" .null := (F2.other W2 (Or.inr (slot_ne (Or.inl (hw _ (List.mem_of_getElem? (i := 33) rfl))) (Or.inl (hw _ (List.mem_of_getElem? (i := 30) rfl))) (by decide) (t := (.array (.object "java/lang/Object"))) (t' := .int) (by decide) (by decide))))
  have f5 : Fld Z h2 a "java/util/ArrayList" "size" "I" (.int (0 : Int32)) := (F3.other W2 (Or.inr (slot_ne (Or.inl (hw _ (List.mem_of_getElem? (i := 77) rfl))) (Or.inl (hw _ (List.mem_of_getElem? (i := 30) rfl))) (by decide) (t := .int) (t' := .int) (by decide) (by decide))))
  exact own_end X2 hlk (v := none) (fun _ => rfl) (fun fs hr => X2.returnOut hx Bd.returns (hb hby d_jdk_39_m_1_9) hr) e2 ⟨rfl, N2, ((Keep.refl h0 [a]).wr W2 (Or.inl (List.mem_of_getElem? (i := 0) rfl))), f3, Fw2, f4, f5⟩ (by decide) (by decide)
theorem d_jdk_38_m_2_0 : decode jdk_38_method_2_code 0 = .ok (.aload_n 0, 1) := by decide +kernel
theorem d_jdk_38_m_2_1 : decode jdk_38_method_2_code 1 = .ok (.invokespecial 1, 3) := by decide +kernel
theorem d_jdk_38_m_2_4 : decode jdk_38_method_2_code 4 = .ok (.aload_n 0, 1) := by decide +kernel
theorem d_jdk_38_m_2_5 : decode jdk_38_method_2_code 5 = .ok (.getstatic 39, 3) := by decide +kernel
theorem d_jdk_38_m_2_8 : decode jdk_38_method_2_code 8 = .ok (.putfield 9, 3) := by decide +kernel
theorem d_jdk_38_m_2_11 : decode jdk_38_method_2_code 11 = .ok (.return_, 1) := by decide +kernel
theorem own_pn3 : plainName "java/util/ArrayList" = true := by first | (simp [plainName, overriddenIn]; done) | decide +kernel
theorem ef_rmAL (m : MethodId) (y0 : Addr) : entryFrame m #[(.ref y0)] 1 = mkF m 0 #[.val (.ref y0)] [] := by first | (simp [entryFrame, mkF, argsToLocals, Value.category]; done) | rfl
def Q_rmAL (Z : State) (a : Addr) (de : Addr) (h0 : Heap) (n0 : Nat) (v : Option Value) (h : Heap) (L : List Loc) : Prop := v = none ∧ Fr n0 L ∧ Keep h0 h [a] ∧ Exa Z h a "java/util/ArrayList" ∧ Fld Z h a "java/util/AbstractList" "modCount" "I" (.int (0 : Int32)) ∧ Fld Z h a "java/util/ArrayList" "elementData" "[Ljava/lang/Object;" (.ref de) ∧ Fld Z h a "java/util/ArrayList" "size" "I" (.int (0 : Int32))
set_option maxRecDepth 65536 in
set_option maxHeartbeats 40000000 in
theorem rmAL (l : Launch) (Z : State) (a0 : Array Value) (hw : ∀ d ∈ tables_1, d.before a0 Z = true) (ws : List Jvm.Cond) (a : Addr) (de : Addr) (h0 : Heap) (n0 : Nat) (Z0 : n0 ≤ h0.size) (O : Old Z n0 h0) (S : Sta Z Z.heap "java/util/ArrayList" "DEFAULTCAPACITY_EMPTY_ELEMENTDATA" "[Ljava/lang/Object;" (.ref de)) (E : Exa Z h0 a "java/util/ArrayList") (F1 : Fld Z h0 a "java/util/AbstractList" "modCount" "I" (.int (0 : Int32))) (F2 : Fld Z h0 a "java/util/ArrayList" "elementData" "[Ljava/lang/Object;" .null) (F3 : Fld Z h0 a "java/util/ArrayList" "size" "I" (.int (0 : Int32))) (G : n0 ≤ a) :
    MetFree l (⟨"java/util/ArrayList", "<init>", "()V"⟩ : MethodName) (head1 (Jvm.Cond.code (⟨"java/util/ArrayList", "<init>", "()V"⟩ : MethodName) jdk_38_method_2_code 1 none :: ws) ({ frames := 3, cells := 0, slots := 0, locals := 36 } : Room)) (fun ar U => ar = #[(.ref a)] ∧ Z.Warmed39 U.vm ∧ U.heap = h0) (fun _ _ _ _ _ => True) (fun _ U o U' => ∃ v L, o = .returned v ∧ Q_rmAL Z a de h0 n0 v U'.heap L ∧ FrameEnd U o U' L ({ frames := 3, cells := 0, slots := 0, locals := 36 } : Room).cells ({ frames := 3, cells := 0, slots := 0, locals := 36 } : Room).slots) := by
  refine MetFree.of_bodySF (plainFor_of_name own_pn3) hisR ?_
  intro p e s m args below meth c s₁ Bd hml0 hP hK
  obtain ⟨rfl, hZ, hh⟩ := hP
  have hx := Bd.exec
  have hby := Bd.bytes
  have hlk : meth.locks = false := BodyLoose.notSynchronized Bd
  have hml : c.maxLocals = 1 := hml0
  have hown : s.vm.findClass "java/util/ArrayList" = some m.cls := findClass_of_methodNamed Bd.named
  have hnm := (name_of_methodNamed Bd.named Bd.method).1
  have X0 : Stand p l e ({ frames := 3, cells := 0, slots := 0, locals := 36 } : Room) s m #[(.ref a)] below meth c s₁ [] 0 0 := Stand.of_body Bd
  have e0 : s₁.heap = h0 := by rw [← hh, Bd.state]; rfl
  have N0 := Fr.nil n0
  show own_Go p.tables e below (fun u o => ∃ v L, o = .returned v ∧ Q_rmAL Z a de h0 n0 v u.heap L ∧ FrameEnd s o u L ({ frames := 3, cells := 0, slots := 0, locals := 36 } : Room).cells ({ frames := 3, cells := 0, slots := 0, locals := 36 } : Room).slots) (s₁.setTop (entryFrame m #[(.ref a)] 1))
  refine own_up (fun _ k => castTop (ef_rmAL m a) k) ?_
  show own_Go p.tables e below _ (s₁.setTop (mkF m 0 #[.val (.ref a)] []))
  refine own_up (fun _ k => XS.aloadN X0.here hx rfl (hb hby d_jdk_38_m_2_0) rfl rfl k) ?_
  show own_Go p.tables e below _ (s₁.setTop (mkF m 1 #[.val (.ref a)] [(.ref a)]))
  obtain ⟨_, _, ⟨T1, L1, k1, n1⟩, -, X1, ⟨Lc1, hQ1, l1, y1, z1⟩, st1⟩ := X0.specialBack hx (y := (⟨"java/util/AbstractList", "<init>", "()V"⟩ : MethodName)) rfl hown (mvT hZ (hw _ (List.mem_of_getElem? (i := 16) rfl))) (mvT hZ (hw _ (List.mem_of_getElem? (i := 17) rfl))) (mvT hZ (hw _ (List.mem_of_getElem? (i := 21) rfl))) (by decide) (backOf (W := 0) (rmAB l Z a0 hw [] a h0 n0 Z0 E F1 F2 F3 G) hZ (hw _ (List.mem_of_getElem? (i := 21) rfl)) (hw _ (List.mem_of_getElem? (i := 20) rfl)) (by decide) (by decide)) (g := (mkF m 1 #[.val (.ref a)] [(.ref a)])) rfl (by rw [hml]; rfl) (Steps.refl _) (a := a) (argsL := []) (rest := []) (lenOf own_pd0 rfl) rfl (by show 2 * 0 + _ ≤ _; exact Nat.le_of_eq rfl) (hb hby d_jdk_38_m_2_1) (fun _ _ => ⟨rfl, e0, (by decide : 0 + 0 ≤ _), (by decide : 0 + 0 ≤ _)⟩)
  dsimp only [Pt.U, Pt.locs, Pt.cells, Pt.slots] at X1 l1 y1 z1 st1 hQ1
  subst l1 y1 z1
  obtain ⟨rfl, N1q, K1, P1_0, P1_1, P1_2, P1_3⟩ := hQ1
  have N1 := Fr.app N0 N1q
  refine own_up (fun _ k => st1.trans k) ?_
  show own_Go p.tables e below _ (T1.setTop (mkF m 4 #[.val (.ref a)] []))
  refine own_up (fun _ k => XS.aloadN X1.here hx rfl (hb hby d_jdk_38_m_2_4) rfl rfl k) ?_
  show own_Go p.tables e below _ (T1.setTop (mkF m 5 #[.val (.ref a)] [(.ref a)]))
  have f3 : Old Z n0 T1.heap := (O.keep K1 (allS G all0))
  obtain ⟨T2, X2, e2, st2⟩ := getS2 X1 hx hZ hown (host := "") (Or.inl (hw _ (List.mem_of_getElem? (i := 31) rfl))) Via.refl rfl (S.ext f3.2) (g := (mkF m 5 #[.val (.ref a)] [(.ref a)])) rfl (hb hby d_jdk_38_m_2_5)
  refine own_up st2 ?_
  show own_Go p.tables e below _ (T2.setTop (mkF m 8 #[.val (.ref a)] [(.ref de), (.ref a)]))
  obtain ⟨T4, h4, X4, e4, W4, st4⟩ := putF X2 hx hZ hown (host := "") (Or.inl (hw _ (List.mem_of_getElem? (i := 32) rfl))) Via.refl e2 P1_2 P1_0 (Or.inl (hw _ (List.mem_of_getElem? (i := 33) rfl))) (hw _ (List.mem_of_getElem? (i := 11) rfl)) (ty := (.array (.object "java/lang/Object"))) (by decide) rfl rfl (g := (mkF m 8 #[.val (.ref a)] [(.ref de), (.ref a)])) rfl rfl (hb hby d_jdk_38_m_2_8)
  have Fw4 := P1_2.same W4
  have N4 := Fr.snoc X4 N1 G
  refine own_up st4 ?_
  show own_Go p.tables e below _ (T4.setTop (mkF m 11 #[.val (.ref a)] []))
  have f5 : Exa Z h4 a "java/util/ArrayList" := (P1_0.wr W4)
  have f6 : Fld Z h4 a "java/util/AbstractList" "modCount" "I" (.int (0 : Int32)) := (P1_1.other W4 (Or.inr (slot_ne (Or.inl (hw _ (List.mem_of_getElem? (i := 30) rfl))) (Or.inl (hw _ (List.mem_of_getElem? (i := 33) rfl))) (by decide) (t := .int) (t' := (.array (.object "java/lang/Object"))) (by decide) (by decide))))
  have f7 : Fld Z h4 a "java/util/ArrayList" "size" "I" (.int (0 : Int32)) := (P1_3.other W4 (Or.inr (slot_ne (Or.inl (hw _ (List.mem_of_getElem? (i := 77) rfl))) (Or.inl (hw _ (List.mem_of_getElem? (i := 33) rfl))) (by decide) (t := .int) (t' := (.array (.object "java/lang/Object"))) (by decide) (by decide))))
  exact own_end X4 hlk (v := none) (fun _ => rfl) (fun fs hr => X4.returnOut hx Bd.returns (hb hby d_jdk_38_m_2_11) hr) e4 ⟨rfl, N4, (((Keep.refl h0 [a]).trans K1 (allS (Or.inl (List.mem_of_getElem? (i := 0) rfl)) all0)).wr W4 (Or.inl (List.mem_of_getElem? (i := 0) rfl))), f5, f6, Fw4, f7⟩ (by decide) (by decide)
theorem d_jdk_69_m_7_0 : decode jdk_69_method_7_code 0 = .ok (.aload_n 0, 1) := by decide +kernel
theorem d_jdk_69_m_7_1 : decode jdk_69_method_7_code 1 = .ok (.invokespecial 43, 3) := by decide +kernel
theorem d_jdk_69_m_7_4 : decode jdk_69_method_7_code 4 = .ok (.aload_n 0, 1) := by decide +kernel
theorem d_jdk_69_m_7_5 : decode jdk_69_method_7_code 5 = .ok (.ldc 92, 2) := by decide +kernel
theorem d_jdk_69_m_7_7 : decode jdk_69_method_7_code 7 = .ok (.putfield 81, 3) := by decide +kernel
theorem d_jdk_69_m_7_10 : decode jdk_69_method_7_code 10 = .ok (.return_, 1) := by decide +kernel
theorem own_pn4 : plainName "java/util/HashMap" = true := by first | (simp [plainName, overriddenIn]; done) | decide +kernel
theorem ef_rmHM (m : MethodId) (y0 : Addr) : entryFrame m #[(.ref y0)] 1 = mkF m 0 #[.val (.ref y0)] [] := by first | (simp [entryFrame, mkF, argsToLocals, Value.category]; done) | rfl
def Q_rmHM (Z : State) (a : Addr) (h0 : Heap) (n0 : Nat) (v : Option Value) (h : Heap) (L : List Loc) : Prop := v = none ∧ Fr n0 L ∧ Keep h0 h [a] ∧ Exa Z h a "java/util/HashMap"
set_option maxRecDepth 65536 in
set_option maxHeartbeats 40000000 in
theorem rmHM (l : Launch) (Z : State) (a0 : Array Value) (hw : ∀ d ∈ tables_1, d.before a0 Z = true) (ws : List Jvm.Cond) (a : Addr) (h0 : Heap) (n0 : Nat) (Z0 : n0 ≤ h0.size) (E : Exa Z h0 a "java/util/HashMap") (F1 : Fld Z h0 a "java/util/HashMap" "loadFactor" "F" (.float (0 : UInt32))) (G : n0 ≤ a) :
    MetFree l (⟨"java/util/HashMap", "<init>", "()V"⟩ : MethodName) (head1 (Jvm.Cond.code (⟨"java/util/HashMap", "<init>", "()V"⟩ : MethodName) jdk_69_method_7_code 1 none :: ws) ({ frames := 2, cells := 0, slots := 0, locals := 24 } : Room)) (fun ar U => ar = #[(.ref a)] ∧ Z.Warmed39 U.vm ∧ U.heap = h0) (fun _ _ _ _ _ => True) (fun _ U o U' => ∃ v L, o = .returned v ∧ Q_rmHM Z a h0 n0 v U'.heap L ∧ FrameEnd U o U' L ({ frames := 2, cells := 0, slots := 0, locals := 24 } : Room).cells ({ frames := 2, cells := 0, slots := 0, locals := 24 } : Room).slots) := by
  refine MetFree.of_bodySF (plainFor_of_name own_pn4) hisR ?_
  intro p e s m args below meth c s₁ Bd hml0 hP hK
  obtain ⟨rfl, hZ, hh⟩ := hP
  have hx := Bd.exec
  have hby := Bd.bytes
  have hlk : meth.locks = false := BodyLoose.notSynchronized Bd
  have hml : c.maxLocals = 1 := hml0
  have hown : s.vm.findClass "java/util/HashMap" = some m.cls := findClass_of_methodNamed Bd.named
  have hnm := (name_of_methodNamed Bd.named Bd.method).1
  have X0 : Stand p l e ({ frames := 2, cells := 0, slots := 0, locals := 24 } : Room) s m #[(.ref a)] below meth c s₁ [] 0 0 := Stand.of_body Bd
  have e0 : s₁.heap = h0 := by rw [← hh, Bd.state]; rfl
  have N0 := Fr.nil n0
  show own_Go p.tables e below (fun u o => ∃ v L, o = .returned v ∧ Q_rmHM Z a h0 n0 v u.heap L ∧ FrameEnd s o u L ({ frames := 2, cells := 0, slots := 0, locals := 24 } : Room).cells ({ frames := 2, cells := 0, slots := 0, locals := 24 } : Room).slots) (s₁.setTop (entryFrame m #[(.ref a)] 1))
  refine own_up (fun _ k => castTop (ef_rmHM m a) k) ?_
  show own_Go p.tables e below _ (s₁.setTop (mkF m 0 #[.val (.ref a)] []))
  refine own_up (fun _ k => XS.aloadN X0.here hx rfl (hb hby d_jdk_69_m_7_0) rfl rfl k) ?_
  show own_Go p.tables e below _ (s₁.setTop (mkF m 1 #[.val (.ref a)] [(.ref a)]))
  obtain ⟨_, _, ⟨T1, L1, k1, n1⟩, -, X1, ⟨Lc1, hQ1, l1, y1, z1⟩, st1⟩ := X0.specialBack hx (y := (⟨"java/util/AbstractMap", "<init>", "()V"⟩ : MethodName)) rfl hown (mvT hZ (hw _ (List.mem_of_getElem? (i := 42) rfl))) (mvT hZ (hw _ (List.mem_of_getElem? (i := 43) rfl))) (mvT hZ (hw _ (List.mem_of_getElem? (i := 47) rfl))) (by decide) (backOf (W := 0) (rmAM l Z a0 hw [] a h0 n0 Z0 ) hZ (hw _ (List.mem_of_getElem? (i := 47) rfl)) (hw _ (List.mem_of_getElem? (i := 46) rfl)) (by decide) (by decide)) (g := (mkF m 1 #[.val (.ref a)] [(.ref a)])) rfl (by rw [hml]; rfl) (Steps.refl _) (a := a) (argsL := []) (rest := []) (lenOf own_pd0 rfl) rfl (by show 2 * 0 + _ ≤ _; exact Nat.le_of_eq rfl) (hb hby d_jdk_69_m_7_1) (fun _ _ => ⟨rfl, e0, (by decide : 0 + 0 ≤ _), (by decide : 0 + 0 ≤ _)⟩)
  dsimp only [Pt.U, Pt.locs, Pt.cells, Pt.slots] at X1 l1 y1 z1 st1 hQ1
  subst l1 y1 z1
  obtain ⟨rfl, N1q, eq1⟩ := hQ1
  have N1 := Fr.app N0 N1q
  refine own_up (fun _ k => st1.trans k) ?_
  show own_Go p.tables e below _ (T1.setTop (mkF m 4 #[.val (.ref a)] []))
  refine own_up (fun _ k => XS.aloadN X1.here hx rfl (hb hby d_jdk_69_m_7_4) rfl rfl k) ?_
  show own_Go p.tables e below _ (T1.setTop (mkF m 5 #[.val (.ref a)] [(.ref a)]))
  refine own_up (fun _ k => X1.ldcFloatC hx hown (mvT hZ (hw _ (List.mem_of_getElem? (i := 49) rfl))) (g := (mkF m 5 #[.val (.ref a)] [(.ref a)])) rfl (hb hby d_jdk_69_m_7_5) _ k) ?_
  show own_Go p.tables e below _ (T1.setTop (mkF m 7 #[.val (.ref a)] [(.float (1061158912 : UInt32)), (.ref a)]))
  obtain ⟨T2, h2, X2, e2, W2, st2⟩ := putF X1 hx hZ hown (host := "") (Or.inl (hw _ (List.mem_of_getElem? (i := 50) rfl))) Via.refl eq1 F1 E (Or.inr ⟨(hw _ (List.mem_of_getElem? (i := 51) rfl)), rfl, hnm⟩) (hw _ (List.mem_of_getElem? (i := 37) rfl)) (ty := .float) (by decide) rfl rfl (g := (mkF m 7 #[.val (.ref a)] [(.float (1061158912 : UInt32)), (.ref a)])) rfl rfl (hb hby d_jdk_69_m_7_7)
  have Fw2 := F1.same W2
  have N2 := Fr.snoc X2 N1 G
  refine own_up st2 ?_
  show own_Go p.tables e below _ (T2.setTop (mkF m 10 #[.val (.ref a)] []))
  have f3 : Exa Z h2 a "java/util/HashMap" := (E.wr W2)
  exact own_end X2 hlk (v := none) (fun _ => rfl) (fun fs hr => X2.returnOut hx Bd.returns (hb hby d_jdk_69_m_7_10) hr) e2 ⟨rfl, N2, ((Keep.refl h0 [a]).wr W2 (Or.inl (List.mem_of_getElem? (i := 0) rfl))), f3⟩ (by decide) (by decide)
theorem d_prog_14_m_1_0 : decode prog_14_method_1_code 0 = .ok (.aload_n 0, 1) := by decide +kernel
theorem d_prog_14_m_1_1 : decode prog_14_method_1_code 1 = .ok (.invokespecial 1, 3) := by decide +kernel
theorem d_prog_14_m_1_4 : decode prog_14_method_1_code 4 = .ok (.aload_n 0, 1) := by decide +kernel
theorem d_prog_14_m_1_5 : decode prog_14_method_1_code 5 = .ok (.new 7, 3) := by decide +kernel
theorem d_prog_14_m_1_8 : decode prog_14_method_1_code 8 = .ok (.dup, 1) := by decide +kernel
theorem d_prog_14_m_1_9 : decode prog_14_method_1_code 9 = .ok (.invokespecial 9, 3) := by decide +kernel
theorem d_prog_14_m_1_12 : decode prog_14_method_1_code 12 = .ok (.putfield 10, 3) := by decide +kernel
theorem d_prog_14_m_1_15 : decode prog_14_method_1_code 15 = .ok (.aload_n 0, 1) := by decide +kernel
theorem d_prog_14_m_1_16 : decode prog_14_method_1_code 16 = .ok (.new 16, 3) := by decide +kernel
theorem d_prog_14_m_1_19 : decode prog_14_method_1_code 19 = .ok (.dup, 1) := by decide +kernel
theorem d_prog_14_m_1_20 : decode prog_14_method_1_code 20 = .ok (.invokespecial 18, 3) := by decide +kernel
theorem d_prog_14_m_1_23 : decode prog_14_method_1_code 23 = .ok (.putfield 19, 3) := by decide +kernel
theorem d_prog_14_m_1_26 : decode prog_14_method_1_code 26 = .ok (.aload_n 0, 1) := by decide +kernel
theorem d_prog_14_m_1_27 : decode prog_14_method_1_code 27 = .ok (.bipush 16, 2) := by decide +kernel
theorem d_prog_14_m_1_29 : decode prog_14_method_1_code 29 = .ok (.newarray .int, 2) := by decide +kernel
theorem d_prog_14_m_1_31 : decode prog_14_method_1_code 31 = .ok (.putfield 23, 3) := by decide +kernel
theorem d_prog_14_m_1_34 : decode prog_14_method_1_code 34 = .ok (.aload_n 0, 1) := by decide +kernel
theorem d_prog_14_m_1_35 : decode prog_14_method_1_code 35 = .ok (.bipush 16, 2) := by decide +kernel
theorem d_prog_14_m_1_37 : decode prog_14_method_1_code 37 = .ok (.newarray .int, 2) := by decide +kernel
theorem d_prog_14_m_1_39 : decode prog_14_method_1_code 39 = .ok (.putfield 27, 3) := by decide +kernel
theorem d_prog_14_m_1_42 : decode prog_14_method_1_code 42 = .ok (.aload_n 0, 1) := by decide +kernel
theorem d_prog_14_m_1_43 : decode prog_14_method_1_code 43 = .ok (.bipush 16, 2) := by decide +kernel
theorem d_prog_14_m_1_45 : decode prog_14_method_1_code 45 = .ok (.newarray .int, 2) := by decide +kernel
theorem d_prog_14_m_1_47 : decode prog_14_method_1_code 47 = .ok (.putfield 30, 3) := by decide +kernel
theorem d_prog_14_m_1_50 : decode prog_14_method_1_code 50 = .ok (.return_, 1) := by decide +kernel
theorem own_pn5 : plainName "com/example/hintikka/hintikka/domain/ConstraintNetwork" = true := by first | (simp [plainName, overriddenIn]; done) | decide +kernel
theorem ef_rmCN (m : MethodId) (y0 : Addr) : entryFrame m #[(.ref y0)] 1 = mkF m 0 #[.val (.ref y0)] [] := by first | (simp [entryFrame, mkF, argsToLocals, Value.category]; done) | rfl
def Q_rmCN (Z : State) (cn : Addr) (de : Addr) (h0 : Heap) (n0 : Nat) (v : Option Value) (h : Heap) (L : List Loc) : Prop := ∃ (al : Addr) (la : Addr) (re : Addr) (ri : Addr) (ka : ClassId) (ke : ClassId) (ki : ClassId), v = none ∧ Fr n0 L ∧ Keep h0 h [cn] ∧ h0.size ≤ al ∧ h0.size ≤ la ∧ h0.size ≤ re ∧ h0.size ≤ ri ∧ n0 ≤ al ∧ n0 ≤ la ∧ n0 ≤ re ∧ n0 ≤ ri ∧ cn ≠ al ∧ cn ≠ la ∧ cn ≠ re ∧ cn ≠ ri ∧ al ≠ la ∧ al ≠ re ∧ al ≠ ri ∧ la ≠ re ∧ la ≠ ri ∧ re ≠ ri ∧ Exa Z h cn "com/example/hintikka/hintikka/domain/ConstraintNetwork" ∧ Fld Z h cn "com/example/hintikka/hintikka/domain/ConstraintNetwork" "constants" "Ljava/util/List;" (.ref al) ∧ Fld Z h cn "com/example/hintikka/hintikka/domain/ConstraintNetwork" "size" "I" (.int (0 : Int32)) ∧ Fld Z h cn "com/example/hintikka/hintikka/domain/ConstraintNetwork" "lefts" "[I" (.ref la) ∧ Fld Z h cn "com/example/hintikka/hintikka/domain/ConstraintNetwork" "relations" "[I" (.ref re) ∧ Fld Z h cn "com/example/hintikka/hintikka/domain/ConstraintNetwork" "rights" "[I" (.ref ri) ∧ Arv Z h la ka .int (16 : Int32) [(.int (0 : Int32)), (.int (0 : Int32)), (.int (0 : Int32)), (.int (0 : Int32))] (.int (0 : Int32)) ∧ Arv Z h re ke .int (16 : Int32) [(.int (0 : Int32)), (.int (0 : Int32)), (.int (0 : Int32)), (.int (0 : Int32))] (.int (0 : Int32)) ∧ Arv Z h ri ki .int (16 : Int32) [(.int (0 : Int32)), (.int (0 : Int32)), (.int (0 : Int32)), (.int (0 : Int32))] (.int (0 : Int32)) ∧ Exa Z h al "java/util/ArrayList" ∧ Fld Z h al "java/util/AbstractList" "modCount" "I" (.int (0 : Int32)) ∧ Fld Z h al "java/util/ArrayList" "elementData" "[Ljava/lang/Object;" (.ref de) ∧ Fld Z h al "java/util/ArrayList" "size" "I" (.int (0 : Int32))
set_option maxRecDepth 65536 in
set_option maxHeartbeats 40000000 in
theorem rmCN (l : Launch) (Z : State) (a0 : Array Value) (hw : ∀ d ∈ tables_1, d.before a0 Z = true) (ws : List Jvm.Cond) (cn : Addr) (de : Addr) (h0 : Heap) (n0 : Nat) (Z0 : n0 ≤ h0.size) (O : Old Z n0 h0) (S : Sta Z Z.heap "java/util/ArrayList" "DEFAULTCAPACITY_EMPTY_ELEMENTDATA" "[Ljava/lang/Object;" (.ref de)) (E : Exa Z h0 cn "com/example/hintikka/hintikka/domain/ConstraintNetwork") (F1 : Fld Z h0 cn "com/example/hintikka/hintikka/domain/ConstraintNetwork" "constants" "Ljava/util/List;" .null) (F2 : Fld Z h0 cn "com/example/hintikka/hintikka/domain/ConstraintNetwork" "constantVariables" "Ljava/util/Map;" .null) (F3 : Fld Z h0 cn "com/example/hintikka/hintikka/domain/ConstraintNetwork" "lefts" "[I" .null) (F4 : Fld Z h0 cn "com/example/hintikka/hintikka/domain/ConstraintNetwork" "relations" "[I" .null) (F5 : Fld Z h0 cn "com/example/hintikka/hintikka/domain/ConstraintNetwork" "rights" "[I" .null) (F6 : Fld Z h0 cn "com/example/hintikka/hintikka/domain/ConstraintNetwork" "size" "I" (.int (0 : Int32))) (G : n0 ≤ cn) :
    MetFree l (⟨"com/example/hintikka/hintikka/domain/ConstraintNetwork", "<init>", "()V"⟩ : MethodName) (head1 (Jvm.Cond.code (⟨"com/example/hintikka/hintikka/domain/ConstraintNetwork", "<init>", "()V"⟩ : MethodName) prog_14_method_1_code 1 none :: ws) ({ frames := 4, cells := 5, slots := 59, locals := 50 } : Room)) (fun ar U => ar = #[(.ref cn)] ∧ Z.Warmed39 U.vm ∧ U.heap = h0) (fun _ _ _ _ _ => True) (fun _ U o U' => ∃ v L, o = .returned v ∧ Q_rmCN Z cn de h0 n0 v U'.heap L ∧ FrameEnd U o U' L ({ frames := 4, cells := 5, slots := 59, locals := 50 } : Room).cells ({ frames := 4, cells := 5, slots := 59, locals := 50 } : Room).slots) := by
  refine MetFree.of_bodySF (plainFor_of_name own_pn5) hisR ?_
  intro p e s m args below meth c s₁ Bd hml0 hP hK
  obtain ⟨rfl, hZ, hh⟩ := hP
  have hx := Bd.exec
  have hby := Bd.bytes
  have hlk : meth.locks = false := BodyLoose.notSynchronized Bd
  have hml : c.maxLocals = 1 := hml0
  have hown : s.vm.findClass "com/example/hintikka/hintikka/domain/ConstraintNetwork" = some m.cls := findClass_of_methodNamed Bd.named
  have hnm := (name_of_methodNamed Bd.named Bd.method).1
  have X0 : Stand p l e ({ frames := 4, cells := 5, slots := 59, locals := 50 } : Room) s m #[(.ref cn)] below meth c s₁ [] 0 0 := Stand.of_body Bd
  have e0 : s₁.heap = h0 := by rw [← hh, Bd.state]; rfl
  have N0 := Fr.nil n0
  show own_Go p.tables e below (fun u o => ∃ v L, o = .returned v ∧ Q_rmCN Z cn de h0 n0 v u.heap L ∧ FrameEnd s o u L ({ frames := 4, cells := 5, slots := 59, locals := 50 } : Room).cells ({ frames := 4, cells := 5, slots := 59, locals := 50 } : Room).slots) (s₁.setTop (entryFrame m #[(.ref cn)] 1))
  refine own_up (fun _ k => castTop (ef_rmCN m cn) k) ?_
  show own_Go p.tables e below _ (s₁.setTop (mkF m 0 #[.val (.ref cn)] []))
  refine own_up (fun _ k => XS.aloadN X0.here hx rfl (hb hby d_prog_14_m_1_0) rfl rfl k) ?_
  show own_Go p.tables e below _ (s₁.setTop (mkF m 1 #[.val (.ref cn)] [(.ref cn)]))
  obtain ⟨T1, X1, e1, st1⟩ := initO X0 hx hZ hown (hw _ (List.mem_of_getElem? (i := 7) rfl)) (hw _ (List.mem_of_getElem? (i := 8) rfl)) (hw _ (List.mem_of_getElem? (i := 9) rfl)) e0 (g := (mkF m 1 #[.val (.ref cn)] [(.ref cn)])) rfl (by rw [hml]; rfl) rfl (hb hby d_prog_14_m_1_1) (by decide) (W := 0) (by show 2 * 0 + _ ≤ _; exact Nat.le_of_eq rfl) (by decide)
  refine own_up st1 ?_
  show own_Go p.tables e below _ (T1.setTop (mkF m 4 #[.val (.ref cn)] []))
  refine own_up (fun _ k => XS.aloadN X1.here hx rfl (hb hby d_prog_14_m_1_4) rfl rfl k) ?_
  show own_Go p.tables e below _ (T1.setTop (mkF m 5 #[.val (.ref cn)] [(.ref cn)]))
  obtain ⟨T2, h2, X2, e2, E2, A2, D2, -, st2⟩ := newO X1 hx hZ hown (hw _ (List.mem_of_getElem? (i := 10) rfl)) (hw _ (List.mem_of_getElem? (i := 11) rfl)) (hw _ (List.mem_of_getElem? (i := 12) rfl)) e1 (g := (mkF m 5 #[.val (.ref cn)] [(.ref cn)])) rfl (hb hby d_prog_14_m_1_5) (by decide) (by decide)
  obtain ⟨b2, g2⟩ : ∃ z, z = h0.size := ⟨_, rfl⟩
  rw [← g2] at A2 D2 st2
  have ge2 : n0 ≤ b2 := Nat.le_trans Z0 (Nat.le_of_eq g2.symm)
  have ne2_0 : cn ≠ b2 := Nat.ne_of_lt (Nat.lt_of_lt_of_le E.lt (Nat.le_of_eq g2.symm))
  have sz2 : h0.size ≤ b2 := Nat.le_trans (Nat.le_refl _) (Nat.le_of_eq g2.symm)
  refine own_up st2 ?_
  have F2_modCount : Fld Z h2 b2 "java/util/AbstractList" "modCount" "I" (.int (0 : Int32)) := D2 (Or.inl (hw _ (List.mem_of_getElem? (i := 30) rfl))) (ty := .int) (by decide)
  have F2_elementData : Fld Z h2 b2 "java/util/ArrayList" "elementData" "[Ljava/lang/Object;" .null := D2 (Or.inl (hw _ (List.mem_of_getElem? (i := 33) rfl))) (ty := (.array (.object "java/lang/Object"))) (by decide)
  have F2_size : Fld Z h2 b2 "java/util/ArrayList" "size" "I" (.int (0 : Int32)) := D2 (Or.inl (hw _ (List.mem_of_getElem? (i := 77) rfl))) (ty := .int) (by decide)
  show own_Go p.tables e below _ (T2.setTop (mkF m 8 #[.val (.ref cn)] [(.ref b2), (.ref cn)]))
  refine own_up (fun _ k => XS.dup X2.here hx rfl (hb hby d_prog_14_m_1_8) rfl rfl k) ?_
  show own_Go p.tables e below _ (T2.setTop (mkF m 9 #[.val (.ref cn)] [(.ref b2), (.ref b2), (.ref cn)]))
  have f4 : Old Z n0 h2 := (O.ext E2)
  have f5 : n0 ≤ h2.size := (Nat.le_trans Z0 E2.1)
  obtain ⟨_, _, ⟨T3, L3, k3, n3⟩, -, X3, ⟨Lc3, hQ3, l3, y3, z3⟩, st3⟩ := X2.specialBack hx (y := (⟨"java/util/ArrayList", "<init>", "()V"⟩ : MethodName)) rfl hown (mvT hZ (hw _ (List.mem_of_getElem? (i := 13) rfl))) (mvT hZ (hw _ (List.mem_of_getElem? (i := 14) rfl))) (mvT hZ (hw _ (List.mem_of_getElem? (i := 15) rfl))) (by decide) (backOf (W := 2) (rmAL l Z a0 hw [] b2 de h2 n0 f5 f4 S A2 F2_modCount F2_elementData F2_size ge2) hZ (hw _ (List.mem_of_getElem? (i := 15) rfl)) (hw _ (List.mem_of_getElem? (i := 12) rfl)) (by decide) (by decide)) (g := (mkF m 9 #[.val (.ref cn)] [(.ref b2), (.ref b2), (.ref cn)])) rfl (by rw [hml]; rfl) (Steps.refl _) (a := b2) (argsL := []) (rest := [(.ref b2), (.ref cn)]) (lenOf own_pd0 rfl) rfl (by show 2 * 0 + _ ≤ _; exact Nat.le_of_eq rfl) (hb hby d_prog_14_m_1_9) (fun _ _ => ⟨rfl, e2, (by decide : 1 + 0 ≤ _), (by decide : 3 + 0 ≤ _)⟩)
  dsimp only [Pt.U, Pt.locs, Pt.cells, Pt.slots] at X3 l3 y3 z3 st3 hQ3
  subst l3 y3 z3
  have f6 : h0.size ≤ h2.size := (Nat.le_trans (Nat.le_refl _) E2.1)
  obtain ⟨rfl, N3q, K3, P3_0, P3_1, P3_2, P3_3⟩ := hQ3
  have N3 := Fr.app N0 N3q
  refine own_up (fun _ k => st3.trans k) ?_
  show own_Go p.tables e below _ (T3.setTop (mkF m 12 #[.val (.ref cn)] [(.ref b2), (.ref cn)]))
  have f7 : Fld Z T3.heap cn "com/example/hintikka/hintikka/domain/ConstraintNetwork" "constants" "Ljava/util/List;" .null := ((F1.ext E2).keep K3 (ninS ne2_0 nin0))
  have f8 : Exa Z T3.heap cn "com/example/hintikka/hintikka/domain/ConstraintNetwork" := ((E.ext E2).keep K3)
  obtain ⟨T9, h9, X9, e9, W9, st9⟩ := putF X3 hx hZ hown (host := "") (Or.inl (hw _ (List.mem_of_getElem? (i := 34) rfl))) Via.refl rfl f7 f8 (Or.inr ⟨(hw _ (List.mem_of_getElem? (i := 35) rfl)), rfl, hnm⟩) (hw _ (List.mem_of_getElem? (i := 2) rfl)) (ty := (.object "java/util/List")) (by decide) rfl rfl (g := (mkF m 12 #[.val (.ref cn)] [(.ref b2), (.ref cn)])) rfl rfl (hb hby d_prog_14_m_1_12)
  have Fw9 := f7.same W9
  have N9 := Fr.snoc X9 N3 G
  refine own_up st9 ?_
  show own_Go p.tables e below _ (T9.setTop (mkF m 15 #[.val (.ref cn)] []))
  refine own_up (fun _ k => XS.aloadN X9.here hx rfl (hb hby d_prog_14_m_1_15) rfl rfl k) ?_
  show own_Go p.tables e below _ (T9.setTop (mkF m 16 #[.val (.ref cn)] [(.ref cn)]))
  obtain ⟨T10, h10, X10, e10, E10, A10, D10, -, st10⟩ := newO X9 hx hZ hown (hw _ (List.mem_of_getElem? (i := 36) rfl)) (hw _ (List.mem_of_getElem? (i := 37) rfl)) (hw _ (List.mem_of_getElem? (i := 38) rfl)) e9 (g := (mkF m 16 #[.val (.ref cn)] [(.ref cn)])) rfl (hb hby d_prog_14_m_1_16) (by decide) (by decide)
  have f11 : n0 ≤ h9.size := (Nat.le_trans (Nat.le_trans f5 K3.1) (Nat.le_of_eq (Wr.size W9).symm))
  have f12 : h0.size ≤ h9.size := (Nat.le_trans (Nat.le_trans f6 K3.1) (Nat.le_of_eq (Wr.size W9).symm))
  have f13 : Exa Z h9 cn "com/example/hintikka/hintikka/domain/ConstraintNetwork" := (f8.wr W9)
  have f14 : Exa Z h9 b2 "java/util/ArrayList" := (P3_0.wr W9)
  obtain ⟨b10, g10⟩ : ∃ z, z = h9.size := ⟨_, rfl⟩
  rw [← g10] at A10 D10 st10
  have ge10 : n0 ≤ b10 := Nat.le_trans f11 (Nat.le_of_eq g10.symm)
  have ne10_0 : cn ≠ b10 := Nat.ne_of_lt (Nat.lt_of_lt_of_le f13.lt (Nat.le_of_eq g10.symm))
  have ne10_1 : b2 ≠ b10 := Nat.ne_of_lt (Nat.lt_of_lt_of_le f14.lt (Nat.le_of_eq g10.symm))
  have sz10 : h0.size ≤ b10 := Nat.le_trans f12 (Nat.le_of_eq g10.symm)
  refine own_up st10 ?_
  have F10_loadFactor : Fld Z h10 b10 "java/util/HashMap" "loadFactor" "F" (.float (0 : UInt32)) := D10 (Or.inr (hw _ (List.mem_of_getElem? (i := 51) rfl))) (ty := .float) (by decide)
  show own_Go p.tables e below _ (T10.setTop (mkF m 19 #[.val (.ref cn)] [(.ref b10), (.ref cn)]))
  refine own_up (fun _ k => XS.dup X10.here hx rfl (hb hby d_prog_14_m_1_19) rfl rfl k) ?_
  show own_Go p.tables e below _ (T10.setTop (mkF m 20 #[.val (.ref cn)] [(.ref b10), (.ref b10), (.ref cn)]))
  have f16 : n0 ≤ h10.size := (Nat.le_trans f11 E10.1)
  obtain ⟨_, _, ⟨T15, L15, k15, n15⟩, -, X15, ⟨Lc15, hQ15, l15, y15, z15⟩, st15⟩ := X10.specialBack hx (y := (⟨"java/util/HashMap", "<init>", "()V"⟩ : MethodName)) rfl hown (mvT hZ (hw _ (List.mem_of_getElem? (i := 39) rfl))) (mvT hZ (hw _ (List.mem_of_getElem? (i := 40) rfl))) (mvT hZ (hw _ (List.mem_of_getElem? (i := 41) rfl))) (by decide) (backOf (W := 2) (rmHM l Z a0 hw [] b10 h10 n0 f16 A10 F10_loadFactor ge10) hZ (hw _ (List.mem_of_getElem? (i := 41) rfl)) (hw _ (List.mem_of_getElem? (i := 38) rfl)) (by decide) (by decide)) (g := (mkF m 20 #[.val (.ref cn)] [(.ref b10), (.ref b10), (.ref cn)])) rfl (by rw [hml]; rfl) (Steps.refl _) (a := b10) (argsL := []) (rest := [(.ref b10), (.ref cn)]) (lenOf own_pd0 rfl) rfl (by show 2 * 0 + _ ≤ _; exact Nat.le_of_eq rfl) (hb hby d_prog_14_m_1_20) (fun _ _ => ⟨rfl, e10, (by decide : 2 + 0 ≤ _), (by decide : 11 + 0 ≤ _)⟩)
  dsimp only [Pt.U, Pt.locs, Pt.cells, Pt.slots] at X15 l15 y15 z15 st15 hQ15
  subst l15 y15 z15
  have f17 : h0.size ≤ h10.size := (Nat.le_trans f12 E10.1)
  obtain ⟨rfl, N15q, K15, P15_0⟩ := hQ15
  have N15 := Fr.app N9 N15q
  refine own_up (fun _ k => st15.trans k) ?_
  show own_Go p.tables e below _ (T15.setTop (mkF m 23 #[.val (.ref cn)] [(.ref b10), (.ref cn)]))
  have f18 : Fld Z T15.heap cn "com/example/hintikka/hintikka/domain/ConstraintNetwork" "constantVariables" "Ljava/util/Map;" .null := (((((F2.ext E2).keep K3 (ninS ne2_0 nin0)).other W9 (Or.inr (slot_ne (Or.inr (hw _ (List.mem_of_getElem? (i := 53) rfl))) (Or.inr (hw _ (List.mem_of_getElem? (i := 35) rfl))) (by decide) (t := (.object "java/util/Map")) (t' := (.object "java/util/List")) (by decide) (by decide)))).ext E10).keep K15 (ninS ne10_0 nin0))
  have f19 : Exa Z T15.heap cn "com/example/hintikka/hintikka/domain/ConstraintNetwork" := ((f13.ext E10).keep K15)
  obtain ⟨T20, h20, X20, e20, W20, st20⟩ := putF X15 hx hZ hown (host := "") (Or.inl (hw _ (List.mem_of_getElem? (i := 52) rfl))) Via.refl rfl f18 f19 (Or.inr ⟨(hw _ (List.mem_of_getElem? (i := 53) rfl)), rfl, hnm⟩) (hw _ (List.mem_of_getElem? (i := 2) rfl)) (ty := (.object "java/util/Map")) (by decide) rfl rfl (g := (mkF m 23 #[.val (.ref cn)] [(.ref b10), (.ref cn)])) rfl rfl (hb hby d_prog_14_m_1_23)
  have Fw20 := f18.same W20
  have N20 := Fr.snoc X20 N15 G
  refine own_up st20 ?_
  show own_Go p.tables e below _ (T20.setTop (mkF m 26 #[.val (.ref cn)] []))
  refine own_up (fun _ k => XS.aloadN X20.here hx rfl (hb hby d_prog_14_m_1_26) rfl rfl k) ?_
  show own_Go p.tables e below _ (T20.setTop (mkF m 27 #[.val (.ref cn)] [(.ref cn)]))
  refine own_up (fun _ k => XS.bipush X20.here hx rfl (hb hby d_prog_14_m_1_27) k) ?_
  show own_Go p.tables e below _ (T20.setTop (mkF m 29 #[.val (.ref cn)] [(.int (16 : Int32)), (.ref cn)]))
  obtain ⟨T21, h21, k21, X21, e21, E21, A21, st21⟩ := newP X20 hx hZ (hw _ (List.mem_of_getElem? (i := 0) rfl)) e20 (g := (mkF m 29 #[.val (.ref cn)] [(.int (16 : Int32)), (.ref cn)])) rfl (hb hby d_prog_14_m_1_29) rfl (by decide) (cap := 16) (by decide) (by decide) (by decide) (by decide)
  have f22 : n0 ≤ h20.size := (Nat.le_trans (Nat.le_trans f16 K15.1) (Nat.le_of_eq (Wr.size W20).symm))
  have f23 : h0.size ≤ h20.size := (Nat.le_trans (Nat.le_trans f17 K15.1) (Nat.le_of_eq (Wr.size W20).symm))
  have f24 : Exa Z h20 cn "com/example/hintikka/hintikka/domain/ConstraintNetwork" := (f19.wr W20)
  have f25 : Exa Z h20 b2 "java/util/ArrayList" := (((f14.ext E10).keep K15).wr W20)
  have f26 : Exa Z h20 b10 "java/util/HashMap" := (P15_0.wr W20)
  obtain ⟨b21, g21⟩ : ∃ z, z = h20.size := ⟨_, rfl⟩
  rw [← g21] at A21 st21
  have ge21 : n0 ≤ b21 := Nat.le_trans f22 (Nat.le_of_eq g21.symm)
  have ne21_0 : cn ≠ b21 := Nat.ne_of_lt (Nat.lt_of_lt_of_le f24.lt (Nat.le_of_eq g21.symm))
  have ne21_1 : b2 ≠ b21 := Nat.ne_of_lt (Nat.lt_of_lt_of_le f25.lt (Nat.le_of_eq g21.symm))
  have ne21_2 : b10 ≠ b21 := Nat.ne_of_lt (Nat.lt_of_lt_of_le f26.lt (Nat.le_of_eq g21.symm))
  have sz21 : h0.size ≤ b21 := Nat.le_trans f23 (Nat.le_of_eq g21.symm)
  refine own_up st21 ?_
  have V21 : Arv Z h21 b21 k21 .int (16 : Int32) [(.int (0 : Int32)), (.int (0 : Int32)), (.int (0 : Int32)), (.int (0 : Int32))] (.int (0 : Int32)) := (Arv.new A21 (by decide)).pad (pad_rep [] (.int (0 : Int32)) 4)
  show own_Go p.tables e below _ (T21.setTop (mkF m 31 #[.val (.ref cn)] [(.ref b21), (.ref cn)]))
  have f27 : Fld Z h21 cn "com/example/hintikka/hintikka/domain/ConstraintNetwork" "lefts" "[I" .null := (((((((F3.ext E2).keep K3 (ninS ne2_0 nin0)).other W9 (Or.inr (slot_ne (Or.inl (hw _ (List.mem_of_getElem? (i := 55) rfl))) (Or.inr (hw _ (List.mem_of_getElem? (i := 35) rfl))) (by decide) (t := (.array .int)) (t' := (.object "java/util/List")) (by decide) (by decide)))).ext E10).keep K15 (ninS ne10_0 nin0)).other W20 (Or.inr (slot_ne (Or.inl (hw _ (List.mem_of_getElem? (i := 55) rfl))) (Or.inr (hw _ (List.mem_of_getElem? (i := 53) rfl))) (by decide) (t := (.array .int)) (t' := (.object "java/util/Map")) (by decide) (by decide)))).ext E21)
  have f28 : Exa Z h21 cn "com/example/hintikka/hintikka/domain/ConstraintNetwork" := (f24.ext E21)
  obtain ⟨T29, h29, X29, e29, W29, st29⟩ := putF X21 hx hZ hown (host := "") (Or.inl (hw _ (List.mem_of_getElem? (i := 54) rfl))) Via.refl e21 f27 f28 (Or.inl (hw _ (List.mem_of_getElem? (i := 55) rfl))) (hw _ (List.mem_of_getElem? (i := 2) rfl)) (ty := (.array .int)) (by decide) rfl rfl (g := (mkF m 31 #[.val (.ref cn)] [(.ref b21), (.ref cn)])) rfl rfl (hb hby d_prog_14_m_1_31)
  have Fw29 := f27.same W29
  have N29 := Fr.snoc X29 N20 G
  refine own_up st29 ?_
  show own_Go p.tables e below _ (T29.setTop (mkF m 34 #[.val (.ref cn)] []))
  refine own_up (fun _ k => XS.aloadN X29.here hx rfl (hb hby d_prog_14_m_1_34) rfl rfl k) ?_
  show own_Go p.tables e below _ (T29.setTop (mkF m 35 #[.val (.ref cn)] [(.ref cn)]))
  refine own_up (fun _ k => XS.bipush X29.here hx rfl (hb hby d_prog_14_m_1_35) k) ?_
  show own_Go p.tables e below _ (T29.setTop (mkF m 37 #[.val (.ref cn)] [(.int (16 : Int32)), (.ref cn)]))
  obtain ⟨T30, h30, k30, X30, e30, E30, A30, st30⟩ := newP X29 hx hZ (hw _ (List.mem_of_getElem? (i := 0) rfl)) e29 (g := (mkF m 37 #[.val (.ref cn)] [(.int (16 : Int32)), (.ref cn)])) rfl (hb hby d_prog_14_m_1_37) rfl (by decide) (cap := 16) (by decide) (by decide) (by decide) (by decide)
  have f31 : n0 ≤ h29.size := (Nat.le_trans (Nat.le_trans f22 E21.1) (Nat.le_of_eq (Wr.size W29).symm))
  have f32 : h0.size ≤ h29.size := (Nat.le_trans (Nat.le_trans f23 E21.1) (Nat.le_of_eq (Wr.size W29).symm))
  have f33 : Exa Z h29 cn "com/example/hintikka/hintikka/domain/ConstraintNetwork" := (f28.wr W29)
  have f34 : Exa Z h29 b2 "java/util/ArrayList" := ((f25.ext E21).wr W29)
  have f35 : Exa Z h29 b10 "java/util/HashMap" := ((f26.ext E21).wr W29)
  have f36 : Arv Z h29 b21 k21 .int (16 : Int32) [(.int (0 : Int32)), (.int (0 : Int32)), (.int (0 : Int32)), (.int (0 : Int32))] (.int (0 : Int32)) := (V21.other W29 (Ne.symm ne21_0))
  obtain ⟨b30, g30⟩ : ∃ z, z = h29.size := ⟨_, rfl⟩
  rw [← g30] at A30 st30
  have ge30 : n0 ≤ b30 := Nat.le_trans f31 (Nat.le_of_eq g30.symm)
  have ne30_0 : cn ≠ b30 := Nat.ne_of_lt (Nat.lt_of_lt_of_le f33.lt (Nat.le_of_eq g30.symm))
  have ne30_1 : b2 ≠ b30 := Nat.ne_of_lt (Nat.lt_of_lt_of_le f34.lt (Nat.le_of_eq g30.symm))
  have ne30_2 : b10 ≠ b30 := Nat.ne_of_lt (Nat.lt_of_lt_of_le f35.lt (Nat.le_of_eq g30.symm))
  have ne30_3 : b21 ≠ b30 := Nat.ne_of_lt (Nat.lt_of_lt_of_le f36.lt (Nat.le_of_eq g30.symm))
  have sz30 : h0.size ≤ b30 := Nat.le_trans f32 (Nat.le_of_eq g30.symm)
  refine own_up st30 ?_
  have V30 : Arv Z h30 b30 k30 .int (16 : Int32) [(.int (0 : Int32)), (.int (0 : Int32)), (.int (0 : Int32)), (.int (0 : Int32))] (.int (0 : Int32)) := (Arv.new A30 (by decide)).pad (pad_rep [] (.int (0 : Int32)) 4)
  show own_Go p.tables e below _ (T30.setTop (mkF m 39 #[.val (.ref cn)] [(.ref b30), (.ref cn)]))
  have f37 : Fld Z h30 cn "com/example/hintikka/hintikka/domain/ConstraintNetwork" "relations" "[I" .null := (((((((((F4.ext E2).keep K3 (ninS ne2_0 nin0)).other W9 (Or.inr (slot_ne (Or.inl (hw _ (List.mem_of_getElem? (i := 57) rfl))) (Or.inr (hw _ (List.mem_of_getElem? (i := 35) rfl))) (by decide) (t := (.array .int)) (t' := (.object "java/util/List")) (by decide) (by decide)))).ext E10).keep K15 (ninS ne10_0 nin0)).other W20 (Or.inr (slot_ne (Or.inl (hw _ (List.mem_of_getElem? (i := 57) rfl))) (Or.inr (hw _ (List.mem_of_getElem? (i := 53) rfl))) (by decide) (t := (.array .int)) (t' := (.object "java/util/Map")) (by decide) (by decide)))).ext E21).other W29 (Or.inr (slot_ne (Or.inl (hw _ (List.mem_of_getElem? (i := 57) rfl))) (Or.inl (hw _ (List.mem_of_getElem? (i := 55) rfl))) (by decide) (t := (.array .int)) (t' := (.array .int)) (by decide) (by decide)))).ext E30)
  have f38 : Exa Z h30 cn "com/example/hintikka/hintikka/domain/ConstraintNetwork" := (f33.ext E30)
  obtain ⟨T39, h39, X39, e39, W39, st39⟩ := putF X30 hx hZ hown (host := "") (Or.inl (hw _ (List.mem_of_getElem? (i := 56) rfl))) Via.refl e30 f37 f38 (Or.inl (hw _ (List.mem_of_getElem? (i := 57) rfl))) (hw _ (List.mem_of_getElem? (i := 2) rfl)) (ty := (.array .int)) (by decide) rfl rfl (g := (mkF m 39 #[.val (.ref cn)] [(.ref b30), (.ref cn)])) rfl rfl (hb hby d_prog_14_m_1_39)
  have Fw39 := f37.same W39
  have N39 := Fr.snoc X39 N29 G
  refine own_up st39 ?_
  show own_Go p.tables e below _ (T39.setTop (mkF m 42 #[.val (.ref cn)] []))
  refine own_up (fun _ k => XS.aloadN X39.here hx rfl (hb hby d_prog_14_m_1_42) rfl rfl k) ?_
  show own_Go p.tables e below _ (T39.setTop (mkF m 43 #[.val (.ref cn)] [(.ref cn)]))
  refine own_up (fun _ k => XS.bipush X39.here hx rfl (hb hby d_prog_14_m_1_43) k) ?_
  show own_Go p.tables e below _ (T39.setTop (mkF m 45 #[.val (.ref cn)] [(.int (16 : Int32)), (.ref cn)]))
  obtain ⟨T40, h40, k40, X40, e40, E40, A40, st40⟩ := newP X39 hx hZ (hw _ (List.mem_of_getElem? (i := 0) rfl)) e39 (g := (mkF m 45 #[.val (.ref cn)] [(.int (16 : Int32)), (.ref cn)])) rfl (hb hby d_prog_14_m_1_45) rfl (by decide) (cap := 16) (by decide) (by decide) (by decide) (by decide)
  have f41 : n0 ≤ h39.size := (Nat.le_trans (Nat.le_trans f31 E30.1) (Nat.le_of_eq (Wr.size W39).symm))
  have f42 : h0.size ≤ h39.size := (Nat.le_trans (Nat.le_trans f32 E30.1) (Nat.le_of_eq (Wr.size W39).symm))
  have f43 : Exa Z h39 cn "com/example/hintikka/hintikka/domain/ConstraintNetwork" := (f38.wr W39)
  have f44 : Exa Z h39 b2 "java/util/ArrayList" := ((f34.ext E30).wr W39)
  have f45 : Exa Z h39 b10 "java/util/HashMap" := ((f35.ext E30).wr W39)
  have f46 : Arv Z h39 b21 k21 .int (16 : Int32) [(.int (0 : Int32)), (.int (0 : Int32)), (.int (0 : Int32)), (.int (0 : Int32))] (.int (0 : Int32)) := ((f36.ext E30).other W39 (Ne.symm ne21_0))
  have f47 : Arv Z h39 b30 k30 .int (16 : Int32) [(.int (0 : Int32)), (.int (0 : Int32)), (.int (0 : Int32)), (.int (0 : Int32))] (.int (0 : Int32)) := (V30.other W39 (Ne.symm ne30_0))
  obtain ⟨b40, g40⟩ : ∃ z, z = h39.size := ⟨_, rfl⟩
  rw [← g40] at A40 st40
  have ge40 : n0 ≤ b40 := Nat.le_trans f41 (Nat.le_of_eq g40.symm)
  have ne40_0 : cn ≠ b40 := Nat.ne_of_lt (Nat.lt_of_lt_of_le f43.lt (Nat.le_of_eq g40.symm))
  have ne40_1 : b2 ≠ b40 := Nat.ne_of_lt (Nat.lt_of_lt_of_le f44.lt (Nat.le_of_eq g40.symm))
  have ne40_2 : b10 ≠ b40 := Nat.ne_of_lt (Nat.lt_of_lt_of_le f45.lt (Nat.le_of_eq g40.symm))
  have ne40_3 : b21 ≠ b40 := Nat.ne_of_lt (Nat.lt_of_lt_of_le f46.lt (Nat.le_of_eq g40.symm))
  have ne40_4 : b30 ≠ b40 := Nat.ne_of_lt (Nat.lt_of_lt_of_le f47.lt (Nat.le_of_eq g40.symm))
  have sz40 : h0.size ≤ b40 := Nat.le_trans f42 (Nat.le_of_eq g40.symm)
  refine own_up st40 ?_
  have V40 : Arv Z h40 b40 k40 .int (16 : Int32) [(.int (0 : Int32)), (.int (0 : Int32)), (.int (0 : Int32)), (.int (0 : Int32))] (.int (0 : Int32)) := (Arv.new A40 (by decide)).pad (pad_rep [] (.int (0 : Int32)) 4)
  show own_Go p.tables e below _ (T40.setTop (mkF m 47 #[.val (.ref cn)] [(.ref b40), (.ref cn)]))
  have f48 : Fld Z h40 cn "com/example/hintikka/hintikka/domain/ConstraintNetwork" "rights" "[I" .null := (((((((((((F5.ext E2).keep K3 (ninS ne2_0 nin0)).other W9 (Or.inr (slot_ne (Or.inl (hw _ (List.mem_of_getElem? (i := 59) rfl))) (Or.inr (hw _ (List.mem_of_getElem? (i := 35) rfl))) (by decide) (t := (.array .int)) (t' := (.object "java/util/List")) (by decide) (by decide)))).ext E10).keep K15 (ninS ne10_0 nin0)).other W20 (Or.inr (slot_ne (Or.inl (hw _ (List.mem_of_getElem? (i := 59) rfl))) (Or.inr (hw _ (List.mem_of_getElem? (i := 53) rfl))) (by decide) (t := (.array .int)) (t' := (.object "java/util/Map")) (by decide) (by decide)))).ext E21).other W29 (Or.inr (slot_ne (Or.inl (hw _ (List.mem_of_getElem? (i := 59) rfl))) (Or.inl (hw _ (List.mem_of_getElem? (i := 55) rfl))) (by decide) (t := (.array .int)) (t' := (.array .int)) (by decide) (by decide)))).ext E30).other W39 (Or.inr (slot_ne (Or.inl (hw _ (List.mem_of_getElem? (i := 59) rfl))) (Or.inl (hw _ (List.mem_of_getElem? (i := 57) rfl))) (by decide) (t := (.array .int)) (t' := (.array .int)) (by decide) (by decide)))).ext E40)
  have f49 : Exa Z h40 cn "com/example/hintikka/hintikka/domain/ConstraintNetwork" := (f43.ext E40)
  obtain ⟨T50, h50, X50, e50, W50, st50⟩ := putF X40 hx hZ hown (host := "") (Or.inl (hw _ (List.mem_of_getElem? (i := 58) rfl))) Via.refl e40 f48 f49 (Or.inl (hw _ (List.mem_of_getElem? (i := 59) rfl))) (hw _ (List.mem_of_getElem? (i := 2) rfl)) (ty := (.array .int)) (by decide) rfl rfl (g := (mkF m 47 #[.val (.ref cn)] [(.ref b40), (.ref cn)])) rfl rfl (hb hby d_prog_14_m_1_47)
  have Fw50 := f48.same W50
  have N50 := Fr.snoc X50 N39 G
  refine own_up st50 ?_
  show own_Go p.tables e below _ (T50.setTop (mkF m 50 #[.val (.ref cn)] []))
  have f51 : Exa Z h50 cn "com/example/hintikka/hintikka/domain/ConstraintNetwork" := (f49.wr W50)
  have f52 : Fld Z h50 cn "com/example/hintikka/hintikka/domain/ConstraintNetwork" "constants" "Ljava/util/List;" (.ref b2) := (((((((((Fw9.ext E10).keep K15 (ninS ne10_0 nin0)).other W20 (Or.inr (slot_ne (Or.inr (hw _ (List.mem_of_getElem? (i := 35) rfl))) (Or.inr (hw _ (List.mem_of_getElem? (i := 53) rfl))) (by decide) (t := (.object "java/util/List")) (t' := (.object "java/util/Map")) (by decide) (by decide)))).ext E21).other W29 (Or.inr (slot_ne (Or.inr (hw _ (List.mem_of_getElem? (i := 35) rfl))) (Or.inl (hw _ (List.mem_of_getElem? (i := 55) rfl))) (by decide) (t := (.object "java/util/List")) (t' := (.array .int)) (by decide) (by decide)))).ext E30).other W39 (Or.inr (slot_ne (Or.inr (hw _ (List.mem_of_getElem? (i := 35) rfl))) (Or.inl (hw _ (List.mem_of_getElem? (i := 57) rfl))) (by decide) (t := (.object "java/util/List")) (t' := (.array .int)) (by decide) (by decide)))).ext E40).other W50 (Or.inr (slot_ne (Or.inr (hw _ (List.mem_of_getElem? (i := 35) rfl))) (Or.inl (hw _ (List.mem_of_getElem? (i := 59) rfl))) (by decide) (t := (.object "java/util/List")) (t' := (.array .int)) (by decide) (by decide))))
  have f53 : Fld Z h50 cn "com/example/hintikka/hintikka/domain/ConstraintNetwork" "size" "I" (.int (0 : Int32)) := ((((((((((((F6.ext E2).keep K3 (ninS ne2_0 nin0)).other W9 (Or.inr (slot_ne (Or.inl (hw _ (List.mem_of_getElem? (i := 113) rfl))) (Or.inr (hw _ (List.mem_of_getElem? (i := 35) rfl))) (by decide) (t := .int) (t' := (.object "java/util/List")) (by decide) (by decide)))).ext E10).keep K15 (ninS ne10_0 nin0)).other W20 (Or.inr (slot_ne (Or.inl (hw _ (List.mem_of_getElem? (i := 113) rfl))) (Or.inr (hw _ (List.mem_of_getElem? (i := 53) rfl))) (by decide) (t := .int) (t' := (.object "java/util/Map")) (by decide) (by decide)))).ext E21).other W29 (Or.inr (slot_ne (Or.inl (hw _ (List.mem_of_getElem? (i := 113) rfl))) (Or.inl (hw _ (List.mem_of_getElem? (i := 55) rfl))) (by decide) (t := .int) (t' := (.array .int)) (by decide) (by decide)))).ext E30).other W39 (Or.inr (slot_ne (Or.inl (hw _ (List.mem_of_getElem? (i := 113) rfl))) (Or.inl (hw _ (List.mem_of_getElem? (i := 57) rfl))) (by decide) (t := .int) (t' := (.array .int)) (by decide) (by decide)))).ext E40).other W50 (Or.inr (slot_ne (Or.inl (hw _ (List.mem_of_getElem? (i := 113) rfl))) (Or.inl (hw _ (List.mem_of_getElem? (i := 59) rfl))) (by decide) (t := .int) (t' := (.array .int)) (by decide) (by decide))))
  have f54 : Fld Z h50 cn "com/example/hintikka/hintikka/domain/ConstraintNetwork" "lefts" "[I" (.ref b21) := ((((Fw29.ext E30).other W39 (Or.inr (slot_ne (Or.inl (hw _ (List.mem_of_getElem? (i := 55) rfl))) (Or.inl (hw _ (List.mem_of_getElem? (i := 57) rfl))) (by decide) (t := (.array .int)) (t' := (.array .int)) (by decide) (by decide)))).ext E40).other W50 (Or.inr (slot_ne (Or.inl (hw _ (List.mem_of_getElem? (i := 55) rfl))) (Or.inl (hw _ (List.mem_of_getElem? (i := 59) rfl))) (by decide) (t := (.array .int)) (t' := (.array .int)) (by decide) (by decide))))
  have f55 : Fld Z h50 cn "com/example/hintikka/hintikka/domain/ConstraintNetwork" "relations" "[I" (.ref b30) := ((Fw39.ext E40).other W50 (Or.inr (slot_ne (Or.inl (hw _ (List.mem_of_getElem? (i := 57) rfl))) (Or.inl (hw _ (List.mem_of_getElem? (i := 59) rfl))) (by decide) (t := (.array .int)) (t' := (.array .int)) (by decide) (by decide))))
  have f56 : Arv Z h50 b21 k21 .int (16 : Int32) [(.int (0 : Int32)), (.int (0 : Int32)), (.int (0 : Int32)), (.int (0 : Int32))] (.int (0 : Int32)) := ((f46.ext E40).other W50 (Ne.symm ne21_0))
  have f57 : Arv Z h50 b30 k30 .int (16 : Int32) [(.int (0 : Int32)), (.int (0 : Int32)), (.int (0 : Int32)), (.int (0 : Int32))] (.int (0 : Int32)) := ((f47.ext E40).other W50 (Ne.symm ne30_0))
  have f58 : Arv Z h50 b40 k40 .int (16 : Int32) [(.int (0 : Int32)), (.int (0 : Int32)), (.int (0 : Int32)), (.int (0 : Int32))] (.int (0 : Int32)) := (V40.other W50 (Ne.symm ne40_0))
  have f59 : Exa Z h50 b2 "java/util/ArrayList" := ((f44.ext E40).wr W50)
  have f60 : Fld Z h50 b2 "java/util/AbstractList" "modCount" "I" (.int (0 : Int32)) := ((((((((((P3_1.other W9 (Or.inl (Ne.symm ne2_0))).ext E10).keep K15 (ninS ne10_1 nin0)).other W20 (Or.inl (Ne.symm ne2_0))).ext E21).other W29 (Or.inl (Ne.symm ne2_0))).ext E30).other W39 (Or.inl (Ne.symm ne2_0))).ext E40).other W50 (Or.inl (Ne.symm ne2_0)))
  have f61 : Fld Z h50 b2 "java/util/ArrayList" "elementData" "[Ljava/lang/Object;" (.ref de) := ((((((((((P3_2.other W9 (Or.inl (Ne.symm ne2_0))).ext E10).keep K15 (ninS ne10_1 nin0)).other W20 (Or.inl (Ne.symm ne2_0))).ext E21).other W29 (Or.inl (Ne.symm ne2_0))).ext E30).other W39 (Or.inl (Ne.symm ne2_0))).ext E40).other W50 (Or.inl (Ne.symm ne2_0)))
  have f62 : Fld Z h50 b2 "java/util/ArrayList" "size" "I" (.int (0 : Int32)) := ((((((((((P3_3.other W9 (Or.inl (Ne.symm ne2_0))).ext E10).keep K15 (ninS ne10_1 nin0)).other W20 (Or.inl (Ne.symm ne2_0))).ext E21).other W29 (Or.inl (Ne.symm ne2_0))).ext E30).other W39 (Or.inl (Ne.symm ne2_0))).ext E40).other W50 (Or.inl (Ne.symm ne2_0)))
  exact own_end X50 hlk (v := none) (fun _ => rfl) (fun fs hr => X50.returnOut hx Bd.returns (hb hby d_prog_14_m_1_50) hr) e50 ⟨b2, b21, b30, b40, k21, k30, k40, rfl, N50, (((((((((((((Keep.refl h0 [cn]).ext E2).trans K3 (allS (Or.inr sz2) all0)).wr W9 (Or.inl (List.mem_of_getElem? (i := 0) rfl))).ext E10).trans K15 (allS (Or.inr sz10) all0)).wr W20 (Or.inl (List.mem_of_getElem? (i := 0) rfl))).ext E21).wr W29 (Or.inl (List.mem_of_getElem? (i := 0) rfl))).ext E30).wr W39 (Or.inl (List.mem_of_getElem? (i := 0) rfl))).ext E40).wr W50 (Or.inl (List.mem_of_getElem? (i := 0) rfl))), sz2, sz21, sz30, sz40, ge2, ge21, ge30, ge40, ne2_0, ne21_0, ne30_0, ne40_0, ne21_1, ne30_1, ne40_1, ne30_3, ne40_3, ne40_4, f51, f52, f53, f54, f55, Fw50, f56, f57, f58, f59, f60, f61, f62⟩ (by decide) (by decide)
theorem d_jdk_29_m_65_0 : decode jdk_29_method_65_code 0 = .ok (.iload_n 0, 1) := by decide +kernel
theorem d_jdk_29_m_65_1 : decode jdk_29_method_65_code 1 = .ok (.iload_n 1, 1) := by decide +kernel
theorem d_jdk_29_m_65_2 : decode jdk_29_method_65_code 2 = .ok (.if_icmp .lt 7, 3) := by decide +kernel
theorem d_jdk_29_m_65_9 : decode jdk_29_method_65_code 9 = .ok (.iload_n 1, 1) := by decide +kernel
theorem d_jdk_29_m_65_10 : decode jdk_29_method_65_code 10 = .ok (.ireturn, 1) := by decide +kernel
theorem d_jdk_29_m_65_5 : decode jdk_29_method_65_code 5 = .ok (.iload_n 0, 1) := by decide +kernel
theorem d_jdk_29_m_65_6 : decode jdk_29_method_65_code 6 = .ok (.goto 4, 3) := by decide +kernel
theorem ef_rmMx (m : MethodId) (y0 : Int32) (y1 : Int32) : entryFrame m #[(.int y0), (.int y1)] 2 = mkF m 0 #[.val (.int y0), .val (.int y1)] [] := by first | (simp [entryFrame, mkF, argsToLocals, Value.category]; done) | rfl
def Q_rmMx (Z : State) (pa : Int32) (pb : Int32) (h0 : Heap) (n0 : Nat) (v : Option Value) (h : Heap) (L : List Loc) : Prop := v = some (.int (if pa < pb then pb else pa)) ∧ Fr n0 L ∧ h = h0
set_option maxRecDepth 65536 in
set_option maxHeartbeats 40000000 in
theorem rmMx (l : Launch) (Z : State) (a0 : Array Value) (hw : ∀ d ∈ tables_1, d.before a0 Z = true) (ws : List Jvm.Cond) (pa : Int32) (pb : Int32) (h0 : Heap) (n0 : Nat) (Z0 : n0 ≤ h0.size) :
    MetFree l (⟨"java/lang/Math", "max", "(II)I"⟩ : MethodName) (head1 (Jvm.Cond.code (⟨"java/lang/Math", "max", "(II)I"⟩ : MethodName) jdk_29_method_65_code 2 (some .int) :: ws) ({ frames := 0, cells := 0, slots := 0, locals := 0 } : Room)) (fun ar U => ar = #[(.int pa), (.int pb)] ∧ Z.Warmed39 U.vm ∧ U.heap = h0) (fun _ _ _ _ _ => True) (fun _ U o U' => ∃ v L, o = .returned v ∧ Q_rmMx Z pa pb h0 n0 v U'.heap L ∧ FrameEnd U o U' L ({ frames := 0, cells := 0, slots := 0, locals := 0 } : Room).cells ({ frames := 0, cells := 0, slots := 0, locals := 0 } : Room).slots) := by
  refine MetFree.of_bodySF (Jvm.Free.JP.mathPlain rfl (by decide +kernel)) hisR ?_
  intro p e s m args below meth c s₁ Bd hml0 hP hK
  obtain ⟨rfl, hZ, hh⟩ := hP
  have hx := Bd.exec
  have hby := Bd.bytes
  have hlk : meth.locks = false := BodyLoose.notSynchronized Bd
  have hml : c.maxLocals = 2 := hml0
  have hown : s.vm.findClass "java/lang/Math" = some m.cls := findClass_of_methodNamed Bd.named
  have hnm := (name_of_methodNamed Bd.named Bd.method).1
  have X0 : Stand p l e ({ frames := 0, cells := 0, slots := 0, locals := 0 } : Room) s m #[(.int pa), (.int pb)] below meth c s₁ [] 0 0 := Stand.of_body Bd
  have e0 : s₁.heap = h0 := by rw [← hh, Bd.state]; rfl
  have N0 := Fr.nil n0
  show own_Go p.tables e below (fun u o => ∃ v L, o = .returned v ∧ Q_rmMx Z pa pb h0 n0 v u.heap L ∧ FrameEnd s o u L ({ frames := 0, cells := 0, slots := 0, locals := 0 } : Room).cells ({ frames := 0, cells := 0, slots := 0, locals := 0 } : Room).slots) (s₁.setTop (entryFrame m #[(.int pa), (.int pb)] 2))
  refine own_up (fun _ k => castTop (ef_rmMx m pa pb) k) ?_
  show own_Go p.tables e below _ (s₁.setTop (mkF m 0 #[.val (.int pa), .val (.int pb)] []))
  refine own_up (fun _ k => XS.iloadN X0.here hx rfl (hb hby d_jdk_29_m_65_0) rfl k) ?_
  show own_Go p.tables e below _ (s₁.setTop (mkF m 1 #[.val (.int pa), .val (.int pb)] [(.int pa)]))
  refine own_up (fun _ k => XS.iloadN X0.here hx rfl (hb hby d_jdk_29_m_65_1) rfl k) ?_
  show own_Go p.tables e below _ (s₁.setTop (mkF m 2 #[.val (.int pa), .val (.int pb)] [(.int pb), (.int pa)]))
  by_cases c1 : pa < pb
  ·
    refine own_up (fun _ k => XS.icmpYes X0.here hx rfl (pc0 := 2) (pc' := 9) rfl (hb hby d_jdk_29_m_65_2) rfl (tlt c1).1 (by decide) (by decide) k) ?_
    show own_Go p.tables e below _ (s₁.setTop (mkF m 9 #[.val (.int pa), .val (.int pb)] []))
    refine own_up (fun _ k => XS.iloadN X0.here hx rfl (hb hby d_jdk_29_m_65_9) rfl k) ?_
    show own_Go p.tables e below _ (s₁.setTop (mkF m 10 #[.val (.int pa), .val (.int pb)] [(.int pb)]))
    exact own_end X0 hlk (v := some (.int pb)) (fun h => by rw [Bd.returns] at h; cases h) (fun fs hr => retOut X0 hx Bd.returns rfl (Or.inl ⟨rfl, Or.inl rfl, _, rfl⟩) (hb hby d_jdk_29_m_65_10) hr) e0 ⟨by rw [if_pos c1], N0, rfl⟩ (by decide) (by decide)
  ·
    refine own_up (fun _ k => XS.icmpNo X0.here hx rfl (hb hby d_jdk_29_m_65_2) rfl (flt c1).1 k) ?_
    show own_Go p.tables e below _ (s₁.setTop (mkF m 5 #[.val (.int pa), .val (.int pb)] []))
    refine own_up (fun _ k => XS.iloadN X0.here hx rfl (hb hby d_jdk_29_m_65_5) rfl k) ?_
    show own_Go p.tables e below _ (s₁.setTop (mkF m 6 #[.val (.int pa), .val (.int pb)] [(.int pa)]))
    refine own_up (fun _ k => XS.goto X0.here hx rfl (pc0 := 6) (pc' := 10) rfl (hb hby d_jdk_29_m_65_6) (by decide) (by decide) k) ?_
    show own_Go p.tables e below _ (s₁.setTop (mkF m 10 #[.val (.int pa), .val (.int pb)] [(.int pa)]))
    exact own_end X0 hlk (v := some (.int pa)) (fun h => by rw [Bd.returns] at h; cases h) (fun fs hr => retOut X0 hx Bd.returns rfl (Or.inl ⟨rfl, Or.inl rfl, _, rfl⟩) (hb hby d_jdk_29_m_65_10) hr) e0 ⟨by rw [if_neg c1], N0, rfl⟩ (by decide) (by decide)
theorem d_jdk_38_m_6_0 : decode jdk_38_method_6_code 0 = .ok (.aload_n 0, 1) := by decide +kernel
theorem d_jdk_38_m_6_1 : decode jdk_38_method_6_code 1 = .ok (.getfield 9, 3) := by decide +kernel
theorem d_jdk_38_m_6_4 : decode jdk_38_method_6_code 4 = .ok (.arraylength, 1) := by decide +kernel
theorem d_jdk_38_m_6_5 : decode jdk_38_method_6_code 5 = .ok (.istore_n 2, 1) := by decide +kernel
theorem d_jdk_38_m_6_6 : decode jdk_38_method_6_code 6 = .ok (.iload_n 2, 1) := by decide +kernel
theorem d_jdk_38_m_6_7 : decode jdk_38_method_6_code 7 = .ok (.ifCond .gt 13, 3) := by decide +kernel
theorem d_jdk_38_m_6_10 : decode jdk_38_method_6_code 10 = .ok (.aload_n 0, 1) := by decide +kernel
theorem d_jdk_38_m_6_11 : decode jdk_38_method_6_code 11 = .ok (.getfield 9, 3) := by decide +kernel
theorem d_jdk_38_m_6_14 : decode jdk_38_method_6_code 14 = .ok (.getstatic 39, 3) := by decide +kernel
theorem d_jdk_38_m_6_17 : decode jdk_38_method_6_code 17 = .ok (.if_acmp .eq 28, 3) := by decide +kernel
theorem d_jdk_38_m_6_45 : decode jdk_38_method_6_code 45 = .ok (.aload_n 0, 1) := by decide +kernel
theorem d_jdk_38_m_6_46 : decode jdk_38_method_6_code 46 = .ok (.bipush 10, 2) := by decide +kernel
theorem d_jdk_38_m_6_48 : decode jdk_38_method_6_code 48 = .ok (.iload_n 1, 1) := by decide +kernel
theorem d_jdk_38_m_6_49 : decode jdk_38_method_6_code 49 = .ok (.invokestatic 79, 3) := by decide +kernel
theorem own_pd1 : parseMethodDescriptor "(II)I" = some ⟨[.int, .int], some .int⟩ := by decide +kernel
theorem d_jdk_38_m_6_52 : decode jdk_38_method_6_code 52 = .ok (.anewarray 7, 3) := by decide +kernel
theorem d_jdk_38_m_6_55 : decode jdk_38_method_6_code 55 = .ok (.dup_x1, 1) := by decide +kernel
theorem d_jdk_38_m_6_56 : decode jdk_38_method_6_code 56 = .ok (.putfield 9, 3) := by decide +kernel
theorem d_jdk_38_m_6_59 : decode jdk_38_method_6_code 59 = .ok (.areturn, 1) := by decide +kernel
theorem ef_rmG1 (m : MethodId) (y0 : Addr) (y1 : Int32) : entryFrame m #[(.ref y0), (.int y1)] 4 = mkF m 0 #[.val (.ref y0), .val (.int y1), .unset, .unset] [] := by first | (simp [entryFrame, mkF, argsToLocals, Value.category]; done) | rfl
def Q_rmG1 (Z : State) (a : Addr) (mc : Int32) (de : Addr) (kd : ClassId) (h0 : Heap) (n0 : Nat) (v : Option Value) (h : Heap) (L : List Loc) : Prop := ∃ (ea : Addr) (kq : ClassId), v = some (.ref ea) ∧ Fr n0 L ∧ Keep h0 h [a] ∧ h0.size ≤ ea ∧ n0 ≤ ea ∧ a ≠ ea ∧ Exa Z h a "java/util/ArrayList" ∧ Fld Z h a "java/util/AbstractList" "modCount" "I" (.int mc) ∧ Fld Z h a "java/util/ArrayList" "elementData" "[Ljava/lang/Object;" (.ref ea) ∧ Fld Z h a "java/util/ArrayList" "size" "I" (.int (0 : Int32)) ∧ Arv Z h ea kq (.object "java/lang/Object") (10 : Int32) [.null, .null] .null
set_option maxRecDepth 65536 in
set_option maxHeartbeats 40000000 in
theorem rmG1 (l : Launch) (Z : State) (a0 : Array Value) (hw : ∀ d ∈ tables_1, d.before a0 Z = true) (ws : List Jvm.Cond) (a : Addr) (mc : Int32) (de : Addr) (kd : ClassId) (h0 : Heap) (n0 : Nat) (Z0 : n0 ≤ h0.size) (O : Old Z n0 h0) (S : Sta Z Z.heap "java/util/ArrayList" "DEFAULTCAPACITY_EMPTY_ELEMENTDATA" "[Ljava/lang/Object;" (.ref de)) (AD : Arv Z Z.heap de kd (.object "java/lang/Object") (0 : Int32) [] .null) (E : Exa Z h0 a "java/util/ArrayList") (F1 : Fld Z h0 a "java/util/AbstractList" "modCount" "I" (.int mc)) (F2 : Fld Z h0 a "java/util/ArrayList" "elementData" "[Ljava/lang/Object;" (.ref de)) (F3 : Fld Z h0 a "java/util/ArrayList" "size" "I" (.int (0 : Int32))) (G : n0 ≤ a) :
    MetFree l (⟨"java/util/ArrayList", "grow", "(I)[Ljava/lang/Object;"⟩ : MethodName) (head1 (Jvm.Cond.code (⟨"java/util/ArrayList", "grow", "(I)[Ljava/lang/Object;"⟩ : MethodName) jdk_38_method_6_code 4 (some (.array (.object "java/lang/Object"))) :: ws) ({ frames := 1, cells := 1, slots := 10, locals := 14 } : Room)) (fun ar U => ar = #[(.ref a), (.int (1 : Int32))] ∧ Z.Warmed39 U.vm ∧ U.heap = h0) (fun _ _ _ _ _ => True) (fun _ U o U' => ∃ v L, o = .returned v ∧ Q_rmG1 Z a mc de kd h0 n0 v U'.heap L ∧ FrameEnd U o U' L ({ frames := 1, cells := 1, slots := 10, locals := 14 } : Room).cells ({ frames := 1, cells := 1, slots := 10, locals := 14 } : Room).slots) := by
  refine MetFree.of_bodySF (plainFor_of_name own_pn3) hisR ?_
  intro p e s m args below meth c s₁ Bd hml0 hP hK
  obtain ⟨rfl, hZ, hh⟩ := hP
  have hx := Bd.exec
  have hby := Bd.bytes
  have hlk : meth.locks = false := BodyLoose.notSynchronized Bd
  have hml : c.maxLocals = 4 := hml0
  have hown : s.vm.findClass "java/util/ArrayList" = some m.cls := findClass_of_methodNamed Bd.named
  have hnm := (name_of_methodNamed Bd.named Bd.method).1
  have X0 : Stand p l e ({ frames := 1, cells := 1, slots := 10, locals := 14 } : Room) s m #[(.ref a), (.int (1 : Int32))] below meth c s₁ [] 0 0 := Stand.of_body Bd
  have e0 : s₁.heap = h0 := by rw [← hh, Bd.state]; rfl
  have N0 := Fr.nil n0
  show own_Go p.tables e below (fun u o => ∃ v L, o = .returned v ∧ Q_rmG1 Z a mc de kd h0 n0 v u.heap L ∧ FrameEnd s o u L ({ frames := 1, cells := 1, slots := 10, locals := 14 } : Room).cells ({ frames := 1, cells := 1, slots := 10, locals := 14 } : Room).slots) (s₁.setTop (entryFrame m #[(.ref a), (.int (1 : Int32))] 4))
  refine own_up (fun _ k => castTop (ef_rmG1 m a (1 : Int32)) k) ?_
  show own_Go p.tables e below _ (s₁.setTop (mkF m 0 #[.val (.ref a), .val (.int (1 : Int32)), .unset, .unset] []))
  refine own_up (fun _ k => XS.aloadN X0.here hx rfl (hb hby d_jdk_38_m_6_0) rfl rfl k) ?_
  show own_Go p.tables e below _ (s₁.setTop (mkF m 1 #[.val (.ref a), .val (.int (1 : Int32)), .unset, .unset] [(.ref a)]))
  obtain ⟨T1, X1, e1, st1⟩ := getF X0 hx hZ hown (host := "") (Or.inl (hw _ (List.mem_of_getElem? (i := 32) rfl))) Via.refl e0 F2 (g := (mkF m 1 #[.val (.ref a), .val (.int (1 : Int32)), .unset, .unset] [(.ref a)])) rfl rfl (hb hby d_jdk_38_m_6_1)
  refine own_up st1 ?_
  show own_Go p.tables e below _ (T1.setTop (mkF m 4 #[.val (.ref a), .val (.int (1 : Int32)), .unset, .unset] [(.ref de)]))
  obtain ⟨cl2_, Ar2, q2, S2, M2, Hs2, G2⟩ := id ((AD.ext O.2))
  refine own_up (fun _ k => X1.arraylength hx (by rw [e1]; exact Ar2.1) (State.isArrayOf_alike hZ.alike Ar2.2.1) (g := (mkF m 4 #[.val (.ref a), .val (.int (1 : Int32)), .unset, .unset] [(.ref de)])) rfl rfl (hb hby d_jdk_38_m_6_4) _ k) ?_
  rw [len_of S2 M2]
  show own_Go p.tables e below _ (T1.setTop (mkF m 5 #[.val (.ref a), .val (.int (1 : Int32)), .unset, .unset] [(.int (0 : Int32))]))
  refine own_up (fun _ k => XS.istoreN X1.here hx rfl (hb hby d_jdk_38_m_6_5) rfl (l' := #[.val (.ref a), .val (.int (1 : Int32)), .val (.int (0 : Int32)), .unset]) rfl k) ?_
  show own_Go p.tables e below _ (T1.setTop (mkF m 6 #[.val (.ref a), .val (.int (1 : Int32)), .val (.int (0 : Int32)), .unset] []))
  refine own_up (fun _ k => XS.iloadN X1.here hx rfl (hb hby d_jdk_38_m_6_6) rfl k) ?_
  show own_Go p.tables e below _ (T1.setTop (mkF m 7 #[.val (.ref a), .val (.int (1 : Int32)), .val (.int (0 : Int32)), .unset] [(.int (0 : Int32))]))
  refine own_up (fun _ k => XS.ifNo X1.here hx rfl (hb hby d_jdk_38_m_6_7) rfl ((if0 _ _).trans (flt (by decide)).2.2.1) k) ?_
  show own_Go p.tables e below _ (T1.setTop (mkF m 10 #[.val (.ref a), .val (.int (1 : Int32)), .val (.int (0 : Int32)), .unset] []))
  refine own_up (fun _ k => XS.aloadN X1.here hx rfl (hb hby d_jdk_38_m_6_10) rfl rfl k) ?_
  show own_Go p.tables e below _ (T1.setTop (mkF m 11 #[.val (.ref a), .val (.int (1 : Int32)), .val (.int (0 : Int32)), .unset] [(.ref a)]))
  obtain ⟨T3, X3, e3, st3⟩ := getF X1 hx hZ hown (host := "") (Or.inl (hw _ (List.mem_of_getElem? (i := 32) rfl))) Via.refl e1 F2 (g := (mkF m 11 #[.val (.ref a), .val (.int (1 : Int32)), .val (.int (0 : Int32)), .unset] [(.ref a)])) rfl rfl (hb hby d_jdk_38_m_6_11)
  refine own_up st3 ?_
  show own_Go p.tables e below _ (T3.setTop (mkF m 14 #[.val (.ref a), .val (.int (1 : Int32)), .val (.int (0 : Int32)), .unset] [(.ref de)]))
  obtain ⟨T4, X4, e4, st4⟩ := getS2 X3 hx hZ hown (host := "") (Or.inl (hw _ (List.mem_of_getElem? (i := 31) rfl))) Via.refl e3 (S.ext O.2) (g := (mkF m 14 #[.val (.ref a), .val (.int (1 : Int32)), .val (.int (0 : Int32)), .unset] [(.ref de)])) rfl (hb hby d_jdk_38_m_6_14)
  refine own_up st4 ?_
  show own_Go p.tables e below _ (T4.setTop (mkF m 17 #[.val (.ref a), .val (.int (1 : Int32)), .val (.int (0 : Int32)), .unset] [(.ref de), (.ref de)]))
  refine own_up (fun _ k => Jvm.RoadKit.acmp (g := (mkF m 17 #[.val (.ref a), .val (.int (1 : Int32)), .val (.int (0 : Int32)), .unset] [(.ref de), (.ref de)])) X4 hx rfl rfl rfl (pc0 := 17) (pc' := 45) (same := true) rfl (hb hby d_jdk_38_m_6_17) rfl (decide_eq_true rfl) (by decide) (by decide) k) ?_
  show own_Go p.tables e below _ (T4.setTop (mkF m 45 #[.val (.ref a), .val (.int (1 : Int32)), .val (.int (0 : Int32)), .unset] []))
  refine own_up (fun _ k => XS.aloadN X4.here hx rfl (hb hby d_jdk_38_m_6_45) rfl rfl k) ?_
  show own_Go p.tables e below _ (T4.setTop (mkF m 46 #[.val (.ref a), .val (.int (1 : Int32)), .val (.int (0 : Int32)), .unset] [(.ref a)]))
  refine own_up (fun _ k => XS.bipush X4.here hx rfl (hb hby d_jdk_38_m_6_46) k) ?_
  show own_Go p.tables e below _ (T4.setTop (mkF m 48 #[.val (.ref a), .val (.int (1 : Int32)), .val (.int (0 : Int32)), .unset] [(.int (10 : Int32)), (.ref a)]))
  refine own_up (fun _ k => XS.iloadN X4.here hx rfl (hb hby d_jdk_38_m_6_48) rfl k) ?_
  show own_Go p.tables e below _ (T4.setTop (mkF m 49 #[.val (.ref a), .val (.int (1 : Int32)), .val (.int (0 : Int32)), .unset] [(.int (1 : Int32)), (.int (10 : Int32)), (.ref a)]))
  obtain ⟨_, _, ⟨T5, L5, k5, n5⟩, -, X5, ⟨Lc5, hQ5, l5, y5, z5⟩, st5⟩ := Jvm.LawKit.callS X4 hx (y := (⟨"java/lang/Math", "max", "(II)I"⟩ : MethodName)) hown (mvT hZ (hw _ (List.mem_of_getElem? (i := 93) rfl))) (mvT hZ (hw _ (List.mem_of_getElem? (i := 94) rfl))) (mvT hZ (hw _ (List.mem_of_getElem? (i := 95) rfl))) (mvT hZ (hw _ (List.mem_of_getElem? (i := 96) rfl))) (by decide) (backOf (W := 1) (rmMx l Z a0 hw [] (10 : Int32) (1 : Int32) h0 n0 Z0 ) hZ (hw _ (List.mem_of_getElem? (i := 96) rfl)) (hw _ (List.mem_of_getElem? (i := 95) rfl)) (by decide) (by decide)) (g := (mkF m 49 #[.val (.ref a), .val (.int (1 : Int32)), .val (.int (0 : Int32)), .unset] [(.int (1 : Int32)), (.int (10 : Int32)), (.ref a)])) rfl (by rw [hml]; rfl) (argsL := [(.int (10 : Int32)), (.int (1 : Int32))]) (rest := [(.ref a)]) (lenOf own_pd1 rfl) rfl (by show 2 * 0 + _ ≤ _; exact Nat.le_of_eq rfl) (hb hby d_jdk_38_m_6_49) (fun _ _ => ⟨rfl, e4, (by decide : 0 + 0 ≤ _), (by decide : 0 + 0 ≤ _)⟩)
  dsimp only [Pt.U, Pt.locs, Pt.cells, Pt.slots] at X5 l5 y5 z5 st5 hQ5
  subst l5 y5 z5
  obtain ⟨rfl, N5q, eq5⟩ := hQ5
  have N5 := Fr.app N0 N5q
  refine own_up (fun _ k => st5 _ k) ?_
  show own_Go p.tables e below _ (T5.setTop (mkF m 52 #[.val (.ref a), .val (.int (1 : Int32)), .val (.int (0 : Int32)), .unset] [(.int (if (10 : Int32) < (1 : Int32) then (1 : Int32) else (10 : Int32))), (.ref a)]))
  rw [show (if (10 : Int32) < (1 : Int32) then (1 : Int32) else (10 : Int32)) = (10 : Int32) from by decide]
  show own_Go p.tables e below _ (T5.setTop (mkF m 52 #[.val (.ref a), .val (.int (1 : Int32)), .val (.int (0 : Int32)), .unset] [(.int (10 : Int32)), (.ref a)]))
  obtain ⟨T6, h6, k6, X6, e6, E6, A6, O6, st6⟩ := newR X5 hx hZ hown (hw _ (List.mem_of_getElem? (i := 97) rfl)) (hw _ (List.mem_of_getElem? (i := 98) rfl)) eq5 (g := (mkF m 52 #[.val (.ref a), .val (.int (1 : Int32)), .val (.int (0 : Int32)), .unset] [(.int (10 : Int32)), (.ref a)])) rfl (hb hby d_jdk_38_m_6_52) rfl (by decide) (cap := 10) (by decide) (by decide) (by decide) (by decide)
  obtain ⟨b6, g6⟩ : ∃ z, z = h0.size := ⟨_, rfl⟩
  rw [← g6] at A6 st6
  have ge6 : n0 ≤ b6 := Nat.le_trans Z0 (Nat.le_of_eq g6.symm)
  have ne6_0 : a ≠ b6 := Nat.ne_of_lt (Nat.lt_of_lt_of_le E.lt (Nat.le_of_eq g6.symm))
  have sz6 : h0.size ≤ b6 := Nat.le_trans (Nat.le_refl _) (Nat.le_of_eq g6.symm)
  refine own_up st6 ?_
  have V6 : Arv Z h6 b6 k6 (.object "java/lang/Object") (10 : Int32) [.null, .null] .null := (Arv.new A6 (by decide)).pad (pad_rep [] .null 2)
  show own_Go p.tables e below _ (T6.setTop (mkF m 55 #[.val (.ref a), .val (.int (1 : Int32)), .val (.int (0 : Int32)), .unset] [(.ref b6), (.ref a)]))
  refine own_up (fun _ k => XS.dupX1 X6.here hx rfl (hb hby d_jdk_38_m_6_55) rfl rfl rfl k) ?_
  show own_Go p.tables e below _ (T6.setTop (mkF m 56 #[.val (.ref a), .val (.int (1 : Int32)), .val (.int (0 : Int32)), .unset] [(.ref b6), (.ref a), (.ref b6)]))
  have f7 : Fld Z h6 a "java/util/ArrayList" "elementData" "[Ljava/lang/Object;" (.ref de) := (F2.ext E6)
  have f8 : Exa Z h6 a "java/util/ArrayList" := (E.ext E6)
  obtain ⟨T9, h9, X9, e9, W9, st9⟩ := putF X6 hx hZ hown (host := "") (Or.inl (hw _ (List.mem_of_getElem? (i := 32) rfl))) Via.refl e6 f7 f8 (Or.inl (hw _ (List.mem_of_getElem? (i := 33) rfl))) (hw _ (List.mem_of_getElem? (i := 11) rfl)) (ty := (.array (.object "java/lang/Object"))) (by decide) rfl rfl (g := (mkF m 56 #[.val (.ref a), .val (.int (1 : Int32)), .val (.int (0 : Int32)), .unset] [(.ref b6), (.ref a), (.ref b6)])) rfl rfl (hb hby d_jdk_38_m_6_56)
  have Fw9 := f7.same W9
  have N9 := Fr.snoc X9 N5 G
  refine own_up st9 ?_
  show own_Go p.tables e below _ (T9.setTop (mkF m 59 #[.val (.ref a), .val (.int (1 : Int32)), .val (.int (0 : Int32)), .unset] [(.ref b6)]))
  have f10 : Exa Z h9 a "java/util/ArrayList" := (f8.wr W9)
  have f11 : Fld Z h9 a "java/util/AbstractList" "modCount" "I" (.int mc) := ((F1.ext E6).other W9 (Or.inr (slot_ne (Or.inl (hw _ (List.mem_of_getElem? (i := 30) rfl))) (Or.inl (hw _ (List.mem_of_getElem? (i := 33) rfl))) (by decide) (t := .int) (t' := (.array (.object "java/lang/Object"))) (by decide) (by decide))))
  have f12 : Fld Z h9 a "java/util/ArrayList" "size" "I" (.int (0 : Int32)) := ((F3.ext E6).other W9 (Or.inr (slot_ne (Or.inl (hw _ (List.mem_of_getElem? (i := 77) rfl))) (Or.inl (hw _ (List.mem_of_getElem? (i := 33) rfl))) (by decide) (t := .int) (t' := (.array (.object "java/lang/Object"))) (by decide) (by decide))))
  have f13 : Arv Z h9 b6 k6 (.object "java/lang/Object") (10 : Int32) [.null, .null] .null := (V6.other W9 (Ne.symm ne6_0))
  exact own_end X9 hlk (v := some (.ref b6)) (fun h => by rw [Bd.returns] at h; cases h) (fun fs hr => retOut X9 hx Bd.returns rfl (Or.inr (Or.inr (Or.inr (Or.inr ⟨rfl, rfl, rfl⟩)))) (hb hby d_jdk_38_m_6_59) hr) e9 ⟨b6, k6, rfl, N9, (((Keep.refl h0 [a]).ext E6).wr W9 (Or.inl (List.mem_of_getElem? (i := 0) rfl))), sz6, ge6, ne6_0, f10, f11, Fw9, f12, f13⟩ (by decide) (by decide)
theorem d_jdk_38_m_7_0 : decode jdk_38_method_7_code 0 = .ok (.aload_n 0, 1) := by decide +kernel
theorem d_jdk_38_m_7_1 : decode jdk_38_method_7_code 1 = .ok (.aload_n 0, 1) := by decide +kernel
theorem d_jdk_38_m_7_2 : decode jdk_38_method_7_code 2 = .ok (.getfield 48, 3) := by decide +kernel
theorem d_jdk_38_m_7_5 : decode jdk_38_method_7_code 5 = .ok (.iconst 1, 1) := by decide +kernel
theorem d_jdk_38_m_7_6 : decode jdk_38_method_7_code 6 = .ok (.iadd, 1) := by decide +kernel
theorem d_jdk_38_m_7_7 : decode jdk_38_method_7_code 7 = .ok (.invokevirtual 69, 3) := by decide +kernel
theorem own_pd2 : parseMethodDescriptor "(I)[Ljava/lang/Object;" = some ⟨[.int], some (.array (.object "java/lang/Object"))⟩ := by decide +kernel
theorem d_jdk_38_m_7_10 : decode jdk_38_method_7_code 10 = .ok (.areturn, 1) := by decide +kernel
theorem ef_rmG0 (m : MethodId) (y0 : Addr) : entryFrame m #[(.ref y0)] 1 = mkF m 0 #[.val (.ref y0)] [] := by first | (simp [entryFrame, mkF, argsToLocals, Value.category]; done) | rfl
def Q_rmG0 (Z : State) (a : Addr) (mc : Int32) (de : Addr) (kd : ClassId) (h0 : Heap) (n0 : Nat) (v : Option Value) (h : Heap) (L : List Loc) : Prop := ∃ (ea : Addr) (kq : ClassId), v = some (.ref ea) ∧ Fr n0 L ∧ Keep h0 h [a] ∧ h0.size ≤ ea ∧ n0 ≤ ea ∧ a ≠ ea ∧ Exa Z h a "java/util/ArrayList" ∧ Fld Z h a "java/util/AbstractList" "modCount" "I" (.int mc) ∧ Fld Z h a "java/util/ArrayList" "elementData" "[Ljava/lang/Object;" (.ref ea) ∧ Fld Z h a "java/util/ArrayList" "size" "I" (.int (0 : Int32)) ∧ Arv Z h ea kq (.object "java/lang/Object") (10 : Int32) [.null, .null] .null
set_option maxRecDepth 65536 in
set_option maxHeartbeats 40000000 in
theorem rmG0 (l : Launch) (Z : State) (a0 : Array Value) (hw : ∀ d ∈ tables_1, d.before a0 Z = true) (ws : List Jvm.Cond) (a : Addr) (mc : Int32) (de : Addr) (kd : ClassId) (h0 : Heap) (n0 : Nat) (Z0 : n0 ≤ h0.size) (O : Old Z n0 h0) (S : Sta Z Z.heap "java/util/ArrayList" "DEFAULTCAPACITY_EMPTY_ELEMENTDATA" "[Ljava/lang/Object;" (.ref de)) (AD : Arv Z Z.heap de kd (.object "java/lang/Object") (0 : Int32) [] .null) (E : Exa Z h0 a "java/util/ArrayList") (F1 : Fld Z h0 a "java/util/AbstractList" "modCount" "I" (.int mc)) (F2 : Fld Z h0 a "java/util/ArrayList" "elementData" "[Ljava/lang/Object;" (.ref de)) (F3 : Fld Z h0 a "java/util/ArrayList" "size" "I" (.int (0 : Int32))) (G : n0 ≤ a) :
    MetFree l (⟨"java/util/ArrayList", "grow", "()[Ljava/lang/Object;"⟩ : MethodName) (head1 (Jvm.Cond.code (⟨"java/util/ArrayList", "grow", "()[Ljava/lang/Object;"⟩ : MethodName) jdk_38_method_7_code 1 (some (.array (.object "java/lang/Object"))) :: ws) ({ frames := 2, cells := 1, slots := 10, locals := 29 } : Room)) (fun ar U => ar = #[(.ref a)] ∧ Z.Warmed39 U.vm ∧ U.heap = h0) (fun _ _ _ _ _ => True) (fun _ U o U' => ∃ v L, o = .returned v ∧ Q_rmG0 Z a mc de kd h0 n0 v U'.heap L ∧ FrameEnd U o U' L ({ frames := 2, cells := 1, slots := 10, locals := 29 } : Room).cells ({ frames := 2, cells := 1, slots := 10, locals := 29 } : Room).slots) := by
  refine MetFree.of_bodySF (plainFor_of_name own_pn3) hisR ?_
  intro p e s m args below meth c s₁ Bd hml0 hP hK
  obtain ⟨rfl, hZ, hh⟩ := hP
  have hx := Bd.exec
  have hby := Bd.bytes
  have hlk : meth.locks = false := BodyLoose.notSynchronized Bd
  have hml : c.maxLocals = 1 := hml0
  have hown : s.vm.findClass "java/util/ArrayList" = some m.cls := findClass_of_methodNamed Bd.named
  have hnm := (name_of_methodNamed Bd.named Bd.method).1
  have X0 : Stand p l e ({ frames := 2, cells := 1, slots := 10, locals := 29 } : Room) s m #[(.ref a)] below meth c s₁ [] 0 0 := Stand.of_body Bd
  have e0 : s₁.heap = h0 := by rw [← hh, Bd.state]; rfl
  have N0 := Fr.nil n0
  show own_Go p.tables e below (fun u o => ∃ v L, o = .returned v ∧ Q_rmG0 Z a mc de kd h0 n0 v u.heap L ∧ FrameEnd s o u L ({ frames := 2, cells := 1, slots := 10, locals := 29 } : Room).cells ({ frames := 2, cells := 1, slots := 10, locals := 29 } : Room).slots) (s₁.setTop (entryFrame m #[(.ref a)] 1))
  refine own_up (fun _ k => castTop (ef_rmG0 m a) k) ?_
  show own_Go p.tables e below _ (s₁.setTop (mkF m 0 #[.val (.ref a)] []))
  refine own_up (fun _ k => XS.aloadN X0.here hx rfl (hb hby d_jdk_38_m_7_0) rfl rfl k) ?_
  show own_Go p.tables e below _ (s₁.setTop (mkF m 1 #[.val (.ref a)] [(.ref a)]))
  refine own_up (fun _ k => XS.aloadN X0.here hx rfl (hb hby d_jdk_38_m_7_1) rfl rfl k) ?_
  show own_Go p.tables e below _ (s₁.setTop (mkF m 2 #[.val (.ref a)] [(.ref a), (.ref a)]))
  obtain ⟨T1, X1, e1, st1⟩ := getF X0 hx hZ hown (host := "") (Or.inl (hw _ (List.mem_of_getElem? (i := 76) rfl))) Via.refl e0 F3 (g := (mkF m 2 #[.val (.ref a)] [(.ref a), (.ref a)])) rfl rfl (hb hby d_jdk_38_m_7_2)
  refine own_up st1 ?_
  show own_Go p.tables e below _ (T1.setTop (mkF m 5 #[.val (.ref a)] [(.int (0 : Int32)), (.ref a)]))
  refine own_up (fun _ k => XS.iconst X1.here hx rfl (hb hby d_jdk_38_m_7_5) k) ?_
  show own_Go p.tables e below _ (T1.setTop (mkF m 6 #[.val (.ref a)] [(.int (1 : Int32)), (.int (0 : Int32)), (.ref a)]))
  refine own_up (fun _ k => XS.iadd X1.here hx rfl (hb hby d_jdk_38_m_7_6) rfl k) ?_
  show own_Go p.tables e below _ (T1.setTop (mkF m 7 #[.val (.ref a)] [(.int (1 : Int32)), (.ref a)]))
  obtain ⟨cq2, q2, q2'⟩ := (E).cell
  obtain ⟨_, _, ⟨T2, L2, k2, n2⟩, -, X2, ⟨Lc2, hQ2, l2, y2, z2⟩, st2⟩ := X1.privateBack hx (y := (⟨"java/util/ArrayList", "grow", "(I)[Ljava/lang/Object;"⟩ : MethodName)) hown (mvT hZ (hw _ (List.mem_of_getElem? (i := 88) rfl))) (mvT hZ (hw _ (List.mem_of_getElem? (i := 89) rfl))) (mvT hZ (hw _ (List.mem_of_getElem? (i := 91) rfl))) (Cond.privateMethod_at (mvP hZ (hw _ (List.mem_of_getElem? (i := 90) rfl)) (args := #[]))) (mvT hZ (hw _ (List.mem_of_getElem? (i := 92) rfl))) (by decide) (backOf (W := 0) (rmG1 l Z a0 hw [] a mc de kd h0 n0 Z0 O S AD E F1 F2 F3 G) hZ (hw _ (List.mem_of_getElem? (i := 92) rfl)) (hw _ (List.mem_of_getElem? (i := 12) rfl)) (by decide) (by decide)) (g := (mkF m 7 #[.val (.ref a)] [(.int (1 : Int32)), (.ref a)])) rfl (by rw [hml]; rfl) (Steps.refl _) (a := a) (by rw [e1]; exact q2) q2' (argsL := [(.int (1 : Int32))]) (rest := []) (lenOf own_pd2 rfl) rfl (by show 2 * 0 + _ ≤ _; exact Nat.le_of_eq rfl) (hb hby d_jdk_38_m_7_7) (fun _ _ => ⟨rfl, e1, (by decide : 0 + 1 ≤ _), (by decide : 0 + 10 ≤ _)⟩)
  dsimp only [Pt.U, Pt.locs, Pt.cells, Pt.slots] at X2 l2 y2 z2 st2 hQ2
  subst l2 y2 z2
  obtain ⟨ea_2, kq_2, rfl, N2q, K2, P2_0, P2_1, P2_2, P2_3, P2_4, P2_5, P2_6, P2_7⟩ := hQ2
  have N2 := Fr.app N0 N2q
  refine own_up (fun _ k => st2.trans k) ?_
  have nl2_0_0 : a ≠ ea_2 := Nat.ne_of_lt (Nat.lt_of_lt_of_le E.lt P2_0)
  have sl2_0 : h0.size ≤ ea_2 := Nat.le_trans (Nat.le_refl _) P2_0
  show own_Go p.tables e below _ (T2.setTop (mkF m 10 #[.val (.ref a)] [(.ref ea_2)]))
  exact own_end X2 hlk (v := some (.ref ea_2)) (fun h => by rw [Bd.returns] at h; cases h) (fun fs hr => retOut X2 hx Bd.returns rfl (Or.inr (Or.inr (Or.inr (Or.inr ⟨rfl, rfl, rfl⟩)))) (hb hby d_jdk_38_m_7_10) hr) rfl ⟨ea_2, kq_2, rfl, N2, ((Keep.refl h0 [a]).trans K2 (allS (Or.inl (List.mem_of_getElem? (i := 0) rfl)) all0)), sl2_0, P2_1, P2_2, P2_3, P2_4, P2_5, P2_6, P2_7⟩ (by decide) (by decide)
theorem d_jdk_38_m_24_0 : decode jdk_38_method_24_code 0 = .ok (.iload_n 3, 1) := by decide +kernel
theorem d_jdk_38_m_24_1 : decode jdk_38_method_24_code 1 = .ok (.aload_n 2, 1) := by decide +kernel
theorem d_jdk_38_m_24_2 : decode jdk_38_method_24_code 2 = .ok (.arraylength, 1) := by decide +kernel
theorem d_jdk_38_m_24_3 : decode jdk_38_method_24_code 3 = .ok (.if_icmp .ne 8, 3) := by decide +kernel
theorem d_jdk_38_m_24_6 : decode jdk_38_method_24_code 6 = .ok (.aload_n 0, 1) := by decide +kernel
theorem d_jdk_38_m_24_7 : decode jdk_38_method_24_code 7 = .ok (.invokevirtual 129, 3) := by decide +kernel
theorem own_pd3 : parseMethodDescriptor "()[Ljava/lang/Object;" = some ⟨[], some (.array (.object "java/lang/Object"))⟩ := by decide +kernel
theorem d_jdk_38_m_24_10 : decode jdk_38_method_24_code 10 = .ok (.astore_n 2, 1) := by decide +kernel
theorem d_jdk_38_m_24_11 : decode jdk_38_method_24_code 11 = .ok (.aload_n 2, 1) := by decide +kernel
theorem d_jdk_38_m_24_12 : decode jdk_38_method_24_code 12 = .ok (.iload_n 3, 1) := by decide +kernel
theorem d_jdk_38_m_24_13 : decode jdk_38_method_24_code 13 = .ok (.aload_n 1, 1) := by decide +kernel
theorem d_jdk_38_m_24_14 : decode jdk_38_method_24_code 14 = .ok (.aastore, 1) := by decide +kernel
theorem d_jdk_38_m_24_15 : decode jdk_38_method_24_code 15 = .ok (.aload_n 0, 1) := by decide +kernel
theorem d_jdk_38_m_24_16 : decode jdk_38_method_24_code 16 = .ok (.iload_n 3, 1) := by decide +kernel
theorem d_jdk_38_m_24_17 : decode jdk_38_method_24_code 17 = .ok (.iconst 1, 1) := by decide +kernel
theorem d_jdk_38_m_24_18 : decode jdk_38_method_24_code 18 = .ok (.iadd, 1) := by decide +kernel
theorem d_jdk_38_m_24_19 : decode jdk_38_method_24_code 19 = .ok (.putfield 48, 3) := by decide +kernel
theorem d_jdk_38_m_24_22 : decode jdk_38_method_24_code 22 = .ok (.return_, 1) := by decide +kernel
theorem ef_rmH0 (m : MethodId) (y0 : Addr) (y2 : Addr) (y3 : Int32) : entryFrame m #[(.ref y0), .null, (.ref y2), (.int y3)] 4 = mkF m 0 #[.val (.ref y0), .val .null, .val (.ref y2), .val (.int y3)] [] := by first | (simp [entryFrame, mkF, argsToLocals, Value.category]; done) | rfl
def Q_rmH0 (Z : State) (a : Addr) (mc : Int32) (de : Addr) (kd : ClassId) (h0 : Heap) (n0 : Nat) (v : Option Value) (h : Heap) (L : List Loc) : Prop := ∃ (ea : Addr) (kq : ClassId), v = none ∧ Fr n0 L ∧ Keep h0 h [a] ∧ h0.size ≤ ea ∧ n0 ≤ ea ∧ a ≠ ea ∧ Exa Z h a "java/util/ArrayList" ∧ Fld Z h a "java/util/AbstractList" "modCount" "I" (.int mc) ∧ Fld Z h a "java/util/ArrayList" "elementData" "[Ljava/lang/Object;" (.ref ea) ∧ Fld Z h a "java/util/ArrayList" "size" "I" (.int (1 : Int32)) ∧ Arv Z h ea kq (.object "java/lang/Object") (10 : Int32) [.null, .null] .null
set_option maxRecDepth 65536 in
set_option maxHeartbeats 40000000 in
theorem rmH0 (l : Launch) (Z : State) (a0 : Array Value) (hw : ∀ d ∈ tables_1, d.before a0 Z = true) (ws : List Jvm.Cond) (a : Addr) (mc : Int32) (de : Addr) (kd : ClassId) (h0 : Heap) (n0 : Nat) (Z0 : n0 ≤ h0.size) (O : Old Z n0 h0) (S : Sta Z Z.heap "java/util/ArrayList" "DEFAULTCAPACITY_EMPTY_ELEMENTDATA" "[Ljava/lang/Object;" (.ref de)) (AD : Arv Z Z.heap de kd (.object "java/lang/Object") (0 : Int32) [] .null) (E : Exa Z h0 a "java/util/ArrayList") (F1 : Fld Z h0 a "java/util/AbstractList" "modCount" "I" (.int mc)) (F2 : Fld Z h0 a "java/util/ArrayList" "elementData" "[Ljava/lang/Object;" (.ref de)) (F3 : Fld Z h0 a "java/util/ArrayList" "size" "I" (.int (0 : Int32))) (G : n0 ≤ a) :
    MetFree l (⟨"java/util/ArrayList", "add", "(Ljava/lang/Object;[Ljava/lang/Object;I)V"⟩ : MethodName) (head1 (Jvm.Cond.code (⟨"java/util/ArrayList", "add", "(Ljava/lang/Object;[Ljava/lang/Object;I)V"⟩ : MethodName) jdk_38_method_24_code 4 none :: ws) ({ frames := 3, cells := 1, slots := 10, locals := 41 } : Room)) (fun ar U => ar = #[(.ref a), .null, (.ref de), (.int (0 : Int32))] ∧ Z.Warmed39 U.vm ∧ U.heap = h0) (fun _ _ _ _ _ => True) (fun _ U o U' => ∃ v L, o = .returned v ∧ Q_rmH0 Z a mc de kd h0 n0 v U'.heap L ∧ FrameEnd U o U' L ({ frames := 3, cells := 1, slots := 10, locals := 41 } : Room).cells ({ frames := 3, cells := 1, slots := 10, locals := 41 } : Room).slots) := by
  refine MetFree.of_bodySF (plainFor_of_name own_pn3) hisR ?_
  intro p e s m args below meth c s₁ Bd hml0 hP hK
  obtain ⟨rfl, hZ, hh⟩ := hP
  have hx := Bd.exec
  have hby := Bd.bytes
  have hlk : meth.locks = false := BodyLoose.notSynchronized Bd
  have hml : c.maxLocals = 4 := hml0
  have hown : s.vm.findClass "java/util/ArrayList" = some m.cls := findClass_of_methodNamed Bd.named
  have hnm := (name_of_methodNamed Bd.named Bd.method).1
  have X0 : Stand p l e ({ frames := 3, cells := 1, slots := 10, locals := 41 } : Room) s m #[(.ref a), .null, (.ref de), (.int (0 : Int32))] below meth c s₁ [] 0 0 := Stand.of_body Bd
  have e0 : s₁.heap = h0 := by rw [← hh, Bd.state]; rfl
  have N0 := Fr.nil n0
  show own_Go p.tables e below (fun u o => ∃ v L, o = .returned v ∧ Q_rmH0 Z a mc de kd h0 n0 v u.heap L ∧ FrameEnd s o u L ({ frames := 3, cells := 1, slots := 10, locals := 41 } : Room).cells ({ frames := 3, cells := 1, slots := 10, locals := 41 } : Room).slots) (s₁.setTop (entryFrame m #[(.ref a), .null, (.ref de), (.int (0 : Int32))] 4))
  refine own_up (fun _ k => castTop (ef_rmH0 m a de (0 : Int32)) k) ?_
  show own_Go p.tables e below _ (s₁.setTop (mkF m 0 #[.val (.ref a), .val .null, .val (.ref de), .val (.int (0 : Int32))] []))
  refine own_up (fun _ k => XS.iloadN X0.here hx rfl (hb hby d_jdk_38_m_24_0) rfl k) ?_
  show own_Go p.tables e below _ (s₁.setTop (mkF m 1 #[.val (.ref a), .val .null, .val (.ref de), .val (.int (0 : Int32))] [(.int (0 : Int32))]))
  refine own_up (fun _ k => XS.aloadN X0.here hx rfl (hb hby d_jdk_38_m_24_1) rfl rfl k) ?_
  show own_Go p.tables e below _ (s₁.setTop (mkF m 2 #[.val (.ref a), .val .null, .val (.ref de), .val (.int (0 : Int32))] [(.ref de), (.int (0 : Int32))]))
  obtain ⟨cl1_, Ar1, q1, S1, M1, Hs1, G1⟩ := id ((AD.ext O.2))
  refine own_up (fun _ k => X0.arraylength hx (by rw [e0]; exact Ar1.1) (State.isArrayOf_alike hZ.alike Ar1.2.1) (g := (mkF m 2 #[.val (.ref a), .val .null, .val (.ref de), .val (.int (0 : Int32))] [(.ref de), (.int (0 : Int32))])) rfl rfl (hb hby d_jdk_38_m_24_2) _ k) ?_
  rw [len_of S1 M1]
  show own_Go p.tables e below _ (s₁.setTop (mkF m 3 #[.val (.ref a), .val .null, .val (.ref de), .val (.int (0 : Int32))] [(.int (0 : Int32)), (.int (0 : Int32))]))
  refine own_up (fun _ k => XS.icmpNo X0.here hx rfl (hb hby d_jdk_38_m_24_3) rfl (teq rfl).2 k) ?_
  show own_Go p.tables e below _ (s₁.setTop (mkF m 6 #[.val (.ref a), .val .null, .val (.ref de), .val (.int (0 : Int32))] []))
  refine own_up (fun _ k => XS.aloadN X0.here hx rfl (hb hby d_jdk_38_m_24_6) rfl rfl k) ?_
  show own_Go p.tables e below _ (s₁.setTop (mkF m 7 #[.val (.ref a), .val .null, .val (.ref de), .val (.int (0 : Int32))] [(.ref a)]))
  obtain ⟨cq2, q2, q2'⟩ := (E).cell
  obtain ⟨_, _, ⟨T2, L2, k2, n2⟩, -, X2, ⟨Lc2, hQ2, l2, y2, z2⟩, st2⟩ := X0.privateBack hx (y := (⟨"java/util/ArrayList", "grow", "()[Ljava/lang/Object;"⟩ : MethodName)) hown (mvT hZ (hw _ (List.mem_of_getElem? (i := 83) rfl))) (mvT hZ (hw _ (List.mem_of_getElem? (i := 84) rfl))) (mvT hZ (hw _ (List.mem_of_getElem? (i := 86) rfl))) (Cond.privateMethod_at (mvP hZ (hw _ (List.mem_of_getElem? (i := 85) rfl)) (args := #[]))) (mvT hZ (hw _ (List.mem_of_getElem? (i := 87) rfl))) (by decide) (backOf (W := 0) (rmG0 l Z a0 hw [] a mc de kd h0 n0 Z0 O S AD E F1 F2 F3 G) hZ (hw _ (List.mem_of_getElem? (i := 87) rfl)) (hw _ (List.mem_of_getElem? (i := 12) rfl)) (by decide) (by decide)) (g := (mkF m 7 #[.val (.ref a), .val .null, .val (.ref de), .val (.int (0 : Int32))] [(.ref a)])) rfl (by rw [hml]; rfl) (Steps.refl _) (a := a) (by rw [e0]; exact q2) q2' (argsL := []) (rest := []) (lenOf own_pd3 rfl) rfl (by show 2 * 0 + _ ≤ _; exact Nat.le_of_eq rfl) (hb hby d_jdk_38_m_24_7) (fun _ _ => ⟨rfl, e0, (by decide : 0 + 1 ≤ _), (by decide : 0 + 10 ≤ _)⟩)
  dsimp only [Pt.U, Pt.locs, Pt.cells, Pt.slots] at X2 l2 y2 z2 st2 hQ2
  subst l2 y2 z2
  obtain ⟨ea_2, kq_2, rfl, N2q, K2, P2_0, P2_1, P2_2, P2_3, P2_4, P2_5, P2_6, P2_7⟩ := hQ2
  have N2 := Fr.app N0 N2q
  refine own_up (fun _ k => st2.trans k) ?_
  have nl2_0_0 : a ≠ ea_2 := Nat.ne_of_lt (Nat.lt_of_lt_of_le E.lt P2_0)
  have sl2_0 : h0.size ≤ ea_2 := Nat.le_trans (Nat.le_refl _) P2_0
  show own_Go p.tables e below _ (T2.setTop (mkF m 10 #[.val (.ref a), .val .null, .val (.ref de), .val (.int (0 : Int32))] [(.ref ea_2)]))
  refine own_up (fun _ k => XS.astoreN X2.here hx rfl (hb hby d_jdk_38_m_24_10) rfl rfl (l' := #[.val (.ref a), .val .null, .val (.ref ea_2), .val (.int (0 : Int32))]) rfl k) ?_
  show own_Go p.tables e below _ (T2.setTop (mkF m 11 #[.val (.ref a), .val .null, .val (.ref ea_2), .val (.int (0 : Int32))] []))
  refine own_up (fun _ k => XS.aloadN X2.here hx rfl (hb hby d_jdk_38_m_24_11) rfl rfl k) ?_
  show own_Go p.tables e below _ (T2.setTop (mkF m 12 #[.val (.ref a), .val .null, .val (.ref ea_2), .val (.int (0 : Int32))] [(.ref ea_2)]))
  refine own_up (fun _ k => XS.iloadN X2.here hx rfl (hb hby d_jdk_38_m_24_12) rfl k) ?_
  show own_Go p.tables e below _ (T2.setTop (mkF m 13 #[.val (.ref a), .val .null, .val (.ref ea_2), .val (.int (0 : Int32))] [(.int (0 : Int32)), (.ref ea_2)]))
  refine own_up (fun _ k => XS.aloadN X2.here hx rfl (hb hby d_jdk_38_m_24_13) rfl rfl k) ?_
  show own_Go p.tables e below _ (T2.setTop (mkF m 14 #[.val (.ref a), .val .null, .val (.ref ea_2), .val (.int (0 : Int32))] [.null, (.int (0 : Int32)), (.ref ea_2)]))
  obtain ⟨cl3_, Ar3, q3, S3, M3, Hs3, G3⟩ := id (P2_7)
  have hin4 : ¬ ((0 : Int32) < 0 ∨ cl3_.slots.size ≤ ((0 : Int32)).toNatClampNeg) := inb_of S3 ⟨by decide, by decide⟩
  obtain ⟨T4, h4, X4, e4, W4, st4⟩ := stR X2 hx hZ rfl Ar3 (j := (0 : Int32)) hin4 rfl (Or.inl rfl) (g := (mkF m 14 #[.val (.ref a), .val .null, .val (.ref ea_2), .val (.int (0 : Int32))] [.null, (.int (0 : Int32)), (.ref ea_2)])) rfl rfl (hb hby d_jdk_38_m_24_14)
  have V4 : Arv Z h4 ea_2 kq_2 (.object "java/lang/Object") (10 : Int32) [.null, .null] .null := Arv.set Ar3 q3 S3 M3 Hs3 G3 rfl W4 0 rfl (Nat.le_of_ble_eq_true rfl)
  have N4 := Fr.snoc X4 N2 P2_1
  refine own_up st4 ?_
  show own_Go p.tables e below _ (T4.setTop (mkF m 15 #[.val (.ref a), .val .null, .val (.ref ea_2), .val (.int (0 : Int32))] []))
  refine own_up (fun _ k => XS.aloadN X4.here hx rfl (hb hby d_jdk_38_m_24_15) rfl rfl k) ?_
  show own_Go p.tables e below _ (T4.setTop (mkF m 16 #[.val (.ref a), .val .null, .val (.ref ea_2), .val (.int (0 : Int32))] [(.ref a)]))
  refine own_up (fun _ k => XS.iloadN X4.here hx rfl (hb hby d_jdk_38_m_24_16) rfl k) ?_
  show own_Go p.tables e below _ (T4.setTop (mkF m 17 #[.val (.ref a), .val .null, .val (.ref ea_2), .val (.int (0 : Int32))] [(.int (0 : Int32)), (.ref a)]))
  refine own_up (fun _ k => XS.iconst X4.here hx rfl (hb hby d_jdk_38_m_24_17) k) ?_
  show own_Go p.tables e below _ (T4.setTop (mkF m 18 #[.val (.ref a), .val .null, .val (.ref ea_2), .val (.int (0 : Int32))] [(.int (1 : Int32)), (.int (0 : Int32)), (.ref a)]))
  refine own_up (fun _ k => XS.iadd X4.here hx rfl (hb hby d_jdk_38_m_24_18) rfl k) ?_
  show own_Go p.tables e below _ (T4.setTop (mkF m 19 #[.val (.ref a), .val .null, .val (.ref ea_2), .val (.int (0 : Int32))] [(.int (1 : Int32)), (.ref a)]))
  have f5 : Fld Z h4 a "java/util/ArrayList" "size" "I" (.int (0 : Int32)) := (P2_6.other W4 (Or.inl P2_2))
  have f6 : Exa Z h4 a "java/util/ArrayList" := (P2_3.wr W4)
  obtain ⟨T7, h7, X7, e7, W7, st7⟩ := putF X4 hx hZ hown (host := "") (Or.inl (hw _ (List.mem_of_getElem? (i := 76) rfl))) Via.refl e4 f5 f6 (Or.inl (hw _ (List.mem_of_getElem? (i := 77) rfl))) (hw _ (List.mem_of_getElem? (i := 11) rfl)) (ty := .int) (by decide) rfl rfl (g := (mkF m 19 #[.val (.ref a), .val .null, .val (.ref ea_2), .val (.int (0 : Int32))] [(.int (1 : Int32)), (.ref a)])) rfl rfl (hb hby d_jdk_38_m_24_19)
  have Fw7 := f5.same W7
  have N7 := Fr.snoc X7 N4 G
  refine own_up st7 ?_
  show own_Go p.tables e below _ (T7.setTop (mkF m 22 #[.val (.ref a), .val .null, .val (.ref ea_2), .val (.int (0 : Int32))] []))
  have f8 : Exa Z h7 a "java/util/ArrayList" := (f6.wr W7)
  have f9 : Fld Z h7 a "java/util/AbstractList" "modCount" "I" (.int mc) := ((P2_4.other W4 (Or.inl P2_2)).other W7 (Or.inr (slot_ne (Or.inl (hw _ (List.mem_of_getElem? (i := 30) rfl))) (Or.inl (hw _ (List.mem_of_getElem? (i := 77) rfl))) (by decide) (t := .int) (t' := .int) (by decide) (by decide))))
  have f10 : Fld Z h7 a "java/util/ArrayList" "elementData" "[Ljava/lang/Object;" (.ref ea_2) := ((P2_5.other W4 (Or.inl P2_2)).other W7 (Or.inr (slot_ne (Or.inl (hw _ (List.mem_of_getElem? (i := 33) rfl))) (Or.inl (hw _ (List.mem_of_getElem? (i := 77) rfl))) (by decide) (t := (.array (.object "java/lang/Object"))) (t' := .int) (by decide) (by decide))))
  have f11 : Arv Z h7 ea_2 kq_2 (.object "java/lang/Object") (10 : Int32) [.null, .null] .null := (V4.other W7 (Ne.symm P2_2))
  exact own_end X7 hlk (v := none) (fun _ => rfl) (fun fs hr => X7.returnOut hx Bd.returns (hb hby d_jdk_38_m_24_22) hr) e7 ⟨ea_2, kq_2, rfl, N7, ((((Keep.refl h0 [a]).trans K2 (allS (Or.inl (List.mem_of_getElem? (i := 0) rfl)) all0)).wr W4 (Or.inr sl2_0)).wr W7 (Or.inl (List.mem_of_getElem? (i := 0) rfl))), sl2_0, P2_1, P2_2, f8, f9, f10, Fw7, f11⟩ (by decide) (by decide)
theorem ef_rmH1 (m : MethodId) (y0 : Addr) (y2 : Addr) (y3 : Int32) : entryFrame m #[(.ref y0), .null, (.ref y2), (.int y3)] 4 = mkF m 0 #[.val (.ref y0), .val .null, .val (.ref y2), .val (.int y3)] [] := by first | (simp [entryFrame, mkF, argsToLocals, Value.category]; done) | rfl
def Q_rmH1 (Z : State) (a : Addr) (mc : Int32) (ea : Addr) (kq : ClassId) (h0 : Heap) (n0 : Nat) (v : Option Value) (h : Heap) (L : List Loc) : Prop := v = none ∧ Fr n0 L ∧ Keep h0 h [a, ea] ∧ Exa Z h a "java/util/ArrayList" ∧ Fld Z h a "java/util/AbstractList" "modCount" "I" (.int mc) ∧ Fld Z h a "java/util/ArrayList" "elementData" "[Ljava/lang/Object;" (.ref ea) ∧ Fld Z h a "java/util/ArrayList" "size" "I" (.int (2 : Int32))
set_option maxRecDepth 65536 in
set_option maxHeartbeats 40000000 in
theorem rmH1 (l : Launch) (Z : State) (a0 : Array Value) (hw : ∀ d ∈ tables_1, d.before a0 Z = true) (ws : List Jvm.Cond) (a : Addr) (mc : Int32) (ea : Addr) (kq : ClassId) (h0 : Heap) (n0 : Nat) (Z0 : n0 ≤ h0.size) (E : Exa Z h0 a "java/util/ArrayList") (F1 : Fld Z h0 a "java/util/AbstractList" "modCount" "I" (.int mc)) (F2 : Fld Z h0 a "java/util/ArrayList" "elementData" "[Ljava/lang/Object;" (.ref ea)) (F3 : Fld Z h0 a "java/util/ArrayList" "size" "I" (.int (1 : Int32))) (G : n0 ≤ a) (G2 : n0 ≤ ea) (Nae : a ≠ ea) (V : Arv Z h0 ea kq (.object "java/lang/Object") (10 : Int32) [.null, .null] .null) :
    MetFree l (⟨"java/util/ArrayList", "add", "(Ljava/lang/Object;[Ljava/lang/Object;I)V"⟩ : MethodName) (head1 (Jvm.Cond.code (⟨"java/util/ArrayList", "add", "(Ljava/lang/Object;[Ljava/lang/Object;I)V"⟩ : MethodName) jdk_38_method_24_code 4 none :: ws) ({ frames := 0, cells := 0, slots := 0, locals := 0 } : Room)) (fun ar U => ar = #[(.ref a), .null, (.ref ea), (.int (1 : Int32))] ∧ Z.Warmed39 U.vm ∧ U.heap = h0) (fun _ _ _ _ _ => True) (fun _ U o U' => ∃ v L, o = .returned v ∧ Q_rmH1 Z a mc ea kq h0 n0 v U'.heap L ∧ FrameEnd U o U' L ({ frames := 0, cells := 0, slots := 0, locals := 0 } : Room).cells ({ frames := 0, cells := 0, slots := 0, locals := 0 } : Room).slots) := by
  refine MetFree.of_bodySF (plainFor_of_name own_pn3) hisR ?_
  intro p e s m args below meth c s₁ Bd hml0 hP hK
  obtain ⟨rfl, hZ, hh⟩ := hP
  have hx := Bd.exec
  have hby := Bd.bytes
  have hlk : meth.locks = false := BodyLoose.notSynchronized Bd
  have hml : c.maxLocals = 4 := hml0
  have hown : s.vm.findClass "java/util/ArrayList" = some m.cls := findClass_of_methodNamed Bd.named
  have hnm := (name_of_methodNamed Bd.named Bd.method).1
  have X0 : Stand p l e ({ frames := 0, cells := 0, slots := 0, locals := 0 } : Room) s m #[(.ref a), .null, (.ref ea), (.int (1 : Int32))] below meth c s₁ [] 0 0 := Stand.of_body Bd
  have e0 : s₁.heap = h0 := by rw [← hh, Bd.state]; rfl
  have N0 := Fr.nil n0
  show own_Go p.tables e below (fun u o => ∃ v L, o = .returned v ∧ Q_rmH1 Z a mc ea kq h0 n0 v u.heap L ∧ FrameEnd s o u L ({ frames := 0, cells := 0, slots := 0, locals := 0 } : Room).cells ({ frames := 0, cells := 0, slots := 0, locals := 0 } : Room).slots) (s₁.setTop (entryFrame m #[(.ref a), .null, (.ref ea), (.int (1 : Int32))] 4))
  refine own_up (fun _ k => castTop (ef_rmH1 m a ea (1 : Int32)) k) ?_
  show own_Go p.tables e below _ (s₁.setTop (mkF m 0 #[.val (.ref a), .val .null, .val (.ref ea), .val (.int (1 : Int32))] []))
  refine own_up (fun _ k => XS.iloadN X0.here hx rfl (hb hby d_jdk_38_m_24_0) rfl k) ?_
  show own_Go p.tables e below _ (s₁.setTop (mkF m 1 #[.val (.ref a), .val .null, .val (.ref ea), .val (.int (1 : Int32))] [(.int (1 : Int32))]))
  refine own_up (fun _ k => XS.aloadN X0.here hx rfl (hb hby d_jdk_38_m_24_1) rfl rfl k) ?_
  show own_Go p.tables e below _ (s₁.setTop (mkF m 2 #[.val (.ref a), .val .null, .val (.ref ea), .val (.int (1 : Int32))] [(.ref ea), (.int (1 : Int32))]))
  obtain ⟨cl1_, Ar1, q1, S1, M1, Hs1, G1⟩ := id (V)
  refine own_up (fun _ k => X0.arraylength hx (by rw [e0]; exact Ar1.1) (State.isArrayOf_alike hZ.alike Ar1.2.1) (g := (mkF m 2 #[.val (.ref a), .val .null, .val (.ref ea), .val (.int (1 : Int32))] [(.ref ea), (.int (1 : Int32))])) rfl rfl (hb hby d_jdk_38_m_24_2) _ k) ?_
  rw [len_of S1 M1]
  show own_Go p.tables e below _ (s₁.setTop (mkF m 3 #[.val (.ref a), .val .null, .val (.ref ea), .val (.int (1 : Int32))] [(.int (10 : Int32)), (.int (1 : Int32))]))
  refine own_up (fun _ k => XS.icmpYes X0.here hx rfl (pc0 := 3) (pc' := 11) rfl (hb hby d_jdk_38_m_24_3) rfl (feq (by decide)).2 (by decide) (by decide) k) ?_
  show own_Go p.tables e below _ (s₁.setTop (mkF m 11 #[.val (.ref a), .val .null, .val (.ref ea), .val (.int (1 : Int32))] []))
  refine own_up (fun _ k => XS.aloadN X0.here hx rfl (hb hby d_jdk_38_m_24_11) rfl rfl k) ?_
  show own_Go p.tables e below _ (s₁.setTop (mkF m 12 #[.val (.ref a), .val .null, .val (.ref ea), .val (.int (1 : Int32))] [(.ref ea)]))
  refine own_up (fun _ k => XS.iloadN X0.here hx rfl (hb hby d_jdk_38_m_24_12) rfl k) ?_
  show own_Go p.tables e below _ (s₁.setTop (mkF m 13 #[.val (.ref a), .val .null, .val (.ref ea), .val (.int (1 : Int32))] [(.int (1 : Int32)), (.ref ea)]))
  refine own_up (fun _ k => XS.aloadN X0.here hx rfl (hb hby d_jdk_38_m_24_13) rfl rfl k) ?_
  show own_Go p.tables e below _ (s₁.setTop (mkF m 14 #[.val (.ref a), .val .null, .val (.ref ea), .val (.int (1 : Int32))] [.null, (.int (1 : Int32)), (.ref ea)]))
  have hin2 : ¬ ((1 : Int32) < 0 ∨ cl1_.slots.size ≤ ((1 : Int32)).toNatClampNeg) := inb_of S1 ⟨by decide, by decide⟩
  obtain ⟨T2, h2, X2, e2, W2, st2⟩ := stR X0 hx hZ e0 Ar1 (j := (1 : Int32)) hin2 rfl (Or.inl rfl) (g := (mkF m 14 #[.val (.ref a), .val .null, .val (.ref ea), .val (.int (1 : Int32))] [.null, (.int (1 : Int32)), (.ref ea)])) rfl rfl (hb hby d_jdk_38_m_24_14)
  have V2 : Arv Z h2 ea kq (.object "java/lang/Object") (10 : Int32) [.null, .null] .null := Arv.set Ar1 q1 S1 M1 Hs1 G1 rfl W2 1 rfl (Nat.le_of_ble_eq_true rfl)
  have N2 := Fr.snoc X2 N0 G2
  refine own_up st2 ?_
  show own_Go p.tables e below _ (T2.setTop (mkF m 15 #[.val (.ref a), .val .null, .val (.ref ea), .val (.int (1 : Int32))] []))
  refine own_up (fun _ k => XS.aloadN X2.here hx rfl (hb hby d_jdk_38_m_24_15) rfl rfl k) ?_
  show own_Go p.tables e below _ (T2.setTop (mkF m 16 #[.val (.ref a), .val .null, .val (.ref ea), .val (.int (1 : Int32))] [(.ref a)]))
  refine own_up (fun _ k => XS.iloadN X2.here hx rfl (hb hby d_jdk_38_m_24_16) rfl k) ?_
  show own_Go p.tables e below _ (T2.setTop (mkF m 17 #[.val (.ref a), .val .null, .val (.ref ea), .val (.int (1 : Int32))] [(.int (1 : Int32)), (.ref a)]))
  refine own_up (fun _ k => XS.iconst X2.here hx rfl (hb hby d_jdk_38_m_24_17) k) ?_
  show own_Go p.tables e below _ (T2.setTop (mkF m 18 #[.val (.ref a), .val .null, .val (.ref ea), .val (.int (1 : Int32))] [(.int (1 : Int32)), (.int (1 : Int32)), (.ref a)]))
  refine own_up (fun _ k => XS.iadd X2.here hx rfl (hb hby d_jdk_38_m_24_18) rfl k) ?_
  show own_Go p.tables e below _ (T2.setTop (mkF m 19 #[.val (.ref a), .val .null, .val (.ref ea), .val (.int (1 : Int32))] [(.int (2 : Int32)), (.ref a)]))
  have f3 : Fld Z h2 a "java/util/ArrayList" "size" "I" (.int (1 : Int32)) := (F3.other W2 (Or.inl Nae))
  have f4 : Exa Z h2 a "java/util/ArrayList" := (E.wr W2)
  obtain ⟨T5, h5, X5, e5, W5, st5⟩ := putF X2 hx hZ hown (host := "") (Or.inl (hw _ (List.mem_of_getElem? (i := 76) rfl))) Via.refl e2 f3 f4 (Or.inl (hw _ (List.mem_of_getElem? (i := 77) rfl))) (hw _ (List.mem_of_getElem? (i := 11) rfl)) (ty := .int) (by decide) rfl rfl (g := (mkF m 19 #[.val (.ref a), .val .null, .val (.ref ea), .val (.int (1 : Int32))] [(.int (2 : Int32)), (.ref a)])) rfl rfl (hb hby d_jdk_38_m_24_19)
  have Fw5 := f3.same W5
  have N5 := Fr.snoc X5 N2 G
  refine own_up st5 ?_
  show own_Go p.tables e below _ (T5.setTop (mkF m 22 #[.val (.ref a), .val .null, .val (.ref ea), .val (.int (1 : Int32))] []))
  have f6 : Exa Z h5 a "java/util/ArrayList" := (f4.wr W5)
  have f7 : Fld Z h5 a "java/util/AbstractList" "modCount" "I" (.int mc) := ((F1.other W2 (Or.inl Nae)).other W5 (Or.inr (slot_ne (Or.inl (hw _ (List.mem_of_getElem? (i := 30) rfl))) (Or.inl (hw _ (List.mem_of_getElem? (i := 77) rfl))) (by decide) (t := .int) (t' := .int) (by decide) (by decide))))
  have f8 : Fld Z h5 a "java/util/ArrayList" "elementData" "[Ljava/lang/Object;" (.ref ea) := ((F2.other W2 (Or.inl Nae)).other W5 (Or.inr (slot_ne (Or.inl (hw _ (List.mem_of_getElem? (i := 33) rfl))) (Or.inl (hw _ (List.mem_of_getElem? (i := 77) rfl))) (by decide) (t := (.array (.object "java/lang/Object"))) (t' := .int) (by decide) (by decide))))
  exact own_end X5 hlk (v := none) (fun _ => rfl) (fun fs hr => X5.returnOut hx Bd.returns (hb hby d_jdk_38_m_24_22) hr) e5 ⟨rfl, N5, (((Keep.refl h0 [a, ea]).wr W2 (Or.inl (List.mem_of_getElem? (i := 1) rfl))).wr W5 (Or.inl (List.mem_of_getElem? (i := 0) rfl))), f6, f7, f8, Fw5⟩ (by decide) (by decide)
theorem d_jdk_38_m_25_0 : decode jdk_38_method_25_code 0 = .ok (.aload_n 0, 1) := by decide +kernel
theorem d_jdk_38_m_25_1 : decode jdk_38_method_25_code 1 = .ok (.dup, 1) := by decide +kernel
theorem d_jdk_38_m_25_2 : decode jdk_38_method_25_code 2 = .ok (.getfield 63, 3) := by decide +kernel
theorem d_jdk_38_m_25_5 : decode jdk_38_method_25_code 5 = .ok (.iconst 1, 1) := by decide +kernel
theorem d_jdk_38_m_25_6 : decode jdk_38_method_25_code 6 = .ok (.iadd, 1) := by decide +kernel
theorem d_jdk_38_m_25_7 : decode jdk_38_method_25_code 7 = .ok (.putfield 63, 3) := by decide +kernel
theorem d_jdk_38_m_25_10 : decode jdk_38_method_25_code 10 = .ok (.aload_n 0, 1) := by decide +kernel
theorem d_jdk_38_m_25_11 : decode jdk_38_method_25_code 11 = .ok (.aload_n 1, 1) := by decide +kernel
theorem d_jdk_38_m_25_12 : decode jdk_38_method_25_code 12 = .ok (.aload_n 0, 1) := by decide +kernel
theorem d_jdk_38_m_25_13 : decode jdk_38_method_25_code 13 = .ok (.getfield 9, 3) := by decide +kernel
theorem d_jdk_38_m_25_16 : decode jdk_38_method_25_code 16 = .ok (.aload_n 0, 1) := by decide +kernel
theorem d_jdk_38_m_25_17 : decode jdk_38_method_25_code 17 = .ok (.getfield 48, 3) := by decide +kernel
theorem d_jdk_38_m_25_20 : decode jdk_38_method_25_code 20 = .ok (.invokevirtual 131, 3) := by decide +kernel
theorem own_pd4 : parseMethodDescriptor "(Ljava/lang/Object;[Ljava/lang/Object;I)V" = some ⟨[(.object "java/lang/Object"), (.array (.object "java/lang/Object")), .int], none⟩ := by decide +kernel
theorem d_jdk_38_m_25_23 : decode jdk_38_method_25_code 23 = .ok (.iconst 1, 1) := by decide +kernel
theorem d_jdk_38_m_25_24 : decode jdk_38_method_25_code 24 = .ok (.ireturn, 1) := by decide +kernel
theorem ef_rmA0 (m : MethodId) (y0 : Addr) : entryFrame m #[(.ref y0), .null] 2 = mkF m 0 #[.val (.ref y0), .val .null] [] := by first | (simp [entryFrame, mkF, argsToLocals, Value.category]; done) | rfl
def Q_rmA0 (Z : State) (a : Addr) (mc : Int32) (de : Addr) (kd : ClassId) (h0 : Heap) (n0 : Nat) (v : Option Value) (h : Heap) (L : List Loc) : Prop := ∃ (ea : Addr) (kq : ClassId), v = some (.int (1 : Int32)) ∧ Fr n0 L ∧ Keep h0 h [a] ∧ h0.size ≤ ea ∧ n0 ≤ ea ∧ a ≠ ea ∧ Exa Z h a "java/util/ArrayList" ∧ Fld Z h a "java/util/AbstractList" "modCount" "I" (.int (mc + (1 : Int32))) ∧ Fld Z h a "java/util/ArrayList" "elementData" "[Ljava/lang/Object;" (.ref ea) ∧ Fld Z h a "java/util/ArrayList" "size" "I" (.int (1 : Int32)) ∧ Arv Z h ea kq (.object "java/lang/Object") (10 : Int32) [.null, .null] .null
set_option maxRecDepth 65536 in
set_option maxHeartbeats 40000000 in
theorem rmA0 (l : Launch) (Z : State) (a0 : Array Value) (hw : ∀ d ∈ tables_1, d.before a0 Z = true) (ws : List Jvm.Cond) (a : Addr) (mc : Int32) (de : Addr) (kd : ClassId) (h0 : Heap) (n0 : Nat) (Z0 : n0 ≤ h0.size) (O : Old Z n0 h0) (S : Sta Z Z.heap "java/util/ArrayList" "DEFAULTCAPACITY_EMPTY_ELEMENTDATA" "[Ljava/lang/Object;" (.ref de)) (AD : Arv Z Z.heap de kd (.object "java/lang/Object") (0 : Int32) [] .null) (E : Exa Z h0 a "java/util/ArrayList") (F1 : Fld Z h0 a "java/util/AbstractList" "modCount" "I" (.int mc)) (F2 : Fld Z h0 a "java/util/ArrayList" "elementData" "[Ljava/lang/Object;" (.ref de)) (F3 : Fld Z h0 a "java/util/ArrayList" "size" "I" (.int (0 : Int32))) (G : n0 ≤ a) :
    MetFree l (⟨"java/util/ArrayList", "add", "(Ljava/lang/Object;)Z"⟩ : MethodName) (head1 (Jvm.Cond.code (⟨"java/util/ArrayList", "add", "(Ljava/lang/Object;)Z"⟩ : MethodName) jdk_38_method_25_code 2 (some .boolean) :: ws) ({ frames := 4, cells := 1, slots := 10, locals := 56 } : Room)) (fun ar U => ar = #[(.ref a), .null] ∧ Z.Warmed39 U.vm ∧ U.heap = h0) (fun _ _ _ _ _ => True) (fun _ U o U' => ∃ v L, o = .returned v ∧ Q_rmA0 Z a mc de kd h0 n0 v U'.heap L ∧ FrameEnd U o U' L ({ frames := 4, cells := 1, slots := 10, locals := 56 } : Room).cells ({ frames := 4, cells := 1, slots := 10, locals := 56 } : Room).slots) := by
  refine MetFree.of_bodySF (plainFor_of_name own_pn3) hisR ?_
  intro p e s m args below meth c s₁ Bd hml0 hP hK
  obtain ⟨rfl, hZ, hh⟩ := hP
  have hx := Bd.exec
  have hby := Bd.bytes
  have hlk : meth.locks = false := BodyLoose.notSynchronized Bd
  have hml : c.maxLocals = 2 := hml0
  have hown : s.vm.findClass "java/util/ArrayList" = some m.cls := findClass_of_methodNamed Bd.named
  have hnm := (name_of_methodNamed Bd.named Bd.method).1
  have X0 : Stand p l e ({ frames := 4, cells := 1, slots := 10, locals := 56 } : Room) s m #[(.ref a), .null] below meth c s₁ [] 0 0 := Stand.of_body Bd
  have e0 : s₁.heap = h0 := by rw [← hh, Bd.state]; rfl
  have N0 := Fr.nil n0
  show own_Go p.tables e below (fun u o => ∃ v L, o = .returned v ∧ Q_rmA0 Z a mc de kd h0 n0 v u.heap L ∧ FrameEnd s o u L ({ frames := 4, cells := 1, slots := 10, locals := 56 } : Room).cells ({ frames := 4, cells := 1, slots := 10, locals := 56 } : Room).slots) (s₁.setTop (entryFrame m #[(.ref a), .null] 2))
  refine own_up (fun _ k => castTop (ef_rmA0 m a) k) ?_
  show own_Go p.tables e below _ (s₁.setTop (mkF m 0 #[.val (.ref a), .val .null] []))
  refine own_up (fun _ k => XS.aloadN X0.here hx rfl (hb hby d_jdk_38_m_25_0) rfl rfl k) ?_
  show own_Go p.tables e below _ (s₁.setTop (mkF m 1 #[.val (.ref a), .val .null] [(.ref a)]))
  refine own_up (fun _ k => XS.dup X0.here hx rfl (hb hby d_jdk_38_m_25_1) rfl rfl k) ?_
  show own_Go p.tables e below _ (s₁.setTop (mkF m 2 #[.val (.ref a), .val .null] [(.ref a), (.ref a)]))
  obtain ⟨T1, X1, e1, st1⟩ := getF X0 hx hZ hown (host := "") (Or.inl (hw _ (List.mem_of_getElem? (i := 74) rfl))) (Via.of (hw _ (List.mem_of_getElem? (i := 75) rfl))) e0 F1 (g := (mkF m 2 #[.val (.ref a), .val .null] [(.ref a), (.ref a)])) rfl rfl (hb hby d_jdk_38_m_25_2)
  refine own_up st1 ?_
  show own_Go p.tables e below _ (T1.setTop (mkF m 5 #[.val (.ref a), .val .null] [(.int mc), (.ref a)]))
  refine own_up (fun _ k => XS.iconst X1.here hx rfl (hb hby d_jdk_38_m_25_5) k) ?_
  show own_Go p.tables e below _ (T1.setTop (mkF m 6 #[.val (.ref a), .val .null] [(.int (1 : Int32)), (.int mc), (.ref a)]))
  refine own_up (fun _ k => XS.iadd X1.here hx rfl (hb hby d_jdk_38_m_25_6) rfl k) ?_
  show own_Go p.tables e below _ (T1.setTop (mkF m 7 #[.val (.ref a), .val .null] [(.int (mc + (1 : Int32))), (.ref a)]))
  obtain ⟨T2, h2, X2, e2, W2, st2⟩ := putF X1 hx hZ hown (host := "") (Or.inl (hw _ (List.mem_of_getElem? (i := 74) rfl))) (Via.of (hw _ (List.mem_of_getElem? (i := 75) rfl))) e1 F1 E (Or.inl (hw _ (List.mem_of_getElem? (i := 30) rfl))) (hw _ (List.mem_of_getElem? (i := 11) rfl)) (ty := .int) (by decide) rfl rfl (g := (mkF m 7 #[.val (.ref a), .val .null] [(.int (mc + (1 : Int32))), (.ref a)])) rfl rfl (hb hby d_jdk_38_m_25_7)
  have Fw2 := F1.same W2
  have N2 := Fr.snoc X2 N0 G
  refine own_up st2 ?_
  show own_Go p.tables e below _ (T2.setTop (mkF m 10 #[.val (.ref a), .val .null] []))
  refine own_up (fun _ k => XS.aloadN X2.here hx rfl (hb hby d_jdk_38_m_25_10) rfl rfl k) ?_
  show own_Go p.tables e below _ (T2.setTop (mkF m 11 #[.val (.ref a), .val .null] [(.ref a)]))
  refine own_up (fun _ k => XS.aloadN X2.here hx rfl (hb hby d_jdk_38_m_25_11) rfl rfl k) ?_
  show own_Go p.tables e below _ (T2.setTop (mkF m 12 #[.val (.ref a), .val .null] [.null, (.ref a)]))
  refine own_up (fun _ k => XS.aloadN X2.here hx rfl (hb hby d_jdk_38_m_25_12) rfl rfl k) ?_
  show own_Go p.tables e below _ (T2.setTop (mkF m 13 #[.val (.ref a), .val .null] [(.ref a), .null, (.ref a)]))
  have f3 : Fld Z h2 a "java/util/ArrayList" "elementData" "[Ljava/lang/Object;" (.ref de) := (F2.other W2 (Or.inr (slot_ne (Or.inl (hw _ (List.mem_of_getElem? (i := 33) rfl))) (Or.inl (hw _ (List.mem_of_getElem? (i := 30) rfl))) (by decide) (t := (.array (.object "java/lang/Object"))) (t' := .int) (by decide) (by decide))))
  obtain ⟨T4, X4, e4, st4⟩ := getF X2 hx hZ hown (host := "") (Or.inl (hw _ (List.mem_of_getElem? (i := 32) rfl))) Via.refl e2 f3 (g := (mkF m 13 #[.val (.ref a), .val .null] [(.ref a), .null, (.ref a)])) rfl rfl (hb hby d_jdk_38_m_25_13)
  refine own_up st4 ?_
  show own_Go p.tables e below _ (T4.setTop (mkF m 16 #[.val (.ref a), .val .null] [(.ref de), .null, (.ref a)]))
  refine own_up (fun _ k => XS.aloadN X4.here hx rfl (hb hby d_jdk_38_m_25_16) rfl rfl k) ?_
  show own_Go p.tables e below _ (T4.setTop (mkF m 17 #[.val (.ref a), .val .null] [(.ref a), (.ref de), .null, (.ref a)]))
  have f5 : Fld Z h2 a "java/util/ArrayList" "size" "I" (.int (0 : Int32)) := (F3.other W2 (Or.inr (slot_ne (Or.inl (hw _ (List.mem_of_getElem? (i := 77) rfl))) (Or.inl (hw _ (List.mem_of_getElem? (i := 30) rfl))) (by decide) (t := .int) (t' := .int) (by decide) (by decide))))
  obtain ⟨T6, X6, e6, st6⟩ := getF X4 hx hZ hown (host := "") (Or.inl (hw _ (List.mem_of_getElem? (i := 76) rfl))) Via.refl e4 f5 (g := (mkF m 17 #[.val (.ref a), .val .null] [(.ref a), (.ref de), .null, (.ref a)])) rfl rfl (hb hby d_jdk_38_m_25_17)
  refine own_up st6 ?_
  show own_Go p.tables e below _ (T6.setTop (mkF m 20 #[.val (.ref a), .val .null] [(.int (0 : Int32)), (.ref de), .null, (.ref a)]))
  have f8 : Old Z n0 h2 := (O.wr W2 G)
  have f9 : Exa Z h2 a "java/util/ArrayList" := (E.wr W2)
  have f10 : n0 ≤ h2.size := (Nat.le_trans Z0 (Nat.le_of_eq (Wr.size W2).symm))
  obtain ⟨cq7, q7, q7'⟩ := (f9).cell
  obtain ⟨_, _, ⟨T7, L7, k7, n7⟩, -, X7, ⟨Lc7, hQ7, l7, y7, z7⟩, st7⟩ := X6.privateBack hx (y := (⟨"java/util/ArrayList", "add", "(Ljava/lang/Object;[Ljava/lang/Object;I)V"⟩ : MethodName)) hown (mvT hZ (hw _ (List.mem_of_getElem? (i := 78) rfl))) (mvT hZ (hw _ (List.mem_of_getElem? (i := 79) rfl))) (mvT hZ (hw _ (List.mem_of_getElem? (i := 81) rfl))) (Cond.privateMethod_at (mvP hZ (hw _ (List.mem_of_getElem? (i := 80) rfl)) (args := #[]))) (mvT hZ (hw _ (List.mem_of_getElem? (i := 82) rfl))) (by decide) (backOf (W := 0) (rmH0 l Z a0 hw [] a (mc + (1 : Int32)) de kd h2 n0 f10 f8 S AD f9 Fw2 f3 f5 G) hZ (hw _ (List.mem_of_getElem? (i := 82) rfl)) (hw _ (List.mem_of_getElem? (i := 12) rfl)) (by decide) (by decide)) (g := (mkF m 20 #[.val (.ref a), .val .null] [(.int (0 : Int32)), (.ref de), .null, (.ref a)])) rfl (by rw [hml]; rfl) (Steps.refl _) (a := a) (by rw [e6]; exact q7) q7' (argsL := [.null, (.ref de), (.int (0 : Int32))]) (rest := []) (lenOf own_pd4 rfl) rfl (by show 2 * 0 + _ ≤ _; exact Nat.le_of_eq rfl) (hb hby d_jdk_38_m_25_20) (fun _ _ => ⟨rfl, e6, (by decide : 0 + 1 ≤ _), (by decide : 0 + 10 ≤ _)⟩)
  dsimp only [Pt.U, Pt.locs, Pt.cells, Pt.slots] at X7 l7 y7 z7 st7 hQ7
  subst l7 y7 z7
  have f11 : h0.size ≤ h2.size := (Nat.le_trans (Nat.le_refl _) (Nat.le_of_eq (Wr.size W2).symm))
  obtain ⟨ea_7, kq_7, rfl, N7q, K7, P7_0, P7_1, P7_2, P7_3, P7_4, P7_5, P7_6, P7_7⟩ := hQ7
  have N7 := Fr.app N2 N7q
  refine own_up (fun _ k => st7.trans k) ?_
  have nl7_0_0 : a ≠ ea_7 := Nat.ne_of_lt (Nat.lt_of_lt_of_le f9.lt P7_0)
  have sl7_0 : h0.size ≤ ea_7 := Nat.le_trans f11 P7_0
  show own_Go p.tables e below _ (T7.setTop (mkF m 23 #[.val (.ref a), .val .null] []))
  refine own_up (fun _ k => XS.iconst X7.here hx rfl (hb hby d_jdk_38_m_25_23) k) ?_
  show own_Go p.tables e below _ (T7.setTop (mkF m 24 #[.val (.ref a), .val .null] [(.int (1 : Int32))]))
  exact own_end X7 hlk (v := some (.int (1 : Int32))) (fun h => by rw [Bd.returns] at h; cases h) (fun fs hr => retN X7 hx (z := (1 : Int32)) (t := .boolean) Bd.returns (by simp) (hb hby d_jdk_38_m_25_24) hr) rfl ⟨ea_7, kq_7, rfl, N7, (((Keep.refl h0 [a]).wr W2 (Or.inl (List.mem_of_getElem? (i := 0) rfl))).trans K7 (allS (Or.inl (List.mem_of_getElem? (i := 0) rfl)) all0)), sl7_0, P7_1, P7_2, P7_3, P7_4, P7_5, P7_6, P7_7⟩ (by decide) (by decide)
theorem ef_rmA1 (m : MethodId) (y0 : Addr) : entryFrame m #[(.ref y0), .null] 2 = mkF m 0 #[.val (.ref y0), .val .null] [] := by first | (simp [entryFrame, mkF, argsToLocals, Value.category]; done) | rfl
def Q_rmA1 (Z : State) (a : Addr) (mc : Int32) (ea : Addr) (kq : ClassId) (h0 : Heap) (n0 : Nat) (v : Option Value) (h : Heap) (L : List Loc) : Prop := v = some (.int (1 : Int32)) ∧ Fr n0 L ∧ Keep h0 h [a, ea] ∧ Exa Z h a "java/util/ArrayList" ∧ Fld Z h a "java/util/ArrayList" "size" "I" (.int (2 : Int32))
set_option maxRecDepth 65536 in
set_option maxHeartbeats 40000000 in
theorem rmA1 (l : Launch) (Z : State) (a0 : Array Value) (hw : ∀ d ∈ tables_1, d.before a0 Z = true) (ws : List Jvm.Cond) (a : Addr) (mc : Int32) (ea : Addr) (kq : ClassId) (h0 : Heap) (n0 : Nat) (Z0 : n0 ≤ h0.size) (E : Exa Z h0 a "java/util/ArrayList") (F1 : Fld Z h0 a "java/util/AbstractList" "modCount" "I" (.int mc)) (F2 : Fld Z h0 a "java/util/ArrayList" "elementData" "[Ljava/lang/Object;" (.ref ea)) (F3 : Fld Z h0 a "java/util/ArrayList" "size" "I" (.int (1 : Int32))) (G : n0 ≤ a) (G2 : n0 ≤ ea) (Nae : a ≠ ea) (V : Arv Z h0 ea kq (.object "java/lang/Object") (10 : Int32) [.null, .null] .null) :
    MetFree l (⟨"java/util/ArrayList", "add", "(Ljava/lang/Object;)Z"⟩ : MethodName) (head1 (Jvm.Cond.code (⟨"java/util/ArrayList", "add", "(Ljava/lang/Object;)Z"⟩ : MethodName) jdk_38_method_25_code 2 (some .boolean) :: ws) ({ frames := 1, cells := 0, slots := 0, locals := 15 } : Room)) (fun ar U => ar = #[(.ref a), .null] ∧ Z.Warmed39 U.vm ∧ U.heap = h0) (fun _ _ _ _ _ => True) (fun _ U o U' => ∃ v L, o = .returned v ∧ Q_rmA1 Z a mc ea kq h0 n0 v U'.heap L ∧ FrameEnd U o U' L ({ frames := 1, cells := 0, slots := 0, locals := 15 } : Room).cells ({ frames := 1, cells := 0, slots := 0, locals := 15 } : Room).slots) := by
  refine MetFree.of_bodySF (plainFor_of_name own_pn3) hisR ?_
  intro p e s m args below meth c s₁ Bd hml0 hP hK
  obtain ⟨rfl, hZ, hh⟩ := hP
  have hx := Bd.exec
  have hby := Bd.bytes
  have hlk : meth.locks = false := BodyLoose.notSynchronized Bd
  have hml : c.maxLocals = 2 := hml0
  have hown : s.vm.findClass "java/util/ArrayList" = some m.cls := findClass_of_methodNamed Bd.named
  have hnm := (name_of_methodNamed Bd.named Bd.method).1
  have X0 : Stand p l e ({ frames := 1, cells := 0, slots := 0, locals := 15 } : Room) s m #[(.ref a), .null] below meth c s₁ [] 0 0 := Stand.of_body Bd
  have e0 : s₁.heap = h0 := by rw [← hh, Bd.state]; rfl
  have N0 := Fr.nil n0
  show own_Go p.tables e below (fun u o => ∃ v L, o = .returned v ∧ Q_rmA1 Z a mc ea kq h0 n0 v u.heap L ∧ FrameEnd s o u L ({ frames := 1, cells := 0, slots := 0, locals := 15 } : Room).cells ({ frames := 1, cells := 0, slots := 0, locals := 15 } : Room).slots) (s₁.setTop (entryFrame m #[(.ref a), .null] 2))
  refine own_up (fun _ k => castTop (ef_rmA1 m a) k) ?_
  show own_Go p.tables e below _ (s₁.setTop (mkF m 0 #[.val (.ref a), .val .null] []))
  refine own_up (fun _ k => XS.aloadN X0.here hx rfl (hb hby d_jdk_38_m_25_0) rfl rfl k) ?_
  show own_Go p.tables e below _ (s₁.setTop (mkF m 1 #[.val (.ref a), .val .null] [(.ref a)]))
  refine own_up (fun _ k => XS.dup X0.here hx rfl (hb hby d_jdk_38_m_25_1) rfl rfl k) ?_
  show own_Go p.tables e below _ (s₁.setTop (mkF m 2 #[.val (.ref a), .val .null] [(.ref a), (.ref a)]))
  obtain ⟨T1, X1, e1, st1⟩ := getF X0 hx hZ hown (host := "") (Or.inl (hw _ (List.mem_of_getElem? (i := 74) rfl))) (Via.of (hw _ (List.mem_of_getElem? (i := 75) rfl))) e0 F1 (g := (mkF m 2 #[.val (.ref a), .val .null] [(.ref a), (.ref a)])) rfl rfl (hb hby d_jdk_38_m_25_2)
  refine own_up st1 ?_
  show own_Go p.tables e below _ (T1.setTop (mkF m 5 #[.val (.ref a), .val .null] [(.int mc), (.ref a)]))
  refine own_up (fun _ k => XS.iconst X1.here hx rfl (hb hby d_jdk_38_m_25_5) k) ?_
  show own_Go p.tables e below _ (T1.setTop (mkF m 6 #[.val (.ref a), .val .null] [(.int (1 : Int32)), (.int mc), (.ref a)]))
  refine own_up (fun _ k => XS.iadd X1.here hx rfl (hb hby d_jdk_38_m_25_6) rfl k) ?_
  show own_Go p.tables e below _ (T1.setTop (mkF m 7 #[.val (.ref a), .val .null] [(.int (mc + (1 : Int32))), (.ref a)]))
  obtain ⟨T2, h2, X2, e2, W2, st2⟩ := putF X1 hx hZ hown (host := "") (Or.inl (hw _ (List.mem_of_getElem? (i := 74) rfl))) (Via.of (hw _ (List.mem_of_getElem? (i := 75) rfl))) e1 F1 E (Or.inl (hw _ (List.mem_of_getElem? (i := 30) rfl))) (hw _ (List.mem_of_getElem? (i := 11) rfl)) (ty := .int) (by decide) rfl rfl (g := (mkF m 7 #[.val (.ref a), .val .null] [(.int (mc + (1 : Int32))), (.ref a)])) rfl rfl (hb hby d_jdk_38_m_25_7)
  have Fw2 := F1.same W2
  have N2 := Fr.snoc X2 N0 G
  refine own_up st2 ?_
  show own_Go p.tables e below _ (T2.setTop (mkF m 10 #[.val (.ref a), .val .null] []))
  refine own_up (fun _ k => XS.aloadN X2.here hx rfl (hb hby d_jdk_38_m_25_10) rfl rfl k) ?_
  show own_Go p.tables e below _ (T2.setTop (mkF m 11 #[.val (.ref a), .val .null] [(.ref a)]))
  refine own_up (fun _ k => XS.aloadN X2.here hx rfl (hb hby d_jdk_38_m_25_11) rfl rfl k) ?_
  show own_Go p.tables e below _ (T2.setTop (mkF m 12 #[.val (.ref a), .val .null] [.null, (.ref a)]))
  refine own_up (fun _ k => XS.aloadN X2.here hx rfl (hb hby d_jdk_38_m_25_12) rfl rfl k) ?_
  show own_Go p.tables e below _ (T2.setTop (mkF m 13 #[.val (.ref a), .val .null] [(.ref a), .null, (.ref a)]))
  have f3 : Fld Z h2 a "java/util/ArrayList" "elementData" "[Ljava/lang/Object;" (.ref ea) := (F2.other W2 (Or.inr (slot_ne (Or.inl (hw _ (List.mem_of_getElem? (i := 33) rfl))) (Or.inl (hw _ (List.mem_of_getElem? (i := 30) rfl))) (by decide) (t := (.array (.object "java/lang/Object"))) (t' := .int) (by decide) (by decide))))
  obtain ⟨T4, X4, e4, st4⟩ := getF X2 hx hZ hown (host := "") (Or.inl (hw _ (List.mem_of_getElem? (i := 32) rfl))) Via.refl e2 f3 (g := (mkF m 13 #[.val (.ref a), .val .null] [(.ref a), .null, (.ref a)])) rfl rfl (hb hby d_jdk_38_m_25_13)
  refine own_up st4 ?_
  show own_Go p.tables e below _ (T4.setTop (mkF m 16 #[.val (.ref a), .val .null] [(.ref ea), .null, (.ref a)]))
  refine own_up (fun _ k => XS.aloadN X4.here hx rfl (hb hby d_jdk_38_m_25_16) rfl rfl k) ?_
  show own_Go p.tables e below _ (T4.setTop (mkF m 17 #[.val (.ref a), .val .null] [(.ref a), (.ref ea), .null, (.ref a)]))
  have f5 : Fld Z h2 a "java/util/ArrayList" "size" "I" (.int (1 : Int32)) := (F3.other W2 (Or.inr (slot_ne (Or.inl (hw _ (List.mem_of_getElem? (i := 77) rfl))) (Or.inl (hw _ (List.mem_of_getElem? (i := 30) rfl))) (by decide) (t := .int) (t' := .int) (by decide) (by decide))))
  obtain ⟨T6, X6, e6, st6⟩ := getF X4 hx hZ hown (host := "") (Or.inl (hw _ (List.mem_of_getElem? (i := 76) rfl))) Via.refl e4 f5 (g := (mkF m 17 #[.val (.ref a), .val .null] [(.ref a), (.ref ea), .null, (.ref a)])) rfl rfl (hb hby d_jdk_38_m_25_17)
  refine own_up st6 ?_
  show own_Go p.tables e below _ (T6.setTop (mkF m 20 #[.val (.ref a), .val .null] [(.int (1 : Int32)), (.ref ea), .null, (.ref a)]))
  have f8 : Exa Z h2 a "java/util/ArrayList" := (E.wr W2)
  have f9 : Arv Z h2 ea kq (.object "java/lang/Object") (10 : Int32) [.null, .null] .null := (V.other W2 (Ne.symm Nae))
  have f10 : n0 ≤ h2.size := (Nat.le_trans Z0 (Nat.le_of_eq (Wr.size W2).symm))
  obtain ⟨cq7, q7, q7'⟩ := (f8).cell
  obtain ⟨_, _, ⟨T7, L7, k7, n7⟩, -, X7, ⟨Lc7, hQ7, l7, y7, z7⟩, st7⟩ := X6.privateBack hx (y := (⟨"java/util/ArrayList", "add", "(Ljava/lang/Object;[Ljava/lang/Object;I)V"⟩ : MethodName)) hown (mvT hZ (hw _ (List.mem_of_getElem? (i := 78) rfl))) (mvT hZ (hw _ (List.mem_of_getElem? (i := 79) rfl))) (mvT hZ (hw _ (List.mem_of_getElem? (i := 81) rfl))) (Cond.privateMethod_at (mvP hZ (hw _ (List.mem_of_getElem? (i := 80) rfl)) (args := #[]))) (mvT hZ (hw _ (List.mem_of_getElem? (i := 82) rfl))) (by decide) (backOf (W := 0) (rmH1 l Z a0 hw [] a (mc + (1 : Int32)) ea kq h2 n0 f10 f8 Fw2 f3 f5 G G2 Nae f9) hZ (hw _ (List.mem_of_getElem? (i := 82) rfl)) (hw _ (List.mem_of_getElem? (i := 12) rfl)) (by decide) (by decide)) (g := (mkF m 20 #[.val (.ref a), .val .null] [(.int (1 : Int32)), (.ref ea), .null, (.ref a)])) rfl (by rw [hml]; rfl) (Steps.refl _) (a := a) (by rw [e6]; exact q7) q7' (argsL := [.null, (.ref ea), (.int (1 : Int32))]) (rest := []) (lenOf own_pd4 rfl) rfl (by show 2 * 0 + _ ≤ _; exact Nat.le_of_eq rfl) (hb hby d_jdk_38_m_25_20) (fun _ _ => ⟨rfl, e6, (by decide : 0 + 0 ≤ _), (by decide : 0 + 0 ≤ _)⟩)
  dsimp only [Pt.U, Pt.locs, Pt.cells, Pt.slots] at X7 l7 y7 z7 st7 hQ7
  subst l7 y7 z7
  have f11 : h0.size ≤ h2.size := (Nat.le_trans (Nat.le_refl _) (Nat.le_of_eq (Wr.size W2).symm))
  obtain ⟨rfl, N7q, K7, P7_0, P7_1, P7_2, P7_3⟩ := hQ7
  have N7 := Fr.app N2 N7q
  refine own_up (fun _ k => st7.trans k) ?_
  show own_Go p.tables e below _ (T7.setTop (mkF m 23 #[.val (.ref a), .val .null] []))
  refine own_up (fun _ k => XS.iconst X7.here hx rfl (hb hby d_jdk_38_m_25_23) k) ?_
  show own_Go p.tables e below _ (T7.setTop (mkF m 24 #[.val (.ref a), .val .null] [(.int (1 : Int32))]))
  exact own_end X7 hlk (v := some (.int (1 : Int32))) (fun h => by rw [Bd.returns] at h; cases h) (fun fs hr => retN X7 hx (z := (1 : Int32)) (t := .boolean) Bd.returns (by simp) (hb hby d_jdk_38_m_25_24) hr) rfl ⟨rfl, N7, (((Keep.refl h0 [a, ea]).wr W2 (Or.inl (List.mem_of_getElem? (i := 0) rfl))).trans K7 (allS (Or.inl (List.mem_of_getElem? (i := 0) rfl)) (allS (Or.inl (List.mem_of_getElem? (i := 1) rfl)) all0))), P7_0, P7_3⟩ (by decide) (by decide)
theorem d_jdk_38_m_8_0 : decode jdk_38_method_8_code 0 = .ok (.aload_n 0, 1) := by decide +kernel
theorem d_jdk_38_m_8_1 : decode jdk_38_method_8_code 1 = .ok (.getfield 48, 3) := by decide +kernel
theorem d_jdk_38_m_8_4 : decode jdk_38_method_8_code 4 = .ok (.ireturn, 1) := by decide +kernel
theorem ef_rmSz (m : MethodId) (y0 : Addr) : entryFrame m #[(.ref y0)] 1 = mkF m 0 #[.val (.ref y0)] [] := by first | (simp [entryFrame, mkF, argsToLocals, Value.category]; done) | rfl
def Q_rmSz (Z : State) (a : Addr) (zs : Int32) (h0 : Heap) (n0 : Nat) (v : Option Value) (h : Heap) (L : List Loc) : Prop := v = some (.int zs) ∧ Fr n0 L ∧ h = h0
set_option maxRecDepth 65536 in
set_option maxHeartbeats 40000000 in
theorem rmSz (l : Launch) (Z : State) (a0 : Array Value) (hw : ∀ d ∈ tables_1, d.before a0 Z = true) (ws : List Jvm.Cond) (a : Addr) (zs : Int32) (h0 : Heap) (n0 : Nat) (Z0 : n0 ≤ h0.size) (F : Fld Z h0 a "java/util/ArrayList" "size" "I" (.int zs)) :
    MetFree l (⟨"java/util/ArrayList", "size", "()I"⟩ : MethodName) (head1 (Jvm.Cond.code (⟨"java/util/ArrayList", "size", "()I"⟩ : MethodName) jdk_38_method_8_code 1 (some .int) :: ws) ({ frames := 0, cells := 0, slots := 0, locals := 0 } : Room)) (fun ar U => ar = #[(.ref a)] ∧ Z.Warmed39 U.vm ∧ U.heap = h0) (fun _ _ _ _ _ => True) (fun _ U o U' => ∃ v L, o = .returned v ∧ Q_rmSz Z a zs h0 n0 v U'.heap L ∧ FrameEnd U o U' L ({ frames := 0, cells := 0, slots := 0, locals := 0 } : Room).cells ({ frames := 0, cells := 0, slots := 0, locals := 0 } : Room).slots) := by
  refine MetFree.of_bodySF (plainFor_of_name own_pn3) hisR ?_
  intro p e s m args below meth c s₁ Bd hml0 hP hK
  obtain ⟨rfl, hZ, hh⟩ := hP
  have hx := Bd.exec
  have hby := Bd.bytes
  have hlk : meth.locks = false := BodyLoose.notSynchronized Bd
  have hml : c.maxLocals = 1 := hml0
  have hown : s.vm.findClass "java/util/ArrayList" = some m.cls := findClass_of_methodNamed Bd.named
  have hnm := (name_of_methodNamed Bd.named Bd.method).1
  have X0 : Stand p l e ({ frames := 0, cells := 0, slots := 0, locals := 0 } : Room) s m #[(.ref a)] below meth c s₁ [] 0 0 := Stand.of_body Bd
  have e0 : s₁.heap = h0 := by rw [← hh, Bd.state]; rfl
  have N0 := Fr.nil n0
  show own_Go p.tables e below (fun u o => ∃ v L, o = .returned v ∧ Q_rmSz Z a zs h0 n0 v u.heap L ∧ FrameEnd s o u L ({ frames := 0, cells := 0, slots := 0, locals := 0 } : Room).cells ({ frames := 0, cells := 0, slots := 0, locals := 0 } : Room).slots) (s₁.setTop (entryFrame m #[(.ref a)] 1))
  refine own_up (fun _ k => castTop (ef_rmSz m a) k) ?_
  show own_Go p.tables e below _ (s₁.setTop (mkF m 0 #[.val (.ref a)] []))
  refine own_up (fun _ k => XS.aloadN X0.here hx rfl (hb hby d_jdk_38_m_8_0) rfl rfl k) ?_
  show own_Go p.tables e below _ (s₁.setTop (mkF m 1 #[.val (.ref a)] [(.ref a)]))
  obtain ⟨T1, X1, e1, st1⟩ := getF X0 hx hZ hown (host := "") (Or.inl (hw _ (List.mem_of_getElem? (i := 76) rfl))) Via.refl e0 F (g := (mkF m 1 #[.val (.ref a)] [(.ref a)])) rfl rfl (hb hby d_jdk_38_m_8_1)
  refine own_up st1 ?_
  show own_Go p.tables e below _ (T1.setTop (mkF m 4 #[.val (.ref a)] [(.int zs)]))
  exact own_end X1 hlk (v := some (.int zs)) (fun h => by rw [Bd.returns] at h; cases h) (fun fs hr => retOut X1 hx Bd.returns rfl (Or.inl ⟨rfl, Or.inl rfl, _, rfl⟩) (hb hby d_jdk_38_m_8_4) hr) e1 ⟨rfl, N0, rfl⟩ (by decide) (by decide)
theorem d_prog_14_m_2_0 : decode prog_14_method_2_code 0 = .ok (.aload_n 0, 1) := by decide +kernel
theorem d_prog_14_m_2_1 : decode prog_14_method_2_code 1 = .ok (.getfield 10, 3) := by decide +kernel
theorem d_prog_14_m_2_4 : decode prog_14_method_2_code 4 = .ok (.aconst_null, 1) := by decide +kernel
theorem d_prog_14_m_2_5 : decode prog_14_method_2_code 5 = .ok (.invokeinterface 33 2, 5) := by decide +kernel
theorem own_pd5 : parseMethodDescriptor "(Ljava/lang/Object;)Z" = some ⟨[(.object "java/lang/Object")], some .boolean⟩ := by decide +kernel
theorem d_prog_14_m_2_10 : decode prog_14_method_2_code 10 = .ok (.pop, 1) := by decide +kernel
theorem d_prog_14_m_2_11 : decode prog_14_method_2_code 11 = .ok (.aload_n 0, 1) := by decide +kernel
theorem d_prog_14_m_2_12 : decode prog_14_method_2_code 12 = .ok (.getfield 10, 3) := by decide +kernel
theorem d_prog_14_m_2_15 : decode prog_14_method_2_code 15 = .ok (.invokeinterface 39 1, 5) := by decide +kernel
theorem own_pd6 : parseMethodDescriptor "()I" = some ⟨[], some .int⟩ := by decide +kernel
theorem d_prog_14_m_2_20 : decode prog_14_method_2_code 20 = .ok (.iconst 1, 1) := by decide +kernel
theorem d_prog_14_m_2_21 : decode prog_14_method_2_code 21 = .ok (.isub, 1) := by decide +kernel
theorem d_prog_14_m_2_22 : decode prog_14_method_2_code 22 = .ok (.ireturn, 1) := by decide +kernel
theorem ef_rmV0 (m : MethodId) (y0 : Addr) : entryFrame m #[(.ref y0)] 1 = mkF m 0 #[.val (.ref y0)] [] := by first | (simp [entryFrame, mkF, argsToLocals, Value.category]; done) | rfl
def Q_rmV0 (Z : State) (cn : Addr) (al : Addr) (mc : Int32) (de : Addr) (kd : ClassId) (h0 : Heap) (n0 : Nat) (v : Option Value) (h : Heap) (L : List Loc) : Prop := ∃ (ea : Addr) (kq : ClassId), v = some (.int (0 : Int32)) ∧ Fr n0 L ∧ Keep h0 h [al] ∧ h0.size ≤ ea ∧ n0 ≤ ea ∧ al ≠ ea ∧ Exa Z h al "java/util/ArrayList" ∧ Fld Z h al "java/util/AbstractList" "modCount" "I" (.int (mc + (1 : Int32))) ∧ Fld Z h al "java/util/ArrayList" "elementData" "[Ljava/lang/Object;" (.ref ea) ∧ Fld Z h al "java/util/ArrayList" "size" "I" (.int (1 : Int32)) ∧ Arv Z h ea kq (.object "java/lang/Object") (10 : Int32) [.null, .null] .null
set_option maxRecDepth 65536 in
set_option maxHeartbeats 40000000 in
theorem rmV0 (l : Launch) (Z : State) (a0 : Array Value) (hw : ∀ d ∈ tables_1, d.before a0 Z = true) (ws : List Jvm.Cond) (cn : Addr) (al : Addr) (mc : Int32) (de : Addr) (kd : ClassId) (h0 : Heap) (n0 : Nat) (Z0 : n0 ≤ h0.size) (FC : Fld Z h0 cn "com/example/hintikka/hintikka/domain/ConstraintNetwork" "constants" "Ljava/util/List;" (.ref al)) (Nca : cn ≠ al) (O : Old Z n0 h0) (S : Sta Z Z.heap "java/util/ArrayList" "DEFAULTCAPACITY_EMPTY_ELEMENTDATA" "[Ljava/lang/Object;" (.ref de)) (AD : Arv Z Z.heap de kd (.object "java/lang/Object") (0 : Int32) [] .null) (E : Exa Z h0 al "java/util/ArrayList") (F1 : Fld Z h0 al "java/util/AbstractList" "modCount" "I" (.int mc)) (F2 : Fld Z h0 al "java/util/ArrayList" "elementData" "[Ljava/lang/Object;" (.ref de)) (F3 : Fld Z h0 al "java/util/ArrayList" "size" "I" (.int (0 : Int32))) (G : n0 ≤ al) :
    MetFree l (⟨"com/example/hintikka/hintikka/domain/ConstraintNetwork", "addVariable", "()I"⟩ : MethodName) (head1 (Jvm.Cond.code (⟨"com/example/hintikka/hintikka/domain/ConstraintNetwork", "addVariable", "()I"⟩ : MethodName) prog_14_method_2_code 1 (some .int) :: ws) ({ frames := 5, cells := 1, slots := 10, locals := 69 } : Room)) (fun ar U => ar = #[(.ref cn)] ∧ Z.Warmed39 U.vm ∧ U.heap = h0) (fun _ _ _ _ _ => True) (fun _ U o U' => ∃ v L, o = .returned v ∧ Q_rmV0 Z cn al mc de kd h0 n0 v U'.heap L ∧ FrameEnd U o U' L ({ frames := 5, cells := 1, slots := 10, locals := 69 } : Room).cells ({ frames := 5, cells := 1, slots := 10, locals := 69 } : Room).slots) := by
  refine MetFree.of_bodySF (plainFor_of_name own_pn5) hisR ?_
  intro p e s m args below meth c s₁ Bd hml0 hP hK
  obtain ⟨rfl, hZ, hh⟩ := hP
  have hx := Bd.exec
  have hby := Bd.bytes
  have hlk : meth.locks = false := BodyLoose.notSynchronized Bd
  have hml : c.maxLocals = 1 := hml0
  have hown : s.vm.findClass "com/example/hintikka/hintikka/domain/ConstraintNetwork" = some m.cls := findClass_of_methodNamed Bd.named
  have hnm := (name_of_methodNamed Bd.named Bd.method).1
  have X0 : Stand p l e ({ frames := 5, cells := 1, slots := 10, locals := 69 } : Room) s m #[(.ref cn)] below meth c s₁ [] 0 0 := Stand.of_body Bd
  have e0 : s₁.heap = h0 := by rw [← hh, Bd.state]; rfl
  have N0 := Fr.nil n0
  show own_Go p.tables e below (fun u o => ∃ v L, o = .returned v ∧ Q_rmV0 Z cn al mc de kd h0 n0 v u.heap L ∧ FrameEnd s o u L ({ frames := 5, cells := 1, slots := 10, locals := 69 } : Room).cells ({ frames := 5, cells := 1, slots := 10, locals := 69 } : Room).slots) (s₁.setTop (entryFrame m #[(.ref cn)] 1))
  refine own_up (fun _ k => castTop (ef_rmV0 m cn) k) ?_
  show own_Go p.tables e below _ (s₁.setTop (mkF m 0 #[.val (.ref cn)] []))
  refine own_up (fun _ k => XS.aloadN X0.here hx rfl (hb hby d_prog_14_m_2_0) rfl rfl k) ?_
  show own_Go p.tables e below _ (s₁.setTop (mkF m 1 #[.val (.ref cn)] [(.ref cn)]))
  obtain ⟨T1, X1, e1, st1⟩ := getF X0 hx hZ hown (host := "") (Or.inl (hw _ (List.mem_of_getElem? (i := 34) rfl))) Via.refl e0 FC (g := (mkF m 1 #[.val (.ref cn)] [(.ref cn)])) rfl rfl (hb hby d_prog_14_m_2_1)
  refine own_up st1 ?_
  show own_Go p.tables e below _ (T1.setTop (mkF m 4 #[.val (.ref cn)] [(.ref al)]))
  refine own_up (fun _ k => XS.aconstNull X1.here hx rfl (hb hby d_prog_14_m_2_4) k) ?_
  show own_Go p.tables e below _ (T1.setTop (mkF m 5 #[.val (.ref cn)] [.null, (.ref al)]))
  obtain ⟨cq2, kq2, q2a, q2b, q2c⟩ := isOf hZ e1 E
  obtain ⟨_, _, ⟨T2, L2, k2, n2⟩, -, X2, ⟨Lc2, hQ2, l2, y2, z2⟩, st2⟩ := X1.interfaceBack hx (xi := (⟨"java/util/List", "add", "(Ljava/lang/Object;)Z"⟩ : MethodName)) (y := (⟨"java/util/ArrayList", "add", "(Ljava/lang/Object;)Z"⟩ : MethodName)) hown (mvT hZ (hw _ (List.mem_of_getElem? (i := 65) rfl))) (mvT hZ (hw _ (List.mem_of_getElem? (i := 66) rfl))) (mvT hZ (hw _ (List.mem_of_getElem? (i := 67) rfl))) (mvT hZ (hw _ (List.mem_of_getElem? (i := 68) rfl))) (mvT hZ (hw _ (List.mem_of_getElem? (i := 69) rfl))) (mvT hZ (hw _ (List.mem_of_getElem? (i := 70) rfl))) (mvT hZ (hw _ (List.mem_of_getElem? (i := 71) rfl))) (mvT hZ (hw _ (List.mem_of_getElem? (i := 72) rfl))) (by decide) (backOf (W := 0) (rmA0 l Z a0 hw [] al mc de kd h0 n0 Z0 O S AD E F1 F2 F3 G) hZ (hw _ (List.mem_of_getElem? (i := 73) rfl)) (hw _ (List.mem_of_getElem? (i := 12) rfl)) (by decide) (by decide)) q2a q2b q2c (g := (mkF m 5 #[.val (.ref cn)] [.null, (.ref al)])) rfl (by rw [hml]; rfl) (Steps.refl _) (argsL := [.null]) (rest := []) (lenOf own_pd5 rfl) rfl (by show 2 * 0 + _ ≤ _; exact Nat.le_of_eq rfl) (hb hby d_prog_14_m_2_5) (fun _ _ => ⟨rfl, e1, (by decide : 0 + 1 ≤ _), (by decide : 0 + 10 ≤ _)⟩)
  dsimp only [Pt.U, Pt.locs, Pt.cells, Pt.slots] at X2 l2 y2 z2 st2 hQ2
  subst l2 y2 z2
  obtain ⟨ea_2, kq_2, rfl, N2q, K2, P2_0, P2_1, P2_2, P2_3, P2_4, P2_5, P2_6, P2_7⟩ := hQ2
  have N2 := Fr.app N0 N2q
  refine own_up (fun _ k => st2.trans k) ?_
  have nl2_0_0 : al ≠ ea_2 := Nat.ne_of_lt (Nat.lt_of_lt_of_le E.lt P2_0)
  have sl2_0 : h0.size ≤ ea_2 := Nat.le_trans (Nat.le_refl _) P2_0
  show own_Go p.tables e below _ (T2.setTop (mkF m 10 #[.val (.ref cn)] [(.int (1 : Int32))]))
  refine own_up (fun _ k => XS.pop X2.here hx rfl (hb hby d_prog_14_m_2_10) rfl rfl k) ?_
  show own_Go p.tables e below _ (T2.setTop (mkF m 11 #[.val (.ref cn)] []))
  refine own_up (fun _ k => XS.aloadN X2.here hx rfl (hb hby d_prog_14_m_2_11) rfl rfl k) ?_
  show own_Go p.tables e below _ (T2.setTop (mkF m 12 #[.val (.ref cn)] [(.ref cn)]))
  have f3 : Fld Z T2.heap cn "com/example/hintikka/hintikka/domain/ConstraintNetwork" "constants" "Ljava/util/List;" (.ref al) := (FC.keep K2 (ninS Nca nin0))
  obtain ⟨T4, X4, e4, st4⟩ := getF X2 hx hZ hown (host := "") (Or.inl (hw _ (List.mem_of_getElem? (i := 34) rfl))) Via.refl rfl f3 (g := (mkF m 12 #[.val (.ref cn)] [(.ref cn)])) rfl rfl (hb hby d_prog_14_m_2_12)
  refine own_up st4 ?_
  show own_Go p.tables e below _ (T4.setTop (mkF m 15 #[.val (.ref cn)] [(.ref al)]))
  have f6 : n0 ≤ T2.heap.size := (Nat.le_trans Z0 K2.1)
  obtain ⟨cq5, kq5, q5a, q5b, q5c⟩ := isOf hZ e4 P2_3
  obtain ⟨_, _, ⟨T5, L5, k5, n5⟩, -, X5, ⟨Lc5, hQ5, l5, y5, z5⟩, st5⟩ := X4.interfaceBack hx (xi := (⟨"java/util/List", "size", "()I"⟩ : MethodName)) (y := (⟨"java/util/ArrayList", "size", "()I"⟩ : MethodName)) hown (mvT hZ (hw _ (List.mem_of_getElem? (i := 99) rfl))) (mvT hZ (hw _ (List.mem_of_getElem? (i := 100) rfl))) (mvT hZ (hw _ (List.mem_of_getElem? (i := 101) rfl))) (mvT hZ (hw _ (List.mem_of_getElem? (i := 102) rfl))) (mvT hZ (hw _ (List.mem_of_getElem? (i := 103) rfl))) (mvT hZ (hw _ (List.mem_of_getElem? (i := 104) rfl))) (mvT hZ (hw _ (List.mem_of_getElem? (i := 105) rfl))) (mvT hZ (hw _ (List.mem_of_getElem? (i := 72) rfl))) (by decide) (backOf (W := 0) (rmSz l Z a0 hw [] al (1 : Int32) T2.heap n0 f6 P2_6) hZ (hw _ (List.mem_of_getElem? (i := 106) rfl)) (hw _ (List.mem_of_getElem? (i := 12) rfl)) (by decide) (by decide)) q5a q5b q5c (g := (mkF m 15 #[.val (.ref cn)] [(.ref al)])) rfl (by rw [hml]; rfl) (Steps.refl _) (argsL := []) (rest := []) (lenOf own_pd6 rfl) rfl (by show 2 * 0 + _ ≤ _; exact Nat.le_of_eq rfl) (hb hby d_prog_14_m_2_15) (fun _ _ => ⟨rfl, e4, (by decide : 1 + 0 ≤ _), (by decide : 10 + 0 ≤ _)⟩)
  dsimp only [Pt.U, Pt.locs, Pt.cells, Pt.slots] at X5 l5 y5 z5 st5 hQ5
  subst l5 y5 z5
  have f7 : h0.size ≤ T2.heap.size := (Nat.le_trans (Nat.le_refl _) K2.1)
  obtain ⟨rfl, N5q, eq5⟩ := hQ5
  have N5 := Fr.app N2 N5q
  refine own_up (fun _ k => st5.trans k) ?_
  show own_Go p.tables e below _ (T5.setTop (mkF m 20 #[.val (.ref cn)] [(.int (1 : Int32))]))
  refine own_up (fun _ k => XS.iconst X5.here hx rfl (hb hby d_prog_14_m_2_20) k) ?_
  show own_Go p.tables e below _ (T5.setTop (mkF m 21 #[.val (.ref cn)] [(.int (1 : Int32)), (.int (1 : Int32))]))
  refine own_up (fun _ k => XS.isub X5.here hx rfl (hb hby d_prog_14_m_2_21) rfl k) ?_
  show own_Go p.tables e below _ (T5.setTop (mkF m 22 #[.val (.ref cn)] [(.int (0 : Int32))]))
  exact own_end X5 hlk (v := some (.int (0 : Int32))) (fun h => by rw [Bd.returns] at h; cases h) (fun fs hr => retOut X5 hx Bd.returns rfl (Or.inl ⟨rfl, Or.inl rfl, _, rfl⟩) (hb hby d_prog_14_m_2_22) hr) eq5 ⟨ea_2, kq_2, rfl, N5, ((Keep.refl h0 [al]).trans K2 (allS (Or.inl (List.mem_of_getElem? (i := 0) rfl)) all0)), sl2_0, P2_1, P2_2, P2_3, P2_4, P2_5, P2_6, P2_7⟩ (by decide) (by decide)
theorem ef_rmV1 (m : MethodId) (y0 : Addr) : entryFrame m #[(.ref y0)] 1 = mkF m 0 #[.val (.ref y0)] [] := by first | (simp [entryFrame, mkF, argsToLocals, Value.category]; done) | rfl
def Q_rmV1 (Z : State) (cn : Addr) (al : Addr) (mc : Int32) (ea : Addr) (kq : ClassId) (h0 : Heap) (n0 : Nat) (v : Option Value) (h : Heap) (L : List Loc) : Prop := v = some (.int (1 : Int32)) ∧ Fr n0 L ∧ Keep h0 h [al, ea] ∧ Exa Z h al "java/util/ArrayList" ∧ Fld Z h al "java/util/ArrayList" "size" "I" (.int (2 : Int32))
set_option maxRecDepth 65536 in
set_option maxHeartbeats 40000000 in
theorem rmV1 (l : Launch) (Z : State) (a0 : Array Value) (hw : ∀ d ∈ tables_1, d.before a0 Z = true) (ws : List Jvm.Cond) (cn : Addr) (al : Addr) (mc : Int32) (ea : Addr) (kq : ClassId) (h0 : Heap) (n0 : Nat) (Z0 : n0 ≤ h0.size) (FC : Fld Z h0 cn "com/example/hintikka/hintikka/domain/ConstraintNetwork" "constants" "Ljava/util/List;" (.ref al)) (Nca : cn ≠ al) (E : Exa Z h0 al "java/util/ArrayList") (F1 : Fld Z h0 al "java/util/AbstractList" "modCount" "I" (.int mc)) (F2 : Fld Z h0 al "java/util/ArrayList" "elementData" "[Ljava/lang/Object;" (.ref ea)) (F3 : Fld Z h0 al "java/util/ArrayList" "size" "I" (.int (1 : Int32))) (G : n0 ≤ al) (G2 : n0 ≤ ea) (Nae : al ≠ ea) (V : Arv Z h0 ea kq (.object "java/lang/Object") (10 : Int32) [.null, .null] .null) (Nce : cn ≠ ea) :
    MetFree l (⟨"com/example/hintikka/hintikka/domain/ConstraintNetwork", "addVariable", "()I"⟩ : MethodName) (head1 (Jvm.Cond.code (⟨"com/example/hintikka/hintikka/domain/ConstraintNetwork", "addVariable", "()I"⟩ : MethodName) prog_14_method_2_code 1 (some .int) :: ws) ({ frames := 2, cells := 0, slots := 0, locals := 28 } : Room)) (fun ar U => ar = #[(.ref cn)] ∧ Z.Warmed39 U.vm ∧ U.heap = h0) (fun _ _ _ _ _ => True) (fun _ U o U' => ∃ v L, o = .returned v ∧ Q_rmV1 Z cn al mc ea kq h0 n0 v U'.heap L ∧ FrameEnd U o U' L ({ frames := 2, cells := 0, slots := 0, locals := 28 } : Room).cells ({ frames := 2, cells := 0, slots := 0, locals := 28 } : Room).slots) := by
  refine MetFree.of_bodySF (plainFor_of_name own_pn5) hisR ?_
  intro p e s m args below meth c s₁ Bd hml0 hP hK
  obtain ⟨rfl, hZ, hh⟩ := hP
  have hx := Bd.exec
  have hby := Bd.bytes
  have hlk : meth.locks = false := BodyLoose.notSynchronized Bd
  have hml : c.maxLocals = 1 := hml0
  have hown : s.vm.findClass "com/example/hintikka/hintikka/domain/ConstraintNetwork" = some m.cls := findClass_of_methodNamed Bd.named
  have hnm := (name_of_methodNamed Bd.named Bd.method).1
  have X0 : Stand p l e ({ frames := 2, cells := 0, slots := 0, locals := 28 } : Room) s m #[(.ref cn)] below meth c s₁ [] 0 0 := Stand.of_body Bd
  have e0 : s₁.heap = h0 := by rw [← hh, Bd.state]; rfl
  have N0 := Fr.nil n0
  show own_Go p.tables e below (fun u o => ∃ v L, o = .returned v ∧ Q_rmV1 Z cn al mc ea kq h0 n0 v u.heap L ∧ FrameEnd s o u L ({ frames := 2, cells := 0, slots := 0, locals := 28 } : Room).cells ({ frames := 2, cells := 0, slots := 0, locals := 28 } : Room).slots) (s₁.setTop (entryFrame m #[(.ref cn)] 1))
  refine own_up (fun _ k => castTop (ef_rmV1 m cn) k) ?_
  show own_Go p.tables e below _ (s₁.setTop (mkF m 0 #[.val (.ref cn)] []))
  refine own_up (fun _ k => XS.aloadN X0.here hx rfl (hb hby d_prog_14_m_2_0) rfl rfl k) ?_
  show own_Go p.tables e below _ (s₁.setTop (mkF m 1 #[.val (.ref cn)] [(.ref cn)]))
  obtain ⟨T1, X1, e1, st1⟩ := getF X0 hx hZ hown (host := "") (Or.inl (hw _ (List.mem_of_getElem? (i := 34) rfl))) Via.refl e0 FC (g := (mkF m 1 #[.val (.ref cn)] [(.ref cn)])) rfl rfl (hb hby d_prog_14_m_2_1)
  refine own_up st1 ?_
  show own_Go p.tables e below _ (T1.setTop (mkF m 4 #[.val (.ref cn)] [(.ref al)]))
  refine own_up (fun _ k => XS.aconstNull X1.here hx rfl (hb hby d_prog_14_m_2_4) k) ?_
  show own_Go p.tables e below _ (T1.setTop (mkF m 5 #[.val (.ref cn)] [.null, (.ref al)]))
  obtain ⟨cq2, kq2, q2a, q2b, q2c⟩ := isOf hZ e1 E
  obtain ⟨_, _, ⟨T2, L2, k2, n2⟩, -, X2, ⟨Lc2, hQ2, l2, y2, z2⟩, st2⟩ := X1.interfaceBack hx (xi := (⟨"java/util/List", "add", "(Ljava/lang/Object;)Z"⟩ : MethodName)) (y := (⟨"java/util/ArrayList", "add", "(Ljava/lang/Object;)Z"⟩ : MethodName)) hown (mvT hZ (hw _ (List.mem_of_getElem? (i := 65) rfl))) (mvT hZ (hw _ (List.mem_of_getElem? (i := 66) rfl))) (mvT hZ (hw _ (List.mem_of_getElem? (i := 67) rfl))) (mvT hZ (hw _ (List.mem_of_getElem? (i := 68) rfl))) (mvT hZ (hw _ (List.mem_of_getElem? (i := 69) rfl))) (mvT hZ (hw _ (List.mem_of_getElem? (i := 70) rfl))) (mvT hZ (hw _ (List.mem_of_getElem? (i := 71) rfl))) (mvT hZ (hw _ (List.mem_of_getElem? (i := 72) rfl))) (by decide) (backOf (W := 0) (rmA1 l Z a0 hw [] al mc ea kq h0 n0 Z0 E F1 F2 F3 G G2 Nae V) hZ (hw _ (List.mem_of_getElem? (i := 73) rfl)) (hw _ (List.mem_of_getElem? (i := 12) rfl)) (by decide) (by decide)) q2a q2b q2c (g := (mkF m 5 #[.val (.ref cn)] [.null, (.ref al)])) rfl (by rw [hml]; rfl) (Steps.refl _) (argsL := [.null]) (rest := []) (lenOf own_pd5 rfl) rfl (by show 2 * 0 + _ ≤ _; exact Nat.le_of_eq rfl) (hb hby d_prog_14_m_2_5) (fun _ _ => ⟨rfl, e1, (by decide : 0 + 0 ≤ _), (by decide : 0 + 0 ≤ _)⟩)
  dsimp only [Pt.U, Pt.locs, Pt.cells, Pt.slots] at X2 l2 y2 z2 st2 hQ2
  subst l2 y2 z2
  obtain ⟨rfl, N2q, K2, P2_0, P2_1⟩ := hQ2
  have N2 := Fr.app N0 N2q
  refine own_up (fun _ k => st2.trans k) ?_
  show own_Go p.tables e below _ (T2.setTop (mkF m 10 #[.val (.ref cn)] [(.int (1 : Int32))]))
  refine own_up (fun _ k => XS.pop X2.here hx rfl (hb hby d_prog_14_m_2_10) rfl rfl k) ?_
  show own_Go p.tables e below _ (T2.setTop (mkF m 11 #[.val (.ref cn)] []))
  refine own_up (fun _ k => XS.aloadN X2.here hx rfl (hb hby d_prog_14_m_2_11) rfl rfl k) ?_
  show own_Go p.tables e below _ (T2.setTop (mkF m 12 #[.val (.ref cn)] [(.ref cn)]))
  have f3 : Fld Z T2.heap cn "com/example/hintikka/hintikka/domain/ConstraintNetwork" "constants" "Ljava/util/List;" (.ref al) := (FC.keep K2 (ninS Nca (ninS Nce nin0)))
  obtain ⟨T4, X4, e4, st4⟩ := getF X2 hx hZ hown (host := "") (Or.inl (hw _ (List.mem_of_getElem? (i := 34) rfl))) Via.refl rfl f3 (g := (mkF m 12 #[.val (.ref cn)] [(.ref cn)])) rfl rfl (hb hby d_prog_14_m_2_12)
  refine own_up st4 ?_
  show own_Go p.tables e below _ (T4.setTop (mkF m 15 #[.val (.ref cn)] [(.ref al)]))
  have f6 : n0 ≤ T2.heap.size := (Nat.le_trans Z0 K2.1)
  obtain ⟨cq5, kq5, q5a, q5b, q5c⟩ := isOf hZ e4 P2_0
  obtain ⟨_, _, ⟨T5, L5, k5, n5⟩, -, X5, ⟨Lc5, hQ5, l5, y5, z5⟩, st5⟩ := X4.interfaceBack hx (xi := (⟨"java/util/List", "size", "()I"⟩ : MethodName)) (y := (⟨"java/util/ArrayList", "size", "()I"⟩ : MethodName)) hown (mvT hZ (hw _ (List.mem_of_getElem? (i := 99) rfl))) (mvT hZ (hw _ (List.mem_of_getElem? (i := 100) rfl))) (mvT hZ (hw _ (List.mem_of_getElem? (i := 101) rfl))) (mvT hZ (hw _ (List.mem_of_getElem? (i := 102) rfl))) (mvT hZ (hw _ (List.mem_of_getElem? (i := 103) rfl))) (mvT hZ (hw _ (List.mem_of_getElem? (i := 104) rfl))) (mvT hZ (hw _ (List.mem_of_getElem? (i := 105) rfl))) (mvT hZ (hw _ (List.mem_of_getElem? (i := 72) rfl))) (by decide) (backOf (W := 0) (rmSz l Z a0 hw [] al (2 : Int32) T2.heap n0 f6 P2_1) hZ (hw _ (List.mem_of_getElem? (i := 106) rfl)) (hw _ (List.mem_of_getElem? (i := 12) rfl)) (by decide) (by decide)) q5a q5b q5c (g := (mkF m 15 #[.val (.ref cn)] [(.ref al)])) rfl (by rw [hml]; rfl) (Steps.refl _) (argsL := []) (rest := []) (lenOf own_pd6 rfl) rfl (by show 2 * 0 + _ ≤ _; exact Nat.le_of_eq rfl) (hb hby d_prog_14_m_2_15) (fun _ _ => ⟨rfl, e4, (by decide : 0 + 0 ≤ _), (by decide : 0 + 0 ≤ _)⟩)
  dsimp only [Pt.U, Pt.locs, Pt.cells, Pt.slots] at X5 l5 y5 z5 st5 hQ5
  subst l5 y5 z5
  have f7 : h0.size ≤ T2.heap.size := (Nat.le_trans (Nat.le_refl _) K2.1)
  obtain ⟨rfl, N5q, eq5⟩ := hQ5
  have N5 := Fr.app N2 N5q
  refine own_up (fun _ k => st5.trans k) ?_
  show own_Go p.tables e below _ (T5.setTop (mkF m 20 #[.val (.ref cn)] [(.int (2 : Int32))]))
  refine own_up (fun _ k => XS.iconst X5.here hx rfl (hb hby d_prog_14_m_2_20) k) ?_
  show own_Go p.tables e below _ (T5.setTop (mkF m 21 #[.val (.ref cn)] [(.int (1 : Int32)), (.int (2 : Int32))]))
  refine own_up (fun _ k => XS.isub X5.here hx rfl (hb hby d_prog_14_m_2_21) rfl k) ?_
  show own_Go p.tables e below _ (T5.setTop (mkF m 22 #[.val (.ref cn)] [(.int (1 : Int32))]))
  exact own_end X5 hlk (v := some (.int (1 : Int32))) (fun h => by rw [Bd.returns] at h; cases h) (fun fs hr => retOut X5 hx Bd.returns rfl (Or.inl ⟨rfl, Or.inl rfl, _, rfl⟩) (hb hby d_prog_14_m_2_22) hr) eq5 ⟨rfl, N5, ((Keep.refl h0 [al, ea]).trans K2 (allS (Or.inl (List.mem_of_getElem? (i := 0) rfl)) (allS (Or.inl (List.mem_of_getElem? (i := 1) rfl)) all0))), P2_0, P2_1⟩ (by decide) (by decide)
theorem d_prog_14_m_4_0 : decode prog_14_method_4_code 0 = .ok (.aload_n 0, 1) := by decide +kernel
theorem d_prog_14_m_4_1 : decode prog_14_method_4_code 1 = .ok (.getfield 10, 3) := by decide +kernel
theorem d_prog_14_m_4_4 : decode prog_14_method_4_code 4 = .ok (.invokeinterface 39 1, 5) := by decide +kernel
theorem d_prog_14_m_4_9 : decode prog_14_method_4_code 9 = .ok (.ireturn, 1) := by decide +kernel
theorem ef_rmVC (m : MethodId) (y0 : Addr) : entryFrame m #[(.ref y0)] 1 = mkF m 0 #[.val (.ref y0)] [] := by first | (simp [entryFrame, mkF, argsToLocals, Value.category]; done) | rfl
def Q_rmVC (Z : State) (cn : Addr) (al : Addr) (h0 : Heap) (n0 : Nat) (v : Option Value) (h : Heap) (L : List Loc) : Prop := v = some (.int (2 : Int32)) ∧ Fr n0 L ∧ h = h0
set_option maxRecDepth 65536 in
set_option maxHeartbeats 40000000 in
theorem rmVC (l : Launch) (Z : State) (a0 : Array Value) (hw : ∀ d ∈ tables_1, d.before a0 Z = true) (ws : List Jvm.Cond) (cn : Addr) (al : Addr) (h0 : Heap) (n0 : Nat) (Z0 : n0 ≤ h0.size) (FC : Fld Z h0 cn "com/example/hintikka/hintikka/domain/ConstraintNetwork" "constants" "Ljava/util/List;" (.ref al)) (EA : Exa Z h0 al "java/util/ArrayList") (FS : Fld Z h0 al "java/util/ArrayList" "size" "I" (.int (2 : Int32))) :
    MetFree l (⟨"com/example/hintikka/hintikka/domain/ConstraintNetwork", "getVariableCount", "()I"⟩ : MethodName) (head1 (Jvm.Cond.code (⟨"com/example/hintikka/hintikka/domain/ConstraintNetwork", "getVariableCount", "()I"⟩ : MethodName) prog_14_method_4_code 1 (some .int) :: ws) ({ frames := 1, cells := 0, slots := 0, locals := 12 } : Room)) (fun ar U => ar = #[(.ref cn)] ∧ Z.Warmed39 U.vm ∧ U.heap = h0) (fun _ _ _ _ _ => True) (fun _ U o U' => ∃ v L, o = .returned v ∧ Q_rmVC Z cn al h0 n0 v U'.heap L ∧ FrameEnd U o U' L ({ frames := 1, cells := 0, slots := 0, locals := 12 } : Room).cells ({ frames := 1, cells := 0, slots := 0, locals := 12 } : Room).slots) := by
  refine MetFree.of_bodySF (plainFor_of_name own_pn5) hisR ?_
  intro p e s m args below meth c s₁ Bd hml0 hP hK
  obtain ⟨rfl, hZ, hh⟩ := hP
  have hx := Bd.exec
  have hby := Bd.bytes
  have hlk : meth.locks = false := BodyLoose.notSynchronized Bd
  have hml : c.maxLocals = 1 := hml0
  have hown : s.vm.findClass "com/example/hintikka/hintikka/domain/ConstraintNetwork" = some m.cls := findClass_of_methodNamed Bd.named
  have hnm := (name_of_methodNamed Bd.named Bd.method).1
  have X0 : Stand p l e ({ frames := 1, cells := 0, slots := 0, locals := 12 } : Room) s m #[(.ref cn)] below meth c s₁ [] 0 0 := Stand.of_body Bd
  have e0 : s₁.heap = h0 := by rw [← hh, Bd.state]; rfl
  have N0 := Fr.nil n0
  show own_Go p.tables e below (fun u o => ∃ v L, o = .returned v ∧ Q_rmVC Z cn al h0 n0 v u.heap L ∧ FrameEnd s o u L ({ frames := 1, cells := 0, slots := 0, locals := 12 } : Room).cells ({ frames := 1, cells := 0, slots := 0, locals := 12 } : Room).slots) (s₁.setTop (entryFrame m #[(.ref cn)] 1))
  refine own_up (fun _ k => castTop (ef_rmVC m cn) k) ?_
  show own_Go p.tables e below _ (s₁.setTop (mkF m 0 #[.val (.ref cn)] []))
  refine own_up (fun _ k => XS.aloadN X0.here hx rfl (hb hby d_prog_14_m_4_0) rfl rfl k) ?_
  show own_Go p.tables e below _ (s₁.setTop (mkF m 1 #[.val (.ref cn)] [(.ref cn)]))
  obtain ⟨T1, X1, e1, st1⟩ := getF X0 hx hZ hown (host := "") (Or.inl (hw _ (List.mem_of_getElem? (i := 34) rfl))) Via.refl e0 FC (g := (mkF m 1 #[.val (.ref cn)] [(.ref cn)])) rfl rfl (hb hby d_prog_14_m_4_1)
  refine own_up st1 ?_
  show own_Go p.tables e below _ (T1.setTop (mkF m 4 #[.val (.ref cn)] [(.ref al)]))
  obtain ⟨cq2, kq2, q2a, q2b, q2c⟩ := isOf hZ e1 EA
  obtain ⟨_, _, ⟨T2, L2, k2, n2⟩, -, X2, ⟨Lc2, hQ2, l2, y2, z2⟩, st2⟩ := X1.interfaceBack hx (xi := (⟨"java/util/List", "size", "()I"⟩ : MethodName)) (y := (⟨"java/util/ArrayList", "size", "()I"⟩ : MethodName)) hown (mvT hZ (hw _ (List.mem_of_getElem? (i := 99) rfl))) (mvT hZ (hw _ (List.mem_of_getElem? (i := 100) rfl))) (mvT hZ (hw _ (List.mem_of_getElem? (i := 101) rfl))) (mvT hZ (hw _ (List.mem_of_getElem? (i := 102) rfl))) (mvT hZ (hw _ (List.mem_of_getElem? (i := 103) rfl))) (mvT hZ (hw _ (List.mem_of_getElem? (i := 104) rfl))) (mvT hZ (hw _ (List.mem_of_getElem? (i := 105) rfl))) (mvT hZ (hw _ (List.mem_of_getElem? (i := 72) rfl))) (by decide) (backOf (W := 0) (rmSz l Z a0 hw [] al (2 : Int32) h0 n0 Z0 FS) hZ (hw _ (List.mem_of_getElem? (i := 106) rfl)) (hw _ (List.mem_of_getElem? (i := 12) rfl)) (by decide) (by decide)) q2a q2b q2c (g := (mkF m 4 #[.val (.ref cn)] [(.ref al)])) rfl (by rw [hml]; rfl) (Steps.refl _) (argsL := []) (rest := []) (lenOf own_pd6 rfl) rfl (by show 2 * 0 + _ ≤ _; exact Nat.le_of_eq rfl) (hb hby d_prog_14_m_4_4) (fun _ _ => ⟨rfl, e1, (by decide : 0 + 0 ≤ _), (by decide : 0 + 0 ≤ _)⟩)
  dsimp only [Pt.U, Pt.locs, Pt.cells, Pt.slots] at X2 l2 y2 z2 st2 hQ2
  subst l2 y2 z2
  obtain ⟨rfl, N2q, eq2⟩ := hQ2
  have N2 := Fr.app N0 N2q
  refine own_up (fun _ k => st2.trans k) ?_
  show own_Go p.tables e below _ (T2.setTop (mkF m 9 #[.val (.ref cn)] [(.int (2 : Int32))]))
  exact own_end X2 hlk (v := some (.int (2 : Int32))) (fun h => by rw [Bd.returns] at h; cases h) (fun fs hr => retOut X2 hx Bd.returns rfl (Or.inl ⟨rfl, Or.inl rfl, _, rfl⟩) (hb hby d_prog_14_m_4_9) hr) eq2 ⟨rfl, N2, rfl⟩ (by decide) (by decide)
theorem d_prog_14_m_16_0 : decode prog_14_method_16_code 0 = .ok (.iload_n 1, 1) := by decide +kernel
theorem d_prog_14_m_16_1 : decode prog_14_method_16_code 1 = .ok (.ifCond .lt 16, 3) := by decide +kernel
theorem d_prog_14_m_16_4 : decode prog_14_method_16_code 4 = .ok (.iload_n 1, 1) := by decide +kernel
theorem d_prog_14_m_16_5 : decode prog_14_method_16_code 5 = .ok (.aload_n 0, 1) := by decide +kernel
theorem d_prog_14_m_16_6 : decode prog_14_method_16_code 6 = .ok (.getfield 10, 3) := by decide +kernel
theorem d_prog_14_m_16_9 : decode prog_14_method_16_code 9 = .ok (.invokeinterface 39 1, 5) := by decide +kernel
theorem d_prog_14_m_16_14 : decode prog_14_method_16_code 14 = .ok (.if_icmp .lt 17, 3) := by decide +kernel
theorem d_prog_14_m_16_31 : decode prog_14_method_16_code 31 = .ok (.iload_n 1, 1) := by decide +kernel
theorem d_prog_14_m_16_32 : decode prog_14_method_16_code 32 = .ok (.ireturn, 1) := by decide +kernel
theorem ef_rmCV (m : MethodId) (y0 : Addr) (y1 : Int32) : entryFrame m #[(.ref y0), (.int y1)] 2 = mkF m 0 #[.val (.ref y0), .val (.int y1)] [] := by first | (simp [entryFrame, mkF, argsToLocals, Value.category]; done) | rfl
def Q_rmCV (Z : State) (cn : Addr) (pi : Int32) (al : Addr) (h0 : Heap) (n0 : Nat) (v : Option Value) (h : Heap) (L : List Loc) : Prop := v = some (.int pi) ∧ Fr n0 L ∧ h = h0
set_option maxRecDepth 65536 in
set_option maxHeartbeats 40000000 in
theorem rmCV (l : Launch) (Z : State) (a0 : Array Value) (hw : ∀ d ∈ tables_1, d.before a0 Z = true) (ws : List Jvm.Cond) (cn : Addr) (pi : Int32) (al : Addr) (h0 : Heap) (n0 : Nat) (Z0 : n0 ≤ h0.size) (FC : Fld Z h0 cn "com/example/hintikka/hintikka/domain/ConstraintNetwork" "constants" "Ljava/util/List;" (.ref al)) (EA : Exa Z h0 al "java/util/ArrayList") (FS : Fld Z h0 al "java/util/ArrayList" "size" "I" (.int (2 : Int32))) (h1 : ¬ pi < (0 : Int32)) (h2 : pi < (2 : Int32)) :
    MetFree l (⟨"com/example/hintikka/hintikka/domain/ConstraintNetwork", "checkVariable", "(I)I"⟩ : MethodName) (head1 (Jvm.Cond.code (⟨"com/example/hintikka/hintikka/domain/ConstraintNetwork", "checkVariable", "(I)I"⟩ : MethodName) prog_14_method_16_code 2 (some .int) :: ws) ({ frames := 1, cells := 0, slots := 0, locals := 13 } : Room)) (fun ar U => ar = #[(.ref cn), (.int pi)] ∧ Z.Warmed39 U.vm ∧ U.heap = h0) (fun _ _ _ _ _ => True) (fun _ U o U' => ∃ v L, o = .returned v ∧ Q_rmCV Z cn pi al h0 n0 v U'.heap L ∧ FrameEnd U o U' L ({ frames := 1, cells := 0, slots := 0, locals := 13 } : Room).cells ({ frames := 1, cells := 0, slots := 0, locals := 13 } : Room).slots) := by
  refine MetFree.of_bodySF (plainFor_of_name own_pn5) hisR ?_
  intro p e s m args below meth c s₁ Bd hml0 hP hK
  obtain ⟨rfl, hZ, hh⟩ := hP
  have hx := Bd.exec
  have hby := Bd.bytes
  have hlk : meth.locks = false := BodyLoose.notSynchronized Bd
  have hml : c.maxLocals = 2 := hml0
  have hown : s.vm.findClass "com/example/hintikka/hintikka/domain/ConstraintNetwork" = some m.cls := findClass_of_methodNamed Bd.named
  have hnm := (name_of_methodNamed Bd.named Bd.method).1
  have X0 : Stand p l e ({ frames := 1, cells := 0, slots := 0, locals := 13 } : Room) s m #[(.ref cn), (.int pi)] below meth c s₁ [] 0 0 := Stand.of_body Bd
  have e0 : s₁.heap = h0 := by rw [← hh, Bd.state]; rfl
  have N0 := Fr.nil n0
  show own_Go p.tables e below (fun u o => ∃ v L, o = .returned v ∧ Q_rmCV Z cn pi al h0 n0 v u.heap L ∧ FrameEnd s o u L ({ frames := 1, cells := 0, slots := 0, locals := 13 } : Room).cells ({ frames := 1, cells := 0, slots := 0, locals := 13 } : Room).slots) (s₁.setTop (entryFrame m #[(.ref cn), (.int pi)] 2))
  refine own_up (fun _ k => castTop (ef_rmCV m cn pi) k) ?_
  show own_Go p.tables e below _ (s₁.setTop (mkF m 0 #[.val (.ref cn), .val (.int pi)] []))
  refine own_up (fun _ k => XS.iloadN X0.here hx rfl (hb hby d_prog_14_m_16_0) rfl k) ?_
  show own_Go p.tables e below _ (s₁.setTop (mkF m 1 #[.val (.ref cn), .val (.int pi)] [(.int pi)]))
  refine own_up (fun _ k => XS.ifNo X0.here hx rfl (hb hby d_prog_14_m_16_1) rfl ((if0 _ _).trans (flt h1).1) k) ?_
  show own_Go p.tables e below _ (s₁.setTop (mkF m 4 #[.val (.ref cn), .val (.int pi)] []))
  refine own_up (fun _ k => XS.iloadN X0.here hx rfl (hb hby d_prog_14_m_16_4) rfl k) ?_
  show own_Go p.tables e below _ (s₁.setTop (mkF m 5 #[.val (.ref cn), .val (.int pi)] [(.int pi)]))
  refine own_up (fun _ k => XS.aloadN X0.here hx rfl (hb hby d_prog_14_m_16_5) rfl rfl k) ?_
  show own_Go p.tables e below _ (s₁.setTop (mkF m 6 #[.val (.ref cn), .val (.int pi)] [(.ref cn), (.int pi)]))
  obtain ⟨T1, X1, e1, st1⟩ := getF X0 hx hZ hown (host := "") (Or.inl (hw _ (List.mem_of_getElem? (i := 34) rfl))) Via.refl e0 FC (g := (mkF m 6 #[.val (.ref cn), .val (.int pi)] [(.ref cn), (.int pi)])) rfl rfl (hb hby d_prog_14_m_16_6)
  refine own_up st1 ?_
  show own_Go p.tables e below _ (T1.setTop (mkF m 9 #[.val (.ref cn), .val (.int pi)] [(.ref al), (.int pi)]))
  obtain ⟨cq2, kq2, q2a, q2b, q2c⟩ := isOf hZ e1 EA
  obtain ⟨_, _, ⟨T2, L2, k2, n2⟩, -, X2, ⟨Lc2, hQ2, l2, y2, z2⟩, st2⟩ := X1.interfaceBack hx (xi := (⟨"java/util/List", "size", "()I"⟩ : MethodName)) (y := (⟨"java/util/ArrayList", "size", "()I"⟩ : MethodName)) hown (mvT hZ (hw _ (List.mem_of_getElem? (i := 99) rfl))) (mvT hZ (hw _ (List.mem_of_getElem? (i := 100) rfl))) (mvT hZ (hw _ (List.mem_of_getElem? (i := 101) rfl))) (mvT hZ (hw _ (List.mem_of_getElem? (i := 102) rfl))) (mvT hZ (hw _ (List.mem_of_getElem? (i := 103) rfl))) (mvT hZ (hw _ (List.mem_of_getElem? (i := 104) rfl))) (mvT hZ (hw _ (List.mem_of_getElem? (i := 105) rfl))) (mvT hZ (hw _ (List.mem_of_getElem? (i := 72) rfl))) (by decide) (backOf (W := 1) (rmSz l Z a0 hw [] al (2 : Int32) h0 n0 Z0 FS) hZ (hw _ (List.mem_of_getElem? (i := 106) rfl)) (hw _ (List.mem_of_getElem? (i := 12) rfl)) (by decide) (by decide)) q2a q2b q2c (g := (mkF m 9 #[.val (.ref cn), .val (.int pi)] [(.ref al), (.int pi)])) rfl (by rw [hml]; rfl) (Steps.refl _) (argsL := []) (rest := [(.int pi)]) (lenOf own_pd6 rfl) rfl (by show 2 * 0 + _ ≤ _; exact Nat.le_of_eq rfl) (hb hby d_prog_14_m_16_9) (fun _ _ => ⟨rfl, e1, (by decide : 0 + 0 ≤ _), (by decide : 0 + 0 ≤ _)⟩)
  dsimp only [Pt.U, Pt.locs, Pt.cells, Pt.slots] at X2 l2 y2 z2 st2 hQ2
  subst l2 y2 z2
  obtain ⟨rfl, N2q, eq2⟩ := hQ2
  have N2 := Fr.app N0 N2q
  refine own_up (fun _ k => st2.trans k) ?_
  show own_Go p.tables e below _ (T2.setTop (mkF m 14 #[.val (.ref cn), .val (.int pi)] [(.int (2 : Int32)), (.int pi)]))
  refine own_up (fun _ k => XS.icmpYes X2.here hx rfl (pc0 := 14) (pc' := 31) rfl (hb hby d_prog_14_m_16_14) rfl (tlt h2).1 (by decide) (by decide) k) ?_
  show own_Go p.tables e below _ (T2.setTop (mkF m 31 #[.val (.ref cn), .val (.int pi)] []))
  refine own_up (fun _ k => XS.iloadN X2.here hx rfl (hb hby d_prog_14_m_16_31) rfl k) ?_
  show own_Go p.tables e below _ (T2.setTop (mkF m 32 #[.val (.ref cn), .val (.int pi)] [(.int pi)]))
  exact own_end X2 hlk (v := some (.int pi)) (fun h => by rw [Bd.returns] at h; cases h) (fun fs hr => retOut X2 hx Bd.returns rfl (Or.inl ⟨rfl, Or.inl rfl, _, rfl⟩) (hb hby d_prog_14_m_16_32) hr) eq2 ⟨rfl, N2, rfl⟩ (by decide) (by decide)
theorem d_prog_14_m_17_0 : decode prog_14_method_17_code 0 = .ok (.iload_n 1, 1) := by decide +kernel
theorem d_prog_14_m_17_1 : decode prog_14_method_17_code 1 = .ok (.ifCond .lt 11, 3) := by decide +kernel
theorem d_prog_14_m_17_4 : decode prog_14_method_17_code 4 = .ok (.iload_n 1, 1) := by decide +kernel
theorem d_prog_14_m_17_5 : decode prog_14_method_17_code 5 = .ok (.aload_n 0, 1) := by decide +kernel
theorem d_prog_14_m_17_6 : decode prog_14_method_17_code 6 = .ok (.getfield 84, 3) := by decide +kernel
theorem d_prog_14_m_17_9 : decode prog_14_method_17_code 9 = .ok (.if_icmp .lt 17, 3) := by decide +kernel
theorem d_prog_14_m_17_26 : decode prog_14_method_17_code 26 = .ok (.iload_n 1, 1) := by decide +kernel
theorem d_prog_14_m_17_27 : decode prog_14_method_17_code 27 = .ok (.ireturn, 1) := by decide +kernel
theorem ef_rmCk (m : MethodId) (y0 : Addr) (y1 : Int32) : entryFrame m #[(.ref y0), (.int y1)] 2 = mkF m 0 #[.val (.ref y0), .val (.int y1)] [] := by first | (simp [entryFrame, mkF, argsToLocals, Value.category]; done) | rfl
def Q_rmCk (Z : State) (cn : Addr) (pi : Int32) (zs : Int32) (h0 : Heap) (n0 : Nat) (v : Option Value) (h : Heap) (L : List Loc) : Prop := v = some (.int pi) ∧ Fr n0 L ∧ h = h0
set_option maxRecDepth 65536 in
set_option maxHeartbeats 40000000 in
theorem rmCk (l : Launch) (Z : State) (a0 : Array Value) (hw : ∀ d ∈ tables_1, d.before a0 Z = true) (ws : List Jvm.Cond) (cn : Addr) (pi : Int32) (zs : Int32) (h0 : Heap) (n0 : Nat) (Z0 : n0 ≤ h0.size) (FQ : Fld Z h0 cn "com/example/hintikka/hintikka/domain/ConstraintNetwork" "size" "I" (.int zs)) (h1 : ¬ pi < (0 : Int32)) (h2 : pi < zs) :
    MetFree l (⟨"com/example/hintikka/hintikka/domain/ConstraintNetwork", "check", "(I)I"⟩ : MethodName) (head1 (Jvm.Cond.code (⟨"com/example/hintikka/hintikka/domain/ConstraintNetwork", "check", "(I)I"⟩ : MethodName) prog_14_method_17_code 2 (some .int) :: ws) ({ frames := 0, cells := 0, slots := 0, locals := 0 } : Room)) (fun ar U => ar = #[(.ref cn), (.int pi)] ∧ Z.Warmed39 U.vm ∧ U.heap = h0) (fun _ _ _ _ _ => True) (fun _ U o U' => ∃ v L, o = .returned v ∧ Q_rmCk Z cn pi zs h0 n0 v U'.heap L ∧ FrameEnd U o U' L ({ frames := 0, cells := 0, slots := 0, locals := 0 } : Room).cells ({ frames := 0, cells := 0, slots := 0, locals := 0 } : Room).slots) := by
  refine MetFree.of_bodySF (plainFor_of_name own_pn5) hisR ?_
  intro p e s m args below meth c s₁ Bd hml0 hP hK
  obtain ⟨rfl, hZ, hh⟩ := hP
  have hx := Bd.exec
  have hby := Bd.bytes
  have hlk : meth.locks = false := BodyLoose.notSynchronized Bd
  have hml : c.maxLocals = 2 := hml0
  have hown : s.vm.findClass "com/example/hintikka/hintikka/domain/ConstraintNetwork" = some m.cls := findClass_of_methodNamed Bd.named
  have hnm := (name_of_methodNamed Bd.named Bd.method).1
  have X0 : Stand p l e ({ frames := 0, cells := 0, slots := 0, locals := 0 } : Room) s m #[(.ref cn), (.int pi)] below meth c s₁ [] 0 0 := Stand.of_body Bd
  have e0 : s₁.heap = h0 := by rw [← hh, Bd.state]; rfl
  have N0 := Fr.nil n0
  show own_Go p.tables e below (fun u o => ∃ v L, o = .returned v ∧ Q_rmCk Z cn pi zs h0 n0 v u.heap L ∧ FrameEnd s o u L ({ frames := 0, cells := 0, slots := 0, locals := 0 } : Room).cells ({ frames := 0, cells := 0, slots := 0, locals := 0 } : Room).slots) (s₁.setTop (entryFrame m #[(.ref cn), (.int pi)] 2))
  refine own_up (fun _ k => castTop (ef_rmCk m cn pi) k) ?_
  show own_Go p.tables e below _ (s₁.setTop (mkF m 0 #[.val (.ref cn), .val (.int pi)] []))
  refine own_up (fun _ k => XS.iloadN X0.here hx rfl (hb hby d_prog_14_m_17_0) rfl k) ?_
  show own_Go p.tables e below _ (s₁.setTop (mkF m 1 #[.val (.ref cn), .val (.int pi)] [(.int pi)]))
  refine own_up (fun _ k => XS.ifNo X0.here hx rfl (hb hby d_prog_14_m_17_1) rfl ((if0 _ _).trans (flt h1).1) k) ?_
  show own_Go p.tables e below _ (s₁.setTop (mkF m 4 #[.val (.ref cn), .val (.int pi)] []))
  refine own_up (fun _ k => XS.iloadN X0.here hx rfl (hb hby d_prog_14_m_17_4) rfl k) ?_
  show own_Go p.tables e below _ (s₁.setTop (mkF m 5 #[.val (.ref cn), .val (.int pi)] [(.int pi)]))
  refine own_up (fun _ k => XS.aloadN X0.here hx rfl (hb hby d_prog_14_m_17_5) rfl rfl k) ?_
  show own_Go p.tables e below _ (s₁.setTop (mkF m 6 #[.val (.ref cn), .val (.int pi)] [(.ref cn), (.int pi)]))
  obtain ⟨T1, X1, e1, st1⟩ := getF X0 hx hZ hown (host := "") (Or.inl (hw _ (List.mem_of_getElem? (i := 112) rfl))) Via.refl e0 FQ (g := (mkF m 6 #[.val (.ref cn), .val (.int pi)] [(.ref cn), (.int pi)])) rfl rfl (hb hby d_prog_14_m_17_6)
  refine own_up st1 ?_
  show own_Go p.tables e below _ (T1.setTop (mkF m 9 #[.val (.ref cn), .val (.int pi)] [(.int zs), (.int pi)]))
  refine own_up (fun _ k => XS.icmpYes X1.here hx rfl (pc0 := 9) (pc' := 26) rfl (hb hby d_prog_14_m_17_9) rfl (tlt h2).1 (by decide) (by decide) k) ?_
  show own_Go p.tables e below _ (T1.setTop (mkF m 26 #[.val (.ref cn), .val (.int pi)] []))
  refine own_up (fun _ k => XS.iloadN X1.here hx rfl (hb hby d_prog_14_m_17_26) rfl k) ?_
  show own_Go p.tables e below _ (T1.setTop (mkF m 27 #[.val (.ref cn), .val (.int pi)] [(.int pi)]))
  exact own_end X1 hlk (v := some (.int pi)) (fun h => by rw [Bd.returns] at h; cases h) (fun fs hr => retOut X1 hx Bd.returns rfl (Or.inl ⟨rfl, Or.inl rfl, _, rfl⟩) (hb hby d_prog_14_m_17_27) hr) e1 ⟨rfl, N0, rfl⟩ (by decide) (by decide)
theorem d_prog_14_m_8_0 : decode prog_14_method_8_code 0 = .ok (.aload_n 0, 1) := by decide +kernel
theorem d_prog_14_m_8_1 : decode prog_14_method_8_code 1 = .ok (.getfield 23, 3) := by decide +kernel
theorem d_prog_14_m_8_4 : decode prog_14_method_8_code 4 = .ok (.aload_n 0, 1) := by decide +kernel
theorem d_prog_14_m_8_5 : decode prog_14_method_8_code 5 = .ok (.iload_n 1, 1) := by decide +kernel
theorem d_prog_14_m_8_6 : decode prog_14_method_8_code 6 = .ok (.invokevirtual 93, 3) := by decide +kernel
theorem own_pd7 : parseMethodDescriptor "(I)I" = some ⟨[.int], some .int⟩ := by decide +kernel
theorem d_prog_14_m_8_9 : decode prog_14_method_8_code 9 = .ok (.iaload, 1) := by decide +kernel
theorem d_prog_14_m_8_10 : decode prog_14_method_8_code 10 = .ok (.ireturn, 1) := by decide +kernel
theorem ef_rmGL (m : MethodId) (y0 : Addr) (y1 : Int32) : entryFrame m #[(.ref y0), (.int y1)] 2 = mkF m 0 #[.val (.ref y0), .val (.int y1)] [] := by first | (simp [entryFrame, mkF, argsToLocals, Value.category]; done) | rfl
def Q_rmGL (Z : State) (cn : Addr) (pi : Int32) (zs : Int32) (la : Addr) (ka : ClassId) (vs : List Value) (x : Int32) (h0 : Heap) (n0 : Nat) (v : Option Value) (h : Heap) (L : List Loc) : Prop := v = some (.int x) ∧ Fr n0 L ∧ h = h0
set_option maxRecDepth 65536 in
set_option maxHeartbeats 40000000 in
theorem rmGL (l : Launch) (Z : State) (a0 : Array Value) (hw : ∀ d ∈ tables_1, d.before a0 Z = true) (ws : List Jvm.Cond) (cn : Addr) (pi : Int32) (zs : Int32) (la : Addr) (ka : ClassId) (vs : List Value) (x : Int32) (h0 : Heap) (n0 : Nat) (Z0 : n0 ≤ h0.size) (EC : Exa Z h0 cn "com/example/hintikka/hintikka/domain/ConstraintNetwork") (FQ : Fld Z h0 cn "com/example/hintikka/hintikka/domain/ConstraintNetwork" "size" "I" (.int zs)) (FA : Fld Z h0 cn "com/example/hintikka/hintikka/domain/ConstraintNetwork" "lefts" "[I" (.ref la)) (VA : Arv Z h0 la ka .int (16 : Int32) vs (.int (0 : Int32))) (h1 : ¬ pi < (0 : Int32)) (h2 : pi < zs) (hj : ¬ pi < 0 ∧ pi < (16 : Int32)) (hx1 : vs.getD pi.toNatClampNeg (.int (0 : Int32)) = .int x) :
    MetFree l (⟨"com/example/hintikka/hintikka/domain/ConstraintNetwork", "getLeft", "(I)I"⟩ : MethodName) (head1 (Jvm.Cond.code (⟨"com/example/hintikka/hintikka/domain/ConstraintNetwork", "getLeft", "(I)I"⟩ : MethodName) prog_14_method_8_code 2 (some .int) :: ws) ({ frames := 1, cells := 0, slots := 0, locals := 14 } : Room)) (fun ar U => ar = #[(.ref cn), (.int pi)] ∧ Z.Warmed39 U.vm ∧ U.heap = h0) (fun _ _ _ _ _ => True) (fun _ U o U' => ∃ v L, o = .returned v ∧ Q_rmGL Z cn pi zs la ka vs x h0 n0 v U'.heap L ∧ FrameEnd U o U' L ({ frames := 1, cells := 0, slots := 0, locals := 14 } : Room).cells ({ frames := 1, cells := 0, slots := 0, locals := 14 } : Room).slots) := by
  refine MetFree.of_bodySF (plainFor_of_name own_pn5) hisR ?_
  intro p e s m args below meth c s₁ Bd hml0 hP hK
  obtain ⟨rfl, hZ, hh⟩ := hP
  have hx := Bd.exec
  have hby := Bd.bytes
  have hlk : meth.locks = false := BodyLoose.notSynchronized Bd
  have hml : c.maxLocals = 2 := hml0
  have hown : s.vm.findClass "com/example/hintikka/hintikka/domain/ConstraintNetwork" = some m.cls := findClass_of_methodNamed Bd.named
  have hnm := (name_of_methodNamed Bd.named Bd.method).1
  have X0 : Stand p l e ({ frames := 1, cells := 0, slots := 0, locals := 14 } : Room) s m #[(.ref cn), (.int pi)] below meth c s₁ [] 0 0 := Stand.of_body Bd
  have e0 : s₁.heap = h0 := by rw [← hh, Bd.state]; rfl
  have N0 := Fr.nil n0
  show own_Go p.tables e below (fun u o => ∃ v L, o = .returned v ∧ Q_rmGL Z cn pi zs la ka vs x h0 n0 v u.heap L ∧ FrameEnd s o u L ({ frames := 1, cells := 0, slots := 0, locals := 14 } : Room).cells ({ frames := 1, cells := 0, slots := 0, locals := 14 } : Room).slots) (s₁.setTop (entryFrame m #[(.ref cn), (.int pi)] 2))
  refine own_up (fun _ k => castTop (ef_rmGL m cn pi) k) ?_
  show own_Go p.tables e below _ (s₁.setTop (mkF m 0 #[.val (.ref cn), .val (.int pi)] []))
  refine own_up (fun _ k => XS.aloadN X0.here hx rfl (hb hby d_prog_14_m_8_0) rfl rfl k) ?_
  show own_Go p.tables e below _ (s₁.setTop (mkF m 1 #[.val (.ref cn), .val (.int pi)] [(.ref cn)]))
  obtain ⟨T1, X1, e1, st1⟩ := getF X0 hx hZ hown (host := "") (Or.inl (hw _ (List.mem_of_getElem? (i := 54) rfl))) Via.refl e0 FA (g := (mkF m 1 #[.val (.ref cn), .val (.int pi)] [(.ref cn)])) rfl rfl (hb hby d_prog_14_m_8_1)
  refine own_up st1 ?_
  show own_Go p.tables e below _ (T1.setTop (mkF m 4 #[.val (.ref cn), .val (.int pi)] [(.ref la)]))
  refine own_up (fun _ k => XS.aloadN X1.here hx rfl (hb hby d_prog_14_m_8_4) rfl rfl k) ?_
  show own_Go p.tables e below _ (T1.setTop (mkF m 5 #[.val (.ref cn), .val (.int pi)] [(.ref cn), (.ref la)]))
  refine own_up (fun _ k => XS.iloadN X1.here hx rfl (hb hby d_prog_14_m_8_5) rfl k) ?_
  show own_Go p.tables e below _ (T1.setTop (mkF m 6 #[.val (.ref cn), .val (.int pi)] [(.int pi), (.ref cn), (.ref la)]))
  obtain ⟨cq2, q2, q2'⟩ := (EC).cell
  obtain ⟨_, _, ⟨T2, L2, k2, n2⟩, -, X2, ⟨Lc2, hQ2, l2, y2, z2⟩, st2⟩ := X1.privateBack hx (y := (⟨"com/example/hintikka/hintikka/domain/ConstraintNetwork", "check", "(I)I"⟩ : MethodName)) hown (mvT hZ (hw _ (List.mem_of_getElem? (i := 138) rfl))) (mvT hZ (hw _ (List.mem_of_getElem? (i := 139) rfl))) (own_selp (mvT hZ (hw _ (List.mem_of_getElem? (i := 2) rfl))) (Cond.privateMethod_at (mvP hZ (hw _ (List.mem_of_getElem? (i := 140) rfl)) (args := #[]))) (mvT hZ (hw _ (List.mem_of_getElem? (i := 139) rfl))) (by decide)) (Cond.privateMethod_at (mvP hZ (hw _ (List.mem_of_getElem? (i := 140) rfl)) (args := #[]))) (mvT hZ (hw _ (List.mem_of_getElem? (i := 141) rfl))) (by decide) (backOf (W := 1) (rmCk l Z a0 hw [] cn pi zs h0 n0 Z0 FQ h1 h2) hZ (hw _ (List.mem_of_getElem? (i := 141) rfl)) (hw _ (List.mem_of_getElem? (i := 3) rfl)) (by decide) (by decide)) (g := (mkF m 6 #[.val (.ref cn), .val (.int pi)] [(.int pi), (.ref cn), (.ref la)])) rfl (by rw [hml]; rfl) (Steps.refl _) (a := cn) (by rw [e1]; exact q2) q2' (argsL := [(.int pi)]) (rest := [(.ref la)]) (lenOf own_pd7 rfl) rfl (by show 2 * 0 + _ ≤ _; exact Nat.le_of_eq rfl) (hb hby d_prog_14_m_8_6) (fun _ _ => ⟨rfl, e1, (by decide : 0 + 0 ≤ _), (by decide : 0 + 0 ≤ _)⟩)
  dsimp only [Pt.U, Pt.locs, Pt.cells, Pt.slots] at X2 l2 y2 z2 st2 hQ2
  subst l2 y2 z2
  obtain ⟨rfl, N2q, eq2⟩ := hQ2
  have N2 := Fr.app N0 N2q
  refine own_up (fun _ k => st2.trans k) ?_
  show own_Go p.tables e below _ (T2.setTop (mkF m 9 #[.val (.ref cn), .val (.int pi)] [(.int pi), (.ref la)]))
  obtain ⟨cl3_, Ar3, q3, S3, M3, Hs3, G3⟩ := id (VA)
  have hin4 : ¬ (pi < 0 ∨ cl3_.slots.size ≤ (pi).toNatClampNeg) := inb_of S3 hj
  have hat4 : cl3_.slots[(pi).toNatClampNeg]? = some (.int x) := Has.at Hs3 hin4 hx1
  refine own_up (fun _ k => X2.iaload hx (j := pi) (v := (.int x)) (by rw [eq2]; exact Ar3.1) (State.isArrayOf_alike hZ.alike Ar3.2.1) Ar3.2.2 hin4 hat4 (g := (mkF m 9 #[.val (.ref cn), .val (.int pi)] [(.int pi), (.ref la)])) rfl rfl (hb hby d_prog_14_m_8_9) _ k) ?_
  show own_Go p.tables e below _ (T2.setTop (mkF m 10 #[.val (.ref cn), .val (.int pi)] [(.int x)]))
  exact own_end X2 hlk (v := some (.int x)) (fun h => by rw [Bd.returns] at h; cases h) (fun fs hr => retOut X2 hx Bd.returns rfl (Or.inl ⟨rfl, Or.inl rfl, _, rfl⟩) (hb hby d_prog_14_m_8_10) hr) eq2 ⟨rfl, N2, rfl⟩ (by decide) (by decide)
theorem d_prog_14_m_9_0 : decode prog_14_method_9_code 0 = .ok (.aload_n 0, 1) := by decide +kernel
theorem d_prog_14_m_9_1 : decode prog_14_method_9_code 1 = .ok (.getfield 27, 3) := by decide +kernel
theorem d_prog_14_m_9_4 : decode prog_14_method_9_code 4 = .ok (.aload_n 0, 1) := by decide +kernel
theorem d_prog_14_m_9_5 : decode prog_14_method_9_code 5 = .ok (.iload_n 1, 1) := by decide +kernel
theorem d_prog_14_m_9_6 : decode prog_14_method_9_code 6 = .ok (.invokevirtual 93, 3) := by decide +kernel
theorem d_prog_14_m_9_9 : decode prog_14_method_9_code 9 = .ok (.iaload, 1) := by decide +kernel
theorem d_prog_14_m_9_10 : decode prog_14_method_9_code 10 = .ok (.ireturn, 1) := by decide +kernel
theorem ef_rmGE (m : MethodId) (y0 : Addr) (y1 : Int32) : entryFrame m #[(.ref y0), (.int y1)] 2 = mkF m 0 #[.val (.ref y0), .val (.int y1)] [] := by first | (simp [entryFrame, mkF, argsToLocals, Value.category]; done) | rfl
def Q_rmGE (Z : State) (cn : Addr) (pi : Int32) (zs : Int32) (re : Addr) (ke : ClassId) (vs : List Value) (x : Int32) (h0 : Heap) (n0 : Nat) (v : Option Value) (h : Heap) (L : List Loc) : Prop := v = some (.int x) ∧ Fr n0 L ∧ h = h0
set_option maxRecDepth 65536 in
set_option maxHeartbeats 40000000 in
theorem rmGE (l : Launch) (Z : State) (a0 : Array Value) (hw : ∀ d ∈ tables_1, d.before a0 Z = true) (ws : List Jvm.Cond) (cn : Addr) (pi : Int32) (zs : Int32) (re : Addr) (ke : ClassId) (vs : List Value) (x : Int32) (h0 : Heap) (n0 : Nat) (Z0 : n0 ≤ h0.size) (EC : Exa Z h0 cn "com/example/hintikka/hintikka/domain/ConstraintNetwork") (FQ : Fld Z h0 cn "com/example/hintikka/hintikka/domain/ConstraintNetwork" "size" "I" (.int zs)) (FA : Fld Z h0 cn "com/example/hintikka/hintikka/domain/ConstraintNetwork" "relations" "[I" (.ref re)) (VA : Arv Z h0 re ke .int (16 : Int32) vs (.int (0 : Int32))) (h1 : ¬ pi < (0 : Int32)) (h2 : pi < zs) (hj : ¬ pi < 0 ∧ pi < (16 : Int32)) (hx1 : vs.getD pi.toNatClampNeg (.int (0 : Int32)) = .int x) :
    MetFree l (⟨"com/example/hintikka/hintikka/domain/ConstraintNetwork", "getRelations", "(I)I"⟩ : MethodName) (head1 (Jvm.Cond.code (⟨"com/example/hintikka/hintikka/domain/ConstraintNetwork", "getRelations", "(I)I"⟩ : MethodName) prog_14_method_9_code 2 (some .int) :: ws) ({ frames := 1, cells := 0, slots := 0, locals := 14 } : Room)) (fun ar U => ar = #[(.ref cn), (.int pi)] ∧ Z.Warmed39 U.vm ∧ U.heap = h0) (fun _ _ _ _ _ => True) (fun _ U o U' => ∃ v L, o = .returned v ∧ Q_rmGE Z cn pi zs re ke vs x h0 n0 v U'.heap L ∧ FrameEnd U o U' L ({ frames := 1, cells := 0, slots := 0, locals := 14 } : Room).cells ({ frames := 1, cells := 0, slots := 0, locals := 14 } : Room).slots) := by
  refine MetFree.of_bodySF (plainFor_of_name own_pn5) hisR ?_
  intro p e s m args below meth c s₁ Bd hml0 hP hK
  obtain ⟨rfl, hZ, hh⟩ := hP
  have hx := Bd.exec
  have hby := Bd.bytes
  have hlk : meth.locks = false := BodyLoose.notSynchronized Bd
  have hml : c.maxLocals = 2 := hml0
  have hown : s.vm.findClass "com/example/hintikka/hintikka/domain/ConstraintNetwork" = some m.cls := findClass_of_methodNamed Bd.named
  have hnm := (name_of_methodNamed Bd.named Bd.method).1
  have X0 : Stand p l e ({ frames := 1, cells := 0, slots := 0, locals := 14 } : Room) s m #[(.ref cn), (.int pi)] below meth c s₁ [] 0 0 := Stand.of_body Bd
  have e0 : s₁.heap = h0 := by rw [← hh, Bd.state]; rfl
  have N0 := Fr.nil n0
  show own_Go p.tables e below (fun u o => ∃ v L, o = .returned v ∧ Q_rmGE Z cn pi zs re ke vs x h0 n0 v u.heap L ∧ FrameEnd s o u L ({ frames := 1, cells := 0, slots := 0, locals := 14 } : Room).cells ({ frames := 1, cells := 0, slots := 0, locals := 14 } : Room).slots) (s₁.setTop (entryFrame m #[(.ref cn), (.int pi)] 2))
  refine own_up (fun _ k => castTop (ef_rmGE m cn pi) k) ?_
  show own_Go p.tables e below _ (s₁.setTop (mkF m 0 #[.val (.ref cn), .val (.int pi)] []))
  refine own_up (fun _ k => XS.aloadN X0.here hx rfl (hb hby d_prog_14_m_9_0) rfl rfl k) ?_
  show own_Go p.tables e below _ (s₁.setTop (mkF m 1 #[.val (.ref cn), .val (.int pi)] [(.ref cn)]))
  obtain ⟨T1, X1, e1, st1⟩ := getF X0 hx hZ hown (host := "") (Or.inl (hw _ (List.mem_of_getElem? (i := 56) rfl))) Via.refl e0 FA (g := (mkF m 1 #[.val (.ref cn), .val (.int pi)] [(.ref cn)])) rfl rfl (hb hby d_prog_14_m_9_1)
  refine own_up st1 ?_
  show own_Go p.tables e below _ (T1.setTop (mkF m 4 #[.val (.ref cn), .val (.int pi)] [(.ref re)]))
  refine own_up (fun _ k => XS.aloadN X1.here hx rfl (hb hby d_prog_14_m_9_4) rfl rfl k) ?_
  show own_Go p.tables e below _ (T1.setTop (mkF m 5 #[.val (.ref cn), .val (.int pi)] [(.ref cn), (.ref re)]))
  refine own_up (fun _ k => XS.iloadN X1.here hx rfl (hb hby d_prog_14_m_9_5) rfl k) ?_
  show own_Go p.tables e below _ (T1.setTop (mkF m 6 #[.val (.ref cn), .val (.int pi)] [(.int pi), (.ref cn), (.ref re)]))
  obtain ⟨cq2, q2, q2'⟩ := (EC).cell
  obtain ⟨_, _, ⟨T2, L2, k2, n2⟩, -, X2, ⟨Lc2, hQ2, l2, y2, z2⟩, st2⟩ := X1.privateBack hx (y := (⟨"com/example/hintikka/hintikka/domain/ConstraintNetwork", "check", "(I)I"⟩ : MethodName)) hown (mvT hZ (hw _ (List.mem_of_getElem? (i := 138) rfl))) (mvT hZ (hw _ (List.mem_of_getElem? (i := 139) rfl))) (own_selp (mvT hZ (hw _ (List.mem_of_getElem? (i := 2) rfl))) (Cond.privateMethod_at (mvP hZ (hw _ (List.mem_of_getElem? (i := 140) rfl)) (args := #[]))) (mvT hZ (hw _ (List.mem_of_getElem? (i := 139) rfl))) (by decide)) (Cond.privateMethod_at (mvP hZ (hw _ (List.mem_of_getElem? (i := 140) rfl)) (args := #[]))) (mvT hZ (hw _ (List.mem_of_getElem? (i := 141) rfl))) (by decide) (backOf (W := 1) (rmCk l Z a0 hw [] cn pi zs h0 n0 Z0 FQ h1 h2) hZ (hw _ (List.mem_of_getElem? (i := 141) rfl)) (hw _ (List.mem_of_getElem? (i := 3) rfl)) (by decide) (by decide)) (g := (mkF m 6 #[.val (.ref cn), .val (.int pi)] [(.int pi), (.ref cn), (.ref re)])) rfl (by rw [hml]; rfl) (Steps.refl _) (a := cn) (by rw [e1]; exact q2) q2' (argsL := [(.int pi)]) (rest := [(.ref re)]) (lenOf own_pd7 rfl) rfl (by show 2 * 0 + _ ≤ _; exact Nat.le_of_eq rfl) (hb hby d_prog_14_m_9_6) (fun _ _ => ⟨rfl, e1, (by decide : 0 + 0 ≤ _), (by decide : 0 + 0 ≤ _)⟩)
  dsimp only [Pt.U, Pt.locs, Pt.cells, Pt.slots] at X2 l2 y2 z2 st2 hQ2
  subst l2 y2 z2
  obtain ⟨rfl, N2q, eq2⟩ := hQ2
  have N2 := Fr.app N0 N2q
  refine own_up (fun _ k => st2.trans k) ?_
  show own_Go p.tables e below _ (T2.setTop (mkF m 9 #[.val (.ref cn), .val (.int pi)] [(.int pi), (.ref re)]))
  obtain ⟨cl3_, Ar3, q3, S3, M3, Hs3, G3⟩ := id (VA)
  have hin4 : ¬ (pi < 0 ∨ cl3_.slots.size ≤ (pi).toNatClampNeg) := inb_of S3 hj
  have hat4 : cl3_.slots[(pi).toNatClampNeg]? = some (.int x) := Has.at Hs3 hin4 hx1
  refine own_up (fun _ k => X2.iaload hx (j := pi) (v := (.int x)) (by rw [eq2]; exact Ar3.1) (State.isArrayOf_alike hZ.alike Ar3.2.1) Ar3.2.2 hin4 hat4 (g := (mkF m 9 #[.val (.ref cn), .val (.int pi)] [(.int pi), (.ref re)])) rfl rfl (hb hby d_prog_14_m_9_9) _ k) ?_
  show own_Go p.tables e below _ (T2.setTop (mkF m 10 #[.val (.ref cn), .val (.int pi)] [(.int x)]))
  exact own_end X2 hlk (v := some (.int x)) (fun h => by rw [Bd.returns] at h; cases h) (fun fs hr => retOut X2 hx Bd.returns rfl (Or.inl ⟨rfl, Or.inl rfl, _, rfl⟩) (hb hby d_prog_14_m_9_10) hr) eq2 ⟨rfl, N2, rfl⟩ (by decide) (by decide)
theorem d_prog_14_m_10_0 : decode prog_14_method_10_code 0 = .ok (.aload_n 0, 1) := by decide +kernel
theorem d_prog_14_m_10_1 : decode prog_14_method_10_code 1 = .ok (.getfield 30, 3) := by decide +kernel
theorem d_prog_14_m_10_4 : decode prog_14_method_10_code 4 = .ok (.aload_n 0, 1) := by decide +kernel
theorem d_prog_14_m_10_5 : decode prog_14_method_10_code 5 = .ok (.iload_n 1, 1) := by decide +kernel
theorem d_prog_14_m_10_6 : decode prog_14_method_10_code 6 = .ok (.invokevirtual 93, 3) := by decide +kernel
theorem d_prog_14_m_10_9 : decode prog_14_method_10_code 9 = .ok (.iaload, 1) := by decide +kernel
theorem d_prog_14_m_10_10 : decode prog_14_method_10_code 10 = .ok (.ireturn, 1) := by decide +kernel
theorem ef_rmGR (m : MethodId) (y0 : Addr) (y1 : Int32) : entryFrame m #[(.ref y0), (.int y1)] 2 = mkF m 0 #[.val (.ref y0), .val (.int y1)] [] := by first | (simp [entryFrame, mkF, argsToLocals, Value.category]; done) | rfl
def Q_rmGR (Z : State) (cn : Addr) (pi : Int32) (zs : Int32) (ri : Addr) (ki : ClassId) (vs : List Value) (x : Int32) (h0 : Heap) (n0 : Nat) (v : Option Value) (h : Heap) (L : List Loc) : Prop := v = some (.int x) ∧ Fr n0 L ∧ h = h0
set_option maxRecDepth 65536 in
set_option maxHeartbeats 40000000 in
theorem rmGR (l : Launch) (Z : State) (a0 : Array Value) (hw : ∀ d ∈ tables_1, d.before a0 Z = true) (ws : List Jvm.Cond) (cn : Addr) (pi : Int32) (zs : Int32) (ri : Addr) (ki : ClassId) (vs : List Value) (x : Int32) (h0 : Heap) (n0 : Nat) (Z0 : n0 ≤ h0.size) (EC : Exa Z h0 cn "com/example/hintikka/hintikka/domain/ConstraintNetwork") (FQ : Fld Z h0 cn "com/example/hintikka/hintikka/domain/ConstraintNetwork" "size" "I" (.int zs)) (FA : Fld Z h0 cn "com/example/hintikka/hintikka/domain/ConstraintNetwork" "rights" "[I" (.ref ri)) (VA : Arv Z h0 ri ki .int (16 : Int32) vs (.int (0 : Int32))) (h1 : ¬ pi < (0 : Int32)) (h2 : pi < zs) (hj : ¬ pi < 0 ∧ pi < (16 : Int32)) (hx1 : vs.getD pi.toNatClampNeg (.int (0 : Int32)) = .int x) :
    MetFree l (⟨"com/example/hintikka/hintikka/domain/ConstraintNetwork", "getRight", "(I)I"⟩ : MethodName) (head1 (Jvm.Cond.code (⟨"com/example/hintikka/hintikka/domain/ConstraintNetwork", "getRight", "(I)I"⟩ : MethodName) prog_14_method_10_code 2 (some .int) :: ws) ({ frames := 1, cells := 0, slots := 0, locals := 14 } : Room)) (fun ar U => ar = #[(.ref cn), (.int pi)] ∧ Z.Warmed39 U.vm ∧ U.heap = h0) (fun _ _ _ _ _ => True) (fun _ U o U' => ∃ v L, o = .returned v ∧ Q_rmGR Z cn pi zs ri ki vs x h0 n0 v U'.heap L ∧ FrameEnd U o U' L ({ frames := 1, cells := 0, slots := 0, locals := 14 } : Room).cells ({ frames := 1, cells := 0, slots := 0, locals := 14 } : Room).slots) := by
  refine MetFree.of_bodySF (plainFor_of_name own_pn5) hisR ?_
  intro p e s m args below meth c s₁ Bd hml0 hP hK
  obtain ⟨rfl, hZ, hh⟩ := hP
  have hx := Bd.exec
  have hby := Bd.bytes
  have hlk : meth.locks = false := BodyLoose.notSynchronized Bd
  have hml : c.maxLocals = 2 := hml0
  have hown : s.vm.findClass "com/example/hintikka/hintikka/domain/ConstraintNetwork" = some m.cls := findClass_of_methodNamed Bd.named
  have hnm := (name_of_methodNamed Bd.named Bd.method).1
  have X0 : Stand p l e ({ frames := 1, cells := 0, slots := 0, locals := 14 } : Room) s m #[(.ref cn), (.int pi)] below meth c s₁ [] 0 0 := Stand.of_body Bd
  have e0 : s₁.heap = h0 := by rw [← hh, Bd.state]; rfl
  have N0 := Fr.nil n0
  show own_Go p.tables e below (fun u o => ∃ v L, o = .returned v ∧ Q_rmGR Z cn pi zs ri ki vs x h0 n0 v u.heap L ∧ FrameEnd s o u L ({ frames := 1, cells := 0, slots := 0, locals := 14 } : Room).cells ({ frames := 1, cells := 0, slots := 0, locals := 14 } : Room).slots) (s₁.setTop (entryFrame m #[(.ref cn), (.int pi)] 2))
  refine own_up (fun _ k => castTop (ef_rmGR m cn pi) k) ?_
  show own_Go p.tables e below _ (s₁.setTop (mkF m 0 #[.val (.ref cn), .val (.int pi)] []))
  refine own_up (fun _ k => XS.aloadN X0.here hx rfl (hb hby d_prog_14_m_10_0) rfl rfl k) ?_
  show own_Go p.tables e below _ (s₁.setTop (mkF m 1 #[.val (.ref cn), .val (.int pi)] [(.ref cn)]))
  obtain ⟨T1, X1, e1, st1⟩ := getF X0 hx hZ hown (host := "") (Or.inl (hw _ (List.mem_of_getElem? (i := 58) rfl))) Via.refl e0 FA (g := (mkF m 1 #[.val (.ref cn), .val (.int pi)] [(.ref cn)])) rfl rfl (hb hby d_prog_14_m_10_1)
  refine own_up st1 ?_
  show own_Go p.tables e below _ (T1.setTop (mkF m 4 #[.val (.ref cn), .val (.int pi)] [(.ref ri)]))
  refine own_up (fun _ k => XS.aloadN X1.here hx rfl (hb hby d_prog_14_m_10_4) rfl rfl k) ?_
  show own_Go p.tables e below _ (T1.setTop (mkF m 5 #[.val (.ref cn), .val (.int pi)] [(.ref cn), (.ref ri)]))
  refine own_up (fun _ k => XS.iloadN X1.here hx rfl (hb hby d_prog_14_m_10_5) rfl k) ?_
  show own_Go p.tables e below _ (T1.setTop (mkF m 6 #[.val (.ref cn), .val (.int pi)] [(.int pi), (.ref cn), (.ref ri)]))
  obtain ⟨cq2, q2, q2'⟩ := (EC).cell
  obtain ⟨_, _, ⟨T2, L2, k2, n2⟩, -, X2, ⟨Lc2, hQ2, l2, y2, z2⟩, st2⟩ := X1.privateBack hx (y := (⟨"com/example/hintikka/hintikka/domain/ConstraintNetwork", "check", "(I)I"⟩ : MethodName)) hown (mvT hZ (hw _ (List.mem_of_getElem? (i := 138) rfl))) (mvT hZ (hw _ (List.mem_of_getElem? (i := 139) rfl))) (own_selp (mvT hZ (hw _ (List.mem_of_getElem? (i := 2) rfl))) (Cond.privateMethod_at (mvP hZ (hw _ (List.mem_of_getElem? (i := 140) rfl)) (args := #[]))) (mvT hZ (hw _ (List.mem_of_getElem? (i := 139) rfl))) (by decide)) (Cond.privateMethod_at (mvP hZ (hw _ (List.mem_of_getElem? (i := 140) rfl)) (args := #[]))) (mvT hZ (hw _ (List.mem_of_getElem? (i := 141) rfl))) (by decide) (backOf (W := 1) (rmCk l Z a0 hw [] cn pi zs h0 n0 Z0 FQ h1 h2) hZ (hw _ (List.mem_of_getElem? (i := 141) rfl)) (hw _ (List.mem_of_getElem? (i := 3) rfl)) (by decide) (by decide)) (g := (mkF m 6 #[.val (.ref cn), .val (.int pi)] [(.int pi), (.ref cn), (.ref ri)])) rfl (by rw [hml]; rfl) (Steps.refl _) (a := cn) (by rw [e1]; exact q2) q2' (argsL := [(.int pi)]) (rest := [(.ref ri)]) (lenOf own_pd7 rfl) rfl (by show 2 * 0 + _ ≤ _; exact Nat.le_of_eq rfl) (hb hby d_prog_14_m_10_6) (fun _ _ => ⟨rfl, e1, (by decide : 0 + 0 ≤ _), (by decide : 0 + 0 ≤ _)⟩)
  dsimp only [Pt.U, Pt.locs, Pt.cells, Pt.slots] at X2 l2 y2 z2 st2 hQ2
  subst l2 y2 z2
  obtain ⟨rfl, N2q, eq2⟩ := hQ2
  have N2 := Fr.app N0 N2q
  refine own_up (fun _ k => st2.trans k) ?_
  show own_Go p.tables e below _ (T2.setTop (mkF m 9 #[.val (.ref cn), .val (.int pi)] [(.int pi), (.ref ri)]))
  obtain ⟨cl3_, Ar3, q3, S3, M3, Hs3, G3⟩ := id (VA)
  have hin4 : ¬ (pi < 0 ∨ cl3_.slots.size ≤ (pi).toNatClampNeg) := inb_of S3 hj
  have hat4 : cl3_.slots[(pi).toNatClampNeg]? = some (.int x) := Has.at Hs3 hin4 hx1
  refine own_up (fun _ k => X2.iaload hx (j := pi) (v := (.int x)) (by rw [eq2]; exact Ar3.1) (State.isArrayOf_alike hZ.alike Ar3.2.1) Ar3.2.2 hin4 hat4 (g := (mkF m 9 #[.val (.ref cn), .val (.int pi)] [(.int pi), (.ref ri)])) rfl rfl (hb hby d_prog_14_m_10_9) _ k) ?_
  show own_Go p.tables e below _ (T2.setTop (mkF m 10 #[.val (.ref cn), .val (.int pi)] [(.int x)]))
  exact own_end X2 hlk (v := some (.int x)) (fun h => by rw [Bd.returns] at h; cases h) (fun fs hr => retOut X2 hx Bd.returns rfl (Or.inl ⟨rfl, Or.inl rfl, _, rfl⟩) (hb hby d_prog_14_m_10_10) hr) eq2 ⟨rfl, N2, rfl⟩ (by decide) (by decide)
theorem d_prog_14_m_7_0 : decode prog_14_method_7_code 0 = .ok (.aload_n 0, 1) := by decide +kernel
theorem d_prog_14_m_7_1 : decode prog_14_method_7_code 1 = .ok (.getfield 84, 3) := by decide +kernel
theorem d_prog_14_m_7_4 : decode prog_14_method_7_code 4 = .ok (.ireturn, 1) := by decide +kernel
theorem ef_rmQ (m : MethodId) (y0 : Addr) : entryFrame m #[(.ref y0)] 1 = mkF m 0 #[.val (.ref y0)] [] := by first | (simp [entryFrame, mkF, argsToLocals, Value.category]; done) | rfl
def Q_rmQ (Z : State) (cn : Addr) (zs : Int32) (h0 : Heap) (n0 : Nat) (v : Option Value) (h : Heap) (L : List Loc) : Prop := v = some (.int zs) ∧ Fr n0 L ∧ h = h0
set_option maxRecDepth 65536 in
set_option maxHeartbeats 40000000 in
theorem rmQ (l : Launch) (Z : State) (a0 : Array Value) (hw : ∀ d ∈ tables_1, d.before a0 Z = true) (ws : List Jvm.Cond) (cn : Addr) (zs : Int32) (h0 : Heap) (n0 : Nat) (Z0 : n0 ≤ h0.size) (FQ : Fld Z h0 cn "com/example/hintikka/hintikka/domain/ConstraintNetwork" "size" "I" (.int zs)) :
    MetFree l (⟨"com/example/hintikka/hintikka/domain/ConstraintNetwork", "size", "()I"⟩ : MethodName) (head1 (Jvm.Cond.code (⟨"com/example/hintikka/hintikka/domain/ConstraintNetwork", "size", "()I"⟩ : MethodName) prog_14_method_7_code 1 (some .int) :: ws) ({ frames := 0, cells := 0, slots := 0, locals := 0 } : Room)) (fun ar U => ar = #[(.ref cn)] ∧ Z.Warmed39 U.vm ∧ U.heap = h0) (fun _ _ _ _ _ => True) (fun _ U o U' => ∃ v L, o = .returned v ∧ Q_rmQ Z cn zs h0 n0 v U'.heap L ∧ FrameEnd U o U' L ({ frames := 0, cells := 0, slots := 0, locals := 0 } : Room).cells ({ frames := 0, cells := 0, slots := 0, locals := 0 } : Room).slots) := by
  refine MetFree.of_bodySF (plainFor_of_name own_pn5) hisR ?_
  intro p e s m args below meth c s₁ Bd hml0 hP hK
  obtain ⟨rfl, hZ, hh⟩ := hP
  have hx := Bd.exec
  have hby := Bd.bytes
  have hlk : meth.locks = false := BodyLoose.notSynchronized Bd
  have hml : c.maxLocals = 1 := hml0
  have hown : s.vm.findClass "com/example/hintikka/hintikka/domain/ConstraintNetwork" = some m.cls := findClass_of_methodNamed Bd.named
  have hnm := (name_of_methodNamed Bd.named Bd.method).1
  have X0 : Stand p l e ({ frames := 0, cells := 0, slots := 0, locals := 0 } : Room) s m #[(.ref cn)] below meth c s₁ [] 0 0 := Stand.of_body Bd
  have e0 : s₁.heap = h0 := by rw [← hh, Bd.state]; rfl
  have N0 := Fr.nil n0
  show own_Go p.tables e below (fun u o => ∃ v L, o = .returned v ∧ Q_rmQ Z cn zs h0 n0 v u.heap L ∧ FrameEnd s o u L ({ frames := 0, cells := 0, slots := 0, locals := 0 } : Room).cells ({ frames := 0, cells := 0, slots := 0, locals := 0 } : Room).slots) (s₁.setTop (entryFrame m #[(.ref cn)] 1))
  refine own_up (fun _ k => castTop (ef_rmQ m cn) k) ?_
  show own_Go p.tables e below _ (s₁.setTop (mkF m 0 #[.val (.ref cn)] []))
  refine own_up (fun _ k => XS.aloadN X0.here hx rfl (hb hby d_prog_14_m_7_0) rfl rfl k) ?_
  show own_Go p.tables e below _ (s₁.setTop (mkF m 1 #[.val (.ref cn)] [(.ref cn)]))
  obtain ⟨T1, X1, e1, st1⟩ := getF X0 hx hZ hown (host := "") (Or.inl (hw _ (List.mem_of_getElem? (i := 112) rfl))) Via.refl e0 FQ (g := (mkF m 1 #[.val (.ref cn)] [(.ref cn)])) rfl rfl (hb hby d_prog_14_m_7_1)
  refine own_up st1 ?_
  show own_Go p.tables e below _ (T1.setTop (mkF m 4 #[.val (.ref cn)] [(.int zs)]))
  exact own_end X1 hlk (v := some (.int zs)) (fun h => by rw [Bd.returns] at h; cases h) (fun fs hr => retOut X1 hx Bd.returns rfl (Or.inl ⟨rfl, Or.inl rfl, _, rfl⟩) (hb hby d_prog_14_m_7_4) hr) e1 ⟨rfl, N0, rfl⟩ (by decide) (by decide)
theorem d_prog_14_m_11_0 : decode prog_14_method_11_code 0 = .ok (.iload_n 1, 1) := by decide +kernel
theorem d_prog_14_m_11_1 : decode prog_14_method_11_code 1 = .ok (.ifCond .lt 11, 3) := by decide +kernel
theorem d_prog_14_m_11_4 : decode prog_14_method_11_code 4 = .ok (.iload_n 1, 1) := by decide +kernel
theorem d_prog_14_m_11_5 : decode prog_14_method_11_code 5 = .ok (.aload_n 0, 1) := by decide +kernel
theorem d_prog_14_m_11_6 : decode prog_14_method_11_code 6 = .ok (.getfield 84, 3) := by decide +kernel
theorem d_prog_14_m_11_9 : decode prog_14_method_11_code 9 = .ok (.if_icmp .le 21, 3) := by decide +kernel
theorem d_prog_14_m_11_30 : decode prog_14_method_11_code 30 = .ok (.aload_n 0, 1) := by decide +kernel
theorem d_prog_14_m_11_31 : decode prog_14_method_11_code 31 = .ok (.iload_n 1, 1) := by decide +kernel
theorem d_prog_14_m_11_32 : decode prog_14_method_11_code 32 = .ok (.putfield 84, 3) := by decide +kernel
theorem d_prog_14_m_11_35 : decode prog_14_method_11_code 35 = .ok (.return_, 1) := by decide +kernel
theorem ef_rmT (m : MethodId) (y0 : Addr) (y1 : Int32) : entryFrame m #[(.ref y0), (.int y1)] 2 = mkF m 0 #[.val (.ref y0), .val (.int y1)] [] := by first | (simp [entryFrame, mkF, argsToLocals, Value.category]; done) | rfl
def Q_rmT (Z : State) (cn : Addr) (pt : Int32) (al : Addr) (la : Addr) (re : Addr) (ri : Addr) (zs : Int32) (h0 : Heap) (n0 : Nat) (v : Option Value) (h : Heap) (L : List Loc) : Prop := v = none ∧ Fr n0 L ∧ Keep h0 h [cn] ∧ Exa Z h cn "com/example/hintikka/hintikka/domain/ConstraintNetwork" ∧ Fld Z h cn "com/example/hintikka/hintikka/domain/ConstraintNetwork" "constants" "Ljava/util/List;" (.ref al) ∧ Fld Z h cn "com/example/hintikka/hintikka/domain/ConstraintNetwork" "lefts" "[I" (.ref la) ∧ Fld Z h cn "com/example/hintikka/hintikka/domain/ConstraintNetwork" "relations" "[I" (.ref re) ∧ Fld Z h cn "com/example/hintikka/hintikka/domain/ConstraintNetwork" "rights" "[I" (.ref ri) ∧ Fld Z h cn "com/example/hintikka/hintikka/domain/ConstraintNetwork" "size" "I" (.int pt)
set_option maxRecDepth 65536 in
set_option maxHeartbeats 40000000 in
theorem rmT (l : Launch) (Z : State) (a0 : Array Value) (hw : ∀ d ∈ tables_1, d.before a0 Z = true) (ws : List Jvm.Cond) (cn : Addr) (pt : Int32) (al : Addr) (la : Addr) (re : Addr) (ri : Addr) (zs : Int32) (h0 : Heap) (n0 : Nat) (Z0 : n0 ≤ h0.size) (EC : Exa Z h0 cn "com/example/hintikka/hintikka/domain/ConstraintNetwork") (FC : Fld Z h0 cn "com/example/hintikka/hintikka/domain/ConstraintNetwork" "constants" "Ljava/util/List;" (.ref al)) (FA0 : Fld Z h0 cn "com/example/hintikka/hintikka/domain/ConstraintNetwork" "lefts" "[I" (.ref la)) (FA1 : Fld Z h0 cn "com/example/hintikka/hintikka/domain/ConstraintNetwork" "relations" "[I" (.ref re)) (FA2 : Fld Z h0 cn "com/example/hintikka/hintikka/domain/ConstraintNetwork" "rights" "[I" (.ref ri)) (FQ : Fld Z h0 cn "com/example/hintikka/hintikka/domain/ConstraintNetwork" "size" "I" (.int zs)) (G : n0 ≤ cn) (h1 : ¬ pt < (0 : Int32)) (h2 : ¬ zs < pt) :
    MetFree l (⟨"com/example/hintikka/hintikka/domain/ConstraintNetwork", "truncate", "(I)V"⟩ : MethodName) (head1 (Jvm.Cond.code (⟨"com/example/hintikka/hintikka/domain/ConstraintNetwork", "truncate", "(I)V"⟩ : MethodName) prog_14_method_11_code 2 none :: ws) ({ frames := 0, cells := 0, slots := 0, locals := 0 } : Room)) (fun ar U => ar = #[(.ref cn), (.int pt)] ∧ Z.Warmed39 U.vm ∧ U.heap = h0) (fun _ _ _ _ _ => True) (fun _ U o U' => ∃ v L, o = .returned v ∧ Q_rmT Z cn pt al la re ri zs h0 n0 v U'.heap L ∧ FrameEnd U o U' L ({ frames := 0, cells := 0, slots := 0, locals := 0 } : Room).cells ({ frames := 0, cells := 0, slots := 0, locals := 0 } : Room).slots) := by
  refine MetFree.of_bodySF (plainFor_of_name own_pn5) hisR ?_
  intro p e s m args below meth c s₁ Bd hml0 hP hK
  obtain ⟨rfl, hZ, hh⟩ := hP
  have hx := Bd.exec
  have hby := Bd.bytes
  have hlk : meth.locks = false := BodyLoose.notSynchronized Bd
  have hml : c.maxLocals = 2 := hml0
  have hown : s.vm.findClass "com/example/hintikka/hintikka/domain/ConstraintNetwork" = some m.cls := findClass_of_methodNamed Bd.named
  have hnm := (name_of_methodNamed Bd.named Bd.method).1
  have X0 : Stand p l e ({ frames := 0, cells := 0, slots := 0, locals := 0 } : Room) s m #[(.ref cn), (.int pt)] below meth c s₁ [] 0 0 := Stand.of_body Bd
  have e0 : s₁.heap = h0 := by rw [← hh, Bd.state]; rfl
  have N0 := Fr.nil n0
  show own_Go p.tables e below (fun u o => ∃ v L, o = .returned v ∧ Q_rmT Z cn pt al la re ri zs h0 n0 v u.heap L ∧ FrameEnd s o u L ({ frames := 0, cells := 0, slots := 0, locals := 0 } : Room).cells ({ frames := 0, cells := 0, slots := 0, locals := 0 } : Room).slots) (s₁.setTop (entryFrame m #[(.ref cn), (.int pt)] 2))
  refine own_up (fun _ k => castTop (ef_rmT m cn pt) k) ?_
  show own_Go p.tables e below _ (s₁.setTop (mkF m 0 #[.val (.ref cn), .val (.int pt)] []))
  refine own_up (fun _ k => XS.iloadN X0.here hx rfl (hb hby d_prog_14_m_11_0) rfl k) ?_
  show own_Go p.tables e below _ (s₁.setTop (mkF m 1 #[.val (.ref cn), .val (.int pt)] [(.int pt)]))
  refine own_up (fun _ k => XS.ifNo X0.here hx rfl (hb hby d_prog_14_m_11_1) rfl ((if0 _ _).trans (flt h1).1) k) ?_
  show own_Go p.tables e below _ (s₁.setTop (mkF m 4 #[.val (.ref cn), .val (.int pt)] []))
  refine own_up (fun _ k => XS.iloadN X0.here hx rfl (hb hby d_prog_14_m_11_4) rfl k) ?_
  show own_Go p.tables e below _ (s₁.setTop (mkF m 5 #[.val (.ref cn), .val (.int pt)] [(.int pt)]))
  refine own_up (fun _ k => XS.aloadN X0.here hx rfl (hb hby d_prog_14_m_11_5) rfl rfl k) ?_
  show own_Go p.tables e below _ (s₁.setTop (mkF m 6 #[.val (.ref cn), .val (.int pt)] [(.ref cn), (.int pt)]))
  obtain ⟨T1, X1, e1, st1⟩ := getF X0 hx hZ hown (host := "") (Or.inl (hw _ (List.mem_of_getElem? (i := 112) rfl))) Via.refl e0 FQ (g := (mkF m 6 #[.val (.ref cn), .val (.int pt)] [(.ref cn), (.int pt)])) rfl rfl (hb hby d_prog_14_m_11_6)
  refine own_up st1 ?_
  show own_Go p.tables e below _ (T1.setTop (mkF m 9 #[.val (.ref cn), .val (.int pt)] [(.int zs), (.int pt)]))
  refine own_up (fun _ k => XS.icmpYes X1.here hx rfl (pc0 := 9) (pc' := 30) rfl (hb hby d_prog_14_m_11_9) rfl (flt h2).2.2.2 (by decide) (by decide) k) ?_
  show own_Go p.tables e below _ (T1.setTop (mkF m 30 #[.val (.ref cn), .val (.int pt)] []))
  refine own_up (fun _ k => XS.aloadN X1.here hx rfl (hb hby d_prog_14_m_11_30) rfl rfl k) ?_
  show own_Go p.tables e below _ (T1.setTop (mkF m 31 #[.val (.ref cn), .val (.int pt)] [(.ref cn)]))
  refine own_up (fun _ k => XS.iloadN X1.here hx rfl (hb hby d_prog_14_m_11_31) rfl k) ?_
  show own_Go p.tables e below _ (T1.setTop (mkF m 32 #[.val (.ref cn), .val (.int pt)] [(.int pt), (.ref cn)]))
  obtain ⟨T2, h2, X2, e2, W2, st2⟩ := putF X1 hx hZ hown (host := "") (Or.inl (hw _ (List.mem_of_getElem? (i := 112) rfl))) Via.refl e1 FQ EC (Or.inl (hw _ (List.mem_of_getElem? (i := 113) rfl))) (hw _ (List.mem_of_getElem? (i := 2) rfl)) (ty := .int) (by decide) rfl rfl (g := (mkF m 32 #[.val (.ref cn), .val (.int pt)] [(.int pt), (.ref cn)])) rfl rfl (hb hby d_prog_14_m_11_32)
  have Fw2 := FQ.same W2
  have N2 := Fr.snoc X2 N0 G
  refine own_up st2 ?_
  show own_Go p.tables e below _ (T2.setTop (mkF m 35 #[.val (.ref cn), .val (.int pt)] []))
  have f3 : Exa Z h2 cn "com/example/hintikka/hintikka/domain/ConstraintNetwork" := (EC.wr W2)
  have f4 : Fld Z h2 cn "com/example/hintikka/hintikka/domain/ConstraintNetwork" "constants" "Ljava/util/List;" (.ref al) := (FC.other W2 (Or.inr (slot_ne (Or.inr (hw _ (List.mem_of_getElem? (i := 35) rfl))) (Or.inl (hw _ (List.mem_of_getElem? (i := 113) rfl))) (by decide) (t := (.object "java/util/List")) (t' := .int) (by decide) (by decide))))
  have f5 : Fld Z h2 cn "com/example/hintikka/hintikka/domain/ConstraintNetwork" "lefts" "[I" (.ref la) := (FA0.other W2 (Or.inr (slot_ne (Or.inl (hw _ (List.mem_of_getElem? (i := 55) rfl))) (Or.inl (hw _ (List.mem_of_getElem? (i := 113) rfl))) (by decide) (t := (.array .int)) (t' := .int) (by decide) (by decide))))
  have f6 : Fld Z h2 cn "com/example/hintikka/hintikka/domain/ConstraintNetwork" "relations" "[I" (.ref re) := (FA1.other W2 (Or.inr (slot_ne (Or.inl (hw _ (List.mem_of_getElem? (i := 57) rfl))) (Or.inl (hw _ (List.mem_of_getElem? (i := 113) rfl))) (by decide) (t := (.array .int)) (t' := .int) (by decide) (by decide))))
  have f7 : Fld Z h2 cn "com/example/hintikka/hintikka/domain/ConstraintNetwork" "rights" "[I" (.ref ri) := (FA2.other W2 (Or.inr (slot_ne (Or.inl (hw _ (List.mem_of_getElem? (i := 59) rfl))) (Or.inl (hw _ (List.mem_of_getElem? (i := 113) rfl))) (by decide) (t := (.array .int)) (t' := .int) (by decide) (by decide))))
  exact own_end X2 hlk (v := none) (fun _ => rfl) (fun fs hr => X2.returnOut hx Bd.returns (hb hby d_prog_14_m_11_35) hr) e2 ⟨rfl, N2, ((Keep.refl h0 [cn]).wr W2 (Or.inl (List.mem_of_getElem? (i := 0) rfl))), f3, f4, f5, f6, f7, Fw2⟩ (by decide) (by decide)
theorem d_prog_14_m_6_0 : decode prog_14_method_6_code 0 = .ok (.aload_n 0, 1) := by decide +kernel
theorem d_prog_14_m_6_1 : decode prog_14_method_6_code 1 = .ok (.iload_n 1, 1) := by decide +kernel
theorem d_prog_14_m_6_2 : decode prog_14_method_6_code 2 = .ok (.invokevirtual 77, 3) := by decide +kernel
theorem d_prog_14_m_6_5 : decode prog_14_method_6_code 5 = .ok (.pop, 1) := by decide +kernel
theorem d_prog_14_m_6_6 : decode prog_14_method_6_code 6 = .ok (.aload_n 0, 1) := by decide +kernel
theorem d_prog_14_m_6_7 : decode prog_14_method_6_code 7 = .ok (.iload_n 3, 1) := by decide +kernel
theorem d_prog_14_m_6_8 : decode prog_14_method_6_code 8 = .ok (.invokevirtual 77, 3) := by decide +kernel
theorem d_prog_14_m_6_11 : decode prog_14_method_6_code 11 = .ok (.pop, 1) := by decide +kernel
theorem d_prog_14_m_6_12 : decode prog_14_method_6_code 12 = .ok (.aload_n 0, 1) := by decide +kernel
theorem d_prog_14_m_6_13 : decode prog_14_method_6_code 13 = .ok (.getfield 84, 3) := by decide +kernel
theorem d_prog_14_m_6_16 : decode prog_14_method_6_code 16 = .ok (.aload_n 0, 1) := by decide +kernel
theorem d_prog_14_m_6_17 : decode prog_14_method_6_code 17 = .ok (.getfield 23, 3) := by decide +kernel
theorem d_prog_14_m_6_20 : decode prog_14_method_6_code 20 = .ok (.arraylength, 1) := by decide +kernel
theorem d_prog_14_m_6_21 : decode prog_14_method_6_code 21 = .ok (.if_icmp .ne 54, 3) := by decide +kernel
theorem d_prog_14_m_6_75 : decode prog_14_method_6_code 75 = .ok (.aload_n 0, 1) := by decide +kernel
theorem d_prog_14_m_6_76 : decode prog_14_method_6_code 76 = .ok (.getfield 23, 3) := by decide +kernel
theorem d_prog_14_m_6_79 : decode prog_14_method_6_code 79 = .ok (.aload_n 0, 1) := by decide +kernel
theorem d_prog_14_m_6_80 : decode prog_14_method_6_code 80 = .ok (.getfield 84, 3) := by decide +kernel
theorem d_prog_14_m_6_83 : decode prog_14_method_6_code 83 = .ok (.iload_n 1, 1) := by decide +kernel
theorem d_prog_14_m_6_84 : decode prog_14_method_6_code 84 = .ok (.iastore, 1) := by decide +kernel
theorem d_prog_14_m_6_85 : decode prog_14_method_6_code 85 = .ok (.aload_n 0, 1) := by decide +kernel
theorem d_prog_14_m_6_86 : decode prog_14_method_6_code 86 = .ok (.getfield 27, 3) := by decide +kernel
theorem d_prog_14_m_6_89 : decode prog_14_method_6_code 89 = .ok (.aload_n 0, 1) := by decide +kernel
theorem d_prog_14_m_6_90 : decode prog_14_method_6_code 90 = .ok (.getfield 84, 3) := by decide +kernel
theorem d_prog_14_m_6_93 : decode prog_14_method_6_code 93 = .ok (.iload_n 2, 1) := by decide +kernel
theorem d_prog_14_m_6_94 : decode prog_14_method_6_code 94 = .ok (.iastore, 1) := by decide +kernel
theorem d_prog_14_m_6_95 : decode prog_14_method_6_code 95 = .ok (.aload_n 0, 1) := by decide +kernel
theorem d_prog_14_m_6_96 : decode prog_14_method_6_code 96 = .ok (.getfield 30, 3) := by decide +kernel
theorem d_prog_14_m_6_99 : decode prog_14_method_6_code 99 = .ok (.aload_n 0, 1) := by decide +kernel
theorem d_prog_14_m_6_100 : decode prog_14_method_6_code 100 = .ok (.getfield 84, 3) := by decide +kernel
theorem d_prog_14_m_6_103 : decode prog_14_method_6_code 103 = .ok (.iload_n 3, 1) := by decide +kernel
theorem d_prog_14_m_6_104 : decode prog_14_method_6_code 104 = .ok (.iastore, 1) := by decide +kernel
theorem d_prog_14_m_6_105 : decode prog_14_method_6_code 105 = .ok (.aload_n 0, 1) := by decide +kernel
theorem d_prog_14_m_6_106 : decode prog_14_method_6_code 106 = .ok (.dup, 1) := by decide +kernel
theorem d_prog_14_m_6_107 : decode prog_14_method_6_code 107 = .ok (.getfield 84, 3) := by decide +kernel
theorem d_prog_14_m_6_110 : decode prog_14_method_6_code 110 = .ok (.iconst 1, 1) := by decide +kernel
theorem d_prog_14_m_6_111 : decode prog_14_method_6_code 111 = .ok (.iadd, 1) := by decide +kernel
theorem d_prog_14_m_6_112 : decode prog_14_method_6_code 112 = .ok (.putfield 84, 3) := by decide +kernel
theorem d_prog_14_m_6_115 : decode prog_14_method_6_code 115 = .ok (.return_, 1) := by decide +kernel
theorem ef_rmAd0 (m : MethodId) (y0 : Addr) (y1 : Int32) (y2 : Int32) (y3 : Int32) : entryFrame m #[(.ref y0), (.int y1), (.int y2), (.int y3)] 4 = mkF m 0 #[.val (.ref y0), .val (.int y1), .val (.int y2), .val (.int y3)] [] := by first | (simp [entryFrame, mkF, argsToLocals, Value.category]; done) | rfl
def Q_rmAd0 (Z : State) (cn : Addr) (pl : Int32) (pr : Int32) (pg : Int32) (al : Addr) (la : Addr) (re : Addr) (ri : Addr) (ka : ClassId) (ke : ClassId) (ki : ClassId) (lx0 : Int32) (lx1 : Int32) (lx2 : Int32) (lx3 : Int32) (rx0 : Int32) (rx1 : Int32) (rx2 : Int32) (rx3 : Int32) (w0 : Int32) (w1 : Int32) (w2 : Int32) (w3 : Int32) (h0 : Heap) (n0 : Nat) (v : Option Value) (h : Heap) (L : List Loc) : Prop := v = none ∧ Fr n0 L ∧ Keep h0 h [cn, la, re, ri] ∧ Exa Z h cn "com/example/hintikka/hintikka/domain/ConstraintNetwork" ∧ Fld Z h cn "com/example/hintikka/hintikka/domain/ConstraintNetwork" "constants" "Ljava/util/List;" (.ref al) ∧ Fld Z h cn "com/example/hintikka/hintikka/domain/ConstraintNetwork" "lefts" "[I" (.ref la) ∧ Fld Z h cn "com/example/hintikka/hintikka/domain/ConstraintNetwork" "relations" "[I" (.ref re) ∧ Fld Z h cn "com/example/hintikka/hintikka/domain/ConstraintNetwork" "rights" "[I" (.ref ri) ∧ Fld Z h cn "com/example/hintikka/hintikka/domain/ConstraintNetwork" "size" "I" (.int (1 : Int32)) ∧ Arv Z h la ka .int (16 : Int32) [(.int pl), (.int lx1), (.int lx2), (.int lx3)] (.int (0 : Int32)) ∧ Arv Z h re ke .int (16 : Int32) [(.int pr), (.int rx1), (.int rx2), (.int rx3)] (.int (0 : Int32)) ∧ Arv Z h ri ki .int (16 : Int32) [(.int pg), (.int w1), (.int w2), (.int w3)] (.int (0 : Int32))
set_option maxRecDepth 65536 in
set_option maxHeartbeats 40000000 in
theorem rmAd0 (l : Launch) (Z : State) (a0 : Array Value) (hw : ∀ d ∈ tables_1, d.before a0 Z = true) (ws : List Jvm.Cond) (cn : Addr) (pl : Int32) (pr : Int32) (pg : Int32) (al : Addr) (la : Addr) (re : Addr) (ri : Addr) (ka : ClassId) (ke : ClassId) (ki : ClassId) (lx0 : Int32) (lx1 : Int32) (lx2 : Int32) (lx3 : Int32) (rx0 : Int32) (rx1 : Int32) (rx2 : Int32) (rx3 : Int32) (w0 : Int32) (w1 : Int32) (w2 : Int32) (w3 : Int32) (h0 : Heap) (n0 : Nat) (Z0 : n0 ≤ h0.size) (EC : Exa Z h0 cn "com/example/hintikka/hintikka/domain/ConstraintNetwork") (FC : Fld Z h0 cn "com/example/hintikka/hintikka/domain/ConstraintNetwork" "constants" "Ljava/util/List;" (.ref al)) (FA0 : Fld Z h0 cn "com/example/hintikka/hintikka/domain/ConstraintNetwork" "lefts" "[I" (.ref la)) (FA1 : Fld Z h0 cn "com/example/hintikka/hintikka/domain/ConstraintNetwork" "relations" "[I" (.ref re)) (FA2 : Fld Z h0 cn "com/example/hintikka/hintikka/domain/ConstraintNetwork" "rights" "[I" (.ref ri)) (EA : Exa Z h0 al "java/util/ArrayList") (FS : Fld Z h0 al "java/util/ArrayList" "size" "I" (.int (2 : Int32))) (FQ : Fld Z h0 cn "com/example/hintikka/hintikka/domain/ConstraintNetwork" "size" "I" (.int (0 : Int32))) (V0 : Arv Z h0 la ka .int (16 : Int32) [(.int lx0), (.int lx1), (.int lx2), (.int lx3)] (.int (0 : Int32))) (V1 : Arv Z h0 re ke .int (16 : Int32) [(.int rx0), (.int rx1), (.int rx2), (.int rx3)] (.int (0 : Int32))) (V2 : Arv Z h0 ri ki .int (16 : Int32) [(.int w0), (.int w1), (.int w2), (.int w3)] (.int (0 : Int32))) (G0 : n0 ≤ cn) (G1 : n0 ≤ la) (G2 : n0 ≤ re) (G3 : n0 ≤ ri) (nq0 : cn ≠ al) (nq1 : cn ≠ la) (nq2 : cn ≠ re) (nq3 : cn ≠ ri) (nq4 : al ≠ la) (nq5 : al ≠ re) (nq6 : al ≠ ri) (nq7 : la ≠ re) (nq8 : la ≠ ri) (nq9 : re ≠ ri) (h1 : ¬ pl < (0 : Int32)) (h2 : pl < (2 : Int32)) (h3 : ¬ pg < (0 : Int32)) (h4 : pg < (2 : Int32)) :
    MetFree l (⟨"com/example/hintikka/hintikka/domain/ConstraintNetwork", "add", "(III)V"⟩ : MethodName) (head1 (Jvm.Cond.code (⟨"com/example/hintikka/hintikka/domain/ConstraintNetwork", "add", "(III)V"⟩ : MethodName) prog_14_method_6_code 4 none :: ws) ({ frames := 2, cells := 0, slots := 0, locals := 26 } : Room)) (fun ar U => ar = #[(.ref cn), (.int pl), (.int pr), (.int pg)] ∧ Z.Warmed39 U.vm ∧ U.heap = h0) (fun _ _ _ _ _ => True) (fun _ U o U' => ∃ v L, o = .returned v ∧ Q_rmAd0 Z cn pl pr pg al la re ri ka ke ki lx0 lx1 lx2 lx3 rx0 rx1 rx2 rx3 w0 w1 w2 w3 h0 n0 v U'.heap L ∧ FrameEnd U o U' L ({ frames := 2, cells := 0, slots := 0, locals := 26 } : Room).cells ({ frames := 2, cells := 0, slots := 0, locals := 26 } : Room).slots) := by
  refine MetFree.of_bodySF (plainFor_of_name own_pn5) hisR ?_
  intro p e s m args below meth c s₁ Bd hml0 hP hK
  obtain ⟨rfl, hZ, hh⟩ := hP
  have hx := Bd.exec
  have hby := Bd.bytes
  have hlk : meth.locks = false := BodyLoose.notSynchronized Bd
  have hml : c.maxLocals = 4 := hml0
  have hown : s.vm.findClass "com/example/hintikka/hintikka/domain/ConstraintNetwork" = some m.cls := findClass_of_methodNamed Bd.named
  have hnm := (name_of_methodNamed Bd.named Bd.method).1
  have X0 : Stand p l e ({ frames := 2, cells := 0, slots := 0, locals := 26 } : Room) s m #[(.ref cn), (.int pl), (.int pr), (.int pg)] below meth c s₁ [] 0 0 := Stand.of_body Bd
  have e0 : s₁.heap = h0 := by rw [← hh, Bd.state]; rfl
  have N0 := Fr.nil n0
  show own_Go p.tables e below (fun u o => ∃ v L, o = .returned v ∧ Q_rmAd0 Z cn pl pr pg al la re ri ka ke ki lx0 lx1 lx2 lx3 rx0 rx1 rx2 rx3 w0 w1 w2 w3 h0 n0 v u.heap L ∧ FrameEnd s o u L ({ frames := 2, cells := 0, slots := 0, locals := 26 } : Room).cells ({ frames := 2, cells := 0, slots := 0, locals := 26 } : Room).slots) (s₁.setTop (entryFrame m #[(.ref cn), (.int pl), (.int pr), (.int pg)] 4))
  refine own_up (fun _ k => castTop (ef_rmAd0 m cn pl pr pg) k) ?_
  show own_Go p.tables e below _ (s₁.setTop (mkF m 0 #[.val (.ref cn), .val (.int pl), .val (.int pr), .val (.int pg)] []))
  refine own_up (fun _ k => XS.aloadN X0.here hx rfl (hb hby d_prog_14_m_6_0) rfl rfl k) ?_
  show own_Go p.tables e below _ (s₁.setTop (mkF m 1 #[.val (.ref cn), .val (.int pl), .val (.int pr), .val (.int pg)] [(.ref cn)]))
  refine own_up (fun _ k => XS.iloadN X0.here hx rfl (hb hby d_prog_14_m_6_1) rfl k) ?_
  show own_Go p.tables e below _ (s₁.setTop (mkF m 2 #[.val (.ref cn), .val (.int pl), .val (.int pr), .val (.int pg)] [(.int pl), (.ref cn)]))
  obtain ⟨cq1, q1, q1'⟩ := (EC).cell
  obtain ⟨_, _, ⟨T1, L1, k1, n1⟩, -, X1, ⟨Lc1, hQ1, l1, y1, z1⟩, st1⟩ := X0.privateBack hx (y := (⟨"com/example/hintikka/hintikka/domain/ConstraintNetwork", "checkVariable", "(I)I"⟩ : MethodName)) hown (mvT hZ (hw _ (List.mem_of_getElem? (i := 129) rfl))) (mvT hZ (hw _ (List.mem_of_getElem? (i := 130) rfl))) (own_selp (mvT hZ (hw _ (List.mem_of_getElem? (i := 2) rfl))) (Cond.privateMethod_at (mvP hZ (hw _ (List.mem_of_getElem? (i := 131) rfl)) (args := #[]))) (mvT hZ (hw _ (List.mem_of_getElem? (i := 130) rfl))) (by decide)) (Cond.privateMethod_at (mvP hZ (hw _ (List.mem_of_getElem? (i := 131) rfl)) (args := #[]))) (mvT hZ (hw _ (List.mem_of_getElem? (i := 132) rfl))) (by decide) (backOf (W := 0) (rmCV l Z a0 hw [] cn pl al h0 n0 Z0 FC EA FS h1 h2) hZ (hw _ (List.mem_of_getElem? (i := 132) rfl)) (hw _ (List.mem_of_getElem? (i := 3) rfl)) (by decide) (by decide)) (g := (mkF m 2 #[.val (.ref cn), .val (.int pl), .val (.int pr), .val (.int pg)] [(.int pl), (.ref cn)])) rfl (by rw [hml]; rfl) (Steps.refl _) (a := cn) (by rw [e0]; exact q1) q1' (argsL := [(.int pl)]) (rest := []) (lenOf own_pd7 rfl) rfl (by show 2 * 0 + _ ≤ _; exact Nat.le_of_eq rfl) (hb hby d_prog_14_m_6_2) (fun _ _ => ⟨rfl, e0, (by decide : 0 + 0 ≤ _), (by decide : 0 + 0 ≤ _)⟩)
  dsimp only [Pt.U, Pt.locs, Pt.cells, Pt.slots] at X1 l1 y1 z1 st1 hQ1
  subst l1 y1 z1
  obtain ⟨rfl, N1q, eq1⟩ := hQ1
  have N1 := Fr.app N0 N1q
  refine own_up (fun _ k => st1.trans k) ?_
  show own_Go p.tables e below _ (T1.setTop (mkF m 5 #[.val (.ref cn), .val (.int pl), .val (.int pr), .val (.int pg)] [(.int pl)]))
  refine own_up (fun _ k => XS.pop X1.here hx rfl (hb hby d_prog_14_m_6_5) rfl rfl k) ?_
  show own_Go p.tables e below _ (T1.setTop (mkF m 6 #[.val (.ref cn), .val (.int pl), .val (.int pr), .val (.int pg)] []))
  refine own_up (fun _ k => XS.aloadN X1.here hx rfl (hb hby d_prog_14_m_6_6) rfl rfl k) ?_
  show own_Go p.tables e below _ (T1.setTop (mkF m 7 #[.val (.ref cn), .val (.int pl), .val (.int pr), .val (.int pg)] [(.ref cn)]))
  refine own_up (fun _ k => XS.iloadN X1.here hx rfl (hb hby d_prog_14_m_6_7) rfl k) ?_
  show own_Go p.tables e below _ (T1.setTop (mkF m 8 #[.val (.ref cn), .val (.int pl), .val (.int pr), .val (.int pg)] [(.int pg), (.ref cn)]))
  obtain ⟨cq2, q2, q2'⟩ := (EC).cell
  obtain ⟨_, _, ⟨T2, L2, k2, n2⟩, -, X2, ⟨Lc2, hQ2, l2, y2, z2⟩, st2⟩ := X1.privateBack hx (y := (⟨"com/example/hintikka/hintikka/domain/ConstraintNetwork", "checkVariable", "(I)I"⟩ : MethodName)) hown (mvT hZ (hw _ (List.mem_of_getElem? (i := 129) rfl))) (mvT hZ (hw _ (List.mem_of_getElem? (i := 130) rfl))) (own_selp (mvT hZ (hw _ (List.mem_of_getElem? (i := 2) rfl))) (Cond.privateMethod_at (mvP hZ (hw _ (List.mem_of_getElem? (i := 131) rfl)) (args := #[]))) (mvT hZ (hw _ (List.mem_of_getElem? (i := 130) rfl))) (by decide)) (Cond.privateMethod_at (mvP hZ (hw _ (List.mem_of_getElem? (i := 131) rfl)) (args := #[]))) (mvT hZ (hw _ (List.mem_of_getElem? (i := 132) rfl))) (by decide) (backOf (W := 0) (rmCV l Z a0 hw [] cn pg al h0 n0 Z0 FC EA FS h3 h4) hZ (hw _ (List.mem_of_getElem? (i := 132) rfl)) (hw _ (List.mem_of_getElem? (i := 3) rfl)) (by decide) (by decide)) (g := (mkF m 8 #[.val (.ref cn), .val (.int pl), .val (.int pr), .val (.int pg)] [(.int pg), (.ref cn)])) rfl (by rw [hml]; rfl) (Steps.refl _) (a := cn) (by rw [eq1]; exact q2) q2' (argsL := [(.int pg)]) (rest := []) (lenOf own_pd7 rfl) rfl (by show 2 * 0 + _ ≤ _; exact Nat.le_of_eq rfl) (hb hby d_prog_14_m_6_8) (fun _ _ => ⟨rfl, eq1, (by decide : 0 + 0 ≤ _), (by decide : 0 + 0 ≤ _)⟩)
  dsimp only [Pt.U, Pt.locs, Pt.cells, Pt.slots] at X2 l2 y2 z2 st2 hQ2
  subst l2 y2 z2
  obtain ⟨rfl, N2q, eq2⟩ := hQ2
  have N2 := Fr.app N1 N2q
  refine own_up (fun _ k => st2.trans k) ?_
  show own_Go p.tables e below _ (T2.setTop (mkF m 11 #[.val (.ref cn), .val (.int pl), .val (.int pr), .val (.int pg)] [(.int pg)]))
  refine own_up (fun _ k => XS.pop X2.here hx rfl (hb hby d_prog_14_m_6_11) rfl rfl k) ?_
  show own_Go p.tables e below _ (T2.setTop (mkF m 12 #[.val (.ref cn), .val (.int pl), .val (.int pr), .val (.int pg)] []))
  refine own_up (fun _ k => XS.aloadN X2.here hx rfl (hb hby d_prog_14_m_6_12) rfl rfl k) ?_
  show own_Go p.tables e below _ (T2.setTop (mkF m 13 #[.val (.ref cn), .val (.int pl), .val (.int pr), .val (.int pg)] [(.ref cn)]))
  obtain ⟨T3, X3, e3, st3⟩ := getF X2 hx hZ hown (host := "") (Or.inl (hw _ (List.mem_of_getElem? (i := 112) rfl))) Via.refl eq2 FQ (g := (mkF m 13 #[.val (.ref cn), .val (.int pl), .val (.int pr), .val (.int pg)] [(.ref cn)])) rfl rfl (hb hby d_prog_14_m_6_13)
  refine own_up st3 ?_
  show own_Go p.tables e below _ (T3.setTop (mkF m 16 #[.val (.ref cn), .val (.int pl), .val (.int pr), .val (.int pg)] [(.int (0 : Int32))]))
  refine own_up (fun _ k => XS.aloadN X3.here hx rfl (hb hby d_prog_14_m_6_16) rfl rfl k) ?_
  show own_Go p.tables e below _ (T3.setTop (mkF m 17 #[.val (.ref cn), .val (.int pl), .val (.int pr), .val (.int pg)] [(.ref cn), (.int (0 : Int32))]))
  obtain ⟨T4, X4, e4, st4⟩ := getF X3 hx hZ hown (host := "") (Or.inl (hw _ (List.mem_of_getElem? (i := 54) rfl))) Via.refl e3 FA0 (g := (mkF m 17 #[.val (.ref cn), .val (.int pl), .val (.int pr), .val (.int pg)] [(.ref cn), (.int (0 : Int32))])) rfl rfl (hb hby d_prog_14_m_6_17)
  refine own_up st4 ?_
  show own_Go p.tables e below _ (T4.setTop (mkF m 20 #[.val (.ref cn), .val (.int pl), .val (.int pr), .val (.int pg)] [(.ref la), (.int (0 : Int32))]))
  obtain ⟨cl5_, Ar5, q5, S5, M5, Hs5, G5⟩ := id (V0)
  refine own_up (fun _ k => X4.arraylength hx (by rw [e4]; exact Ar5.1) (State.isArrayOf_alike hZ.alike Ar5.2.1) (g := (mkF m 20 #[.val (.ref cn), .val (.int pl), .val (.int pr), .val (.int pg)] [(.ref la), (.int (0 : Int32))])) rfl rfl (hb hby d_prog_14_m_6_20) _ k) ?_
  rw [len_of S5 M5]
  show own_Go p.tables e below _ (T4.setTop (mkF m 21 #[.val (.ref cn), .val (.int pl), .val (.int pr), .val (.int pg)] [(.int (16 : Int32)), (.int (0 : Int32))]))
  refine own_up (fun _ k => XS.icmpYes X4.here hx rfl (pc0 := 21) (pc' := 75) rfl (hb hby d_prog_14_m_6_21) rfl (feq (by decide)).2 (by decide) (by decide) k) ?_
  show own_Go p.tables e below _ (T4.setTop (mkF m 75 #[.val (.ref cn), .val (.int pl), .val (.int pr), .val (.int pg)] []))
  refine own_up (fun _ k => XS.aloadN X4.here hx rfl (hb hby d_prog_14_m_6_75) rfl rfl k) ?_
  show own_Go p.tables e below _ (T4.setTop (mkF m 76 #[.val (.ref cn), .val (.int pl), .val (.int pr), .val (.int pg)] [(.ref cn)]))
  obtain ⟨T6, X6, e6, st6⟩ := getF X4 hx hZ hown (host := "") (Or.inl (hw _ (List.mem_of_getElem? (i := 54) rfl))) Via.refl e4 FA0 (g := (mkF m 76 #[.val (.ref cn), .val (.int pl), .val (.int pr), .val (.int pg)] [(.ref cn)])) rfl rfl (hb hby d_prog_14_m_6_76)
  refine own_up st6 ?_
  show own_Go p.tables e below _ (T6.setTop (mkF m 79 #[.val (.ref cn), .val (.int pl), .val (.int pr), .val (.int pg)] [(.ref la)]))
  refine own_up (fun _ k => XS.aloadN X6.here hx rfl (hb hby d_prog_14_m_6_79) rfl rfl k) ?_
  show own_Go p.tables e below _ (T6.setTop (mkF m 80 #[.val (.ref cn), .val (.int pl), .val (.int pr), .val (.int pg)] [(.ref cn), (.ref la)]))
  obtain ⟨T7, X7, e7, st7⟩ := getF X6 hx hZ hown (host := "") (Or.inl (hw _ (List.mem_of_getElem? (i := 112) rfl))) Via.refl e6 FQ (g := (mkF m 80 #[.val (.ref cn), .val (.int pl), .val (.int pr), .val (.int pg)] [(.ref cn), (.ref la)])) rfl rfl (hb hby d_prog_14_m_6_80)
  refine own_up st7 ?_
  show own_Go p.tables e below _ (T7.setTop (mkF m 83 #[.val (.ref cn), .val (.int pl), .val (.int pr), .val (.int pg)] [(.int (0 : Int32)), (.ref la)]))
  refine own_up (fun _ k => XS.iloadN X7.here hx rfl (hb hby d_prog_14_m_6_83) rfl k) ?_
  show own_Go p.tables e below _ (T7.setTop (mkF m 84 #[.val (.ref cn), .val (.int pl), .val (.int pr), .val (.int pg)] [(.int pl), (.int (0 : Int32)), (.ref la)]))
  have hin8 : ¬ ((0 : Int32) < 0 ∨ cl5_.slots.size ≤ ((0 : Int32)).toNatClampNeg) := inb_of S5 ⟨by decide, by decide⟩
  obtain ⟨T8, h8, X8, e8, W8, st8⟩ := stI X7 hx hZ e7 Ar5 (j := (0 : Int32)) hin8 (g := (mkF m 84 #[.val (.ref cn), .val (.int pl), .val (.int pr), .val (.int pg)] [(.int pl), (.int (0 : Int32)), (.ref la)])) rfl rfl (hb hby d_prog_14_m_6_84)
  have V8 : Arv Z h8 la ka .int (16 : Int32) [(.int pl), (.int lx1), (.int lx2), (.int lx3)] (.int (0 : Int32)) := Arv.set Ar5 q5 S5 M5 Hs5 G5 rfl W8 0 rfl (Nat.le_of_ble_eq_true rfl)
  have N8 := Fr.snoc X8 N2 G1
  refine own_up st8 ?_
  show own_Go p.tables e below _ (T8.setTop (mkF m 85 #[.val (.ref cn), .val (.int pl), .val (.int pr), .val (.int pg)] []))
  refine own_up (fun _ k => XS.aloadN X8.here hx rfl (hb hby d_prog_14_m_6_85) rfl rfl k) ?_
  show own_Go p.tables e below _ (T8.setTop (mkF m 86 #[.val (.ref cn), .val (.int pl), .val (.int pr), .val (.int pg)] [(.ref cn)]))
  have f9 : Fld Z h8 cn "com/example/hintikka/hintikka/domain/ConstraintNetwork" "relations" "[I" (.ref re) := (FA1.other W8 (Or.inl nq1))
  obtain ⟨T10, X10, e10, st10⟩ := getF X8 hx hZ hown (host := "") (Or.inl (hw _ (List.mem_of_getElem? (i := 56) rfl))) Via.refl e8 f9 (g := (mkF m 86 #[.val (.ref cn), .val (.int pl), .val (.int pr), .val (.int pg)] [(.ref cn)])) rfl rfl (hb hby d_prog_14_m_6_86)
  refine own_up st10 ?_
  show own_Go p.tables e below _ (T10.setTop (mkF m 89 #[.val (.ref cn), .val (.int pl), .val (.int pr), .val (.int pg)] [(.ref re)]))
  refine own_up (fun _ k => XS.aloadN X10.here hx rfl (hb hby d_prog_14_m_6_89) rfl rfl k) ?_
  show own_Go p.tables e below _ (T10.setTop (mkF m 90 #[.val (.ref cn), .val (.int pl), .val (.int pr), .val (.int pg)] [(.ref cn), (.ref re)]))
  have f11 : Fld Z h8 cn "com/example/hintikka/hintikka/domain/ConstraintNetwork" "size" "I" (.int (0 : Int32)) := (FQ.other W8 (Or.inl nq1))
  obtain ⟨T12, X12, e12, st12⟩ := getF X10 hx hZ hown (host := "") (Or.inl (hw _ (List.mem_of_getElem? (i := 112) rfl))) Via.refl e10 f11 (g := (mkF m 90 #[.val (.ref cn), .val (.int pl), .val (.int pr), .val (.int pg)] [(.ref cn), (.ref re)])) rfl rfl (hb hby d_prog_14_m_6_90)
  refine own_up st12 ?_
  show own_Go p.tables e below _ (T12.setTop (mkF m 93 #[.val (.ref cn), .val (.int pl), .val (.int pr), .val (.int pg)] [(.int (0 : Int32)), (.ref re)]))
  refine own_up (fun _ k => XS.iloadN X12.here hx rfl (hb hby d_prog_14_m_6_93) rfl k) ?_
  show own_Go p.tables e below _ (T12.setTop (mkF m 94 #[.val (.ref cn), .val (.int pl), .val (.int pr), .val (.int pg)] [(.int pr), (.int (0 : Int32)), (.ref re)]))
  have f13 : Arv Z h8 re ke .int (16 : Int32) [(.int rx0), (.int rx1), (.int rx2), (.int rx3)] (.int (0 : Int32)) := (V1.other W8 (Ne.symm nq7))
  obtain ⟨cl14_, Ar14, q14, S14, M14, Hs14, G14⟩ := id (f13)
  have hin15 : ¬ ((0 : Int32) < 0 ∨ cl14_.slots.size ≤ ((0 : Int32)).toNatClampNeg) := inb_of S14 ⟨by decide, by decide⟩
  obtain ⟨T15, h15, X15, e15, W15, st15⟩ := stI X12 hx hZ e12 Ar14 (j := (0 : Int32)) hin15 (g := (mkF m 94 #[.val (.ref cn), .val (.int pl), .val (.int pr), .val (.int pg)] [(.int pr), (.int (0 : Int32)), (.ref re)])) rfl rfl (hb hby d_prog_14_m_6_94)
  have V15 : Arv Z h15 re ke .int (16 : Int32) [(.int pr), (.int rx1), (.int rx2), (.int rx3)] (.int (0 : Int32)) := Arv.set Ar14 q14 S14 M14 Hs14 G14 rfl W15 0 rfl (Nat.le_of_ble_eq_true rfl)
  have N15 := Fr.snoc X15 N8 G2
  refine own_up st15 ?_
  show own_Go p.tables e below _ (T15.setTop (mkF m 95 #[.val (.ref cn), .val (.int pl), .val (.int pr), .val (.int pg)] []))
  refine own_up (fun _ k => XS.aloadN X15.here hx rfl (hb hby d_prog_14_m_6_95) rfl rfl k) ?_
  show own_Go p.tables e below _ (T15.setTop (mkF m 96 #[.val (.ref cn), .val (.int pl), .val (.int pr), .val (.int pg)] [(.ref cn)]))
  have f16 : Fld Z h15 cn "com/example/hintikka/hintikka/domain/ConstraintNetwork" "rights" "[I" (.ref ri) := ((FA2.other W8 (Or.inl nq1)).other W15 (Or.inl nq2))
  obtain ⟨T17, X17, e17, st17⟩ := getF X15 hx hZ hown (host := "") (Or.inl (hw _ (List.mem_of_getElem? (i := 58) rfl))) Via.refl e15 f16 (g := (mkF m 96 #[.val (.ref cn), .val (.int pl), .val (.int pr), .val (.int pg)] [(.ref cn)])) rfl rfl (hb hby d_prog_14_m_6_96)
  refine own_up st17 ?_
  show own_Go p.tables e below _ (T17.setTop (mkF m 99 #[.val (.ref cn), .val (.int pl), .val (.int pr), .val (.int pg)] [(.ref ri)]))
  refine own_up (fun _ k => XS.aloadN X17.here hx rfl (hb hby d_prog_14_m_6_99) rfl rfl k) ?_
  show own_Go p.tables e below _ (T17.setTop (mkF m 100 #[.val (.ref cn), .val (.int pl), .val (.int pr), .val (.int pg)] [(.ref cn), (.ref ri)]))
  have f18 : Fld Z h15 cn "com/example/hintikka/hintikka/domain/ConstraintNetwork" "size" "I" (.int (0 : Int32)) := (f11.other W15 (Or.inl nq2))
  obtain ⟨T19, X19, e19, st19⟩ := getF X17 hx hZ hown (host := "") (Or.inl (hw _ (List.mem_of_getElem? (i := 112) rfl))) Via.refl e17 f18 (g := (mkF m 100 #[.val (.ref cn), .val (.int pl), .val (.int pr), .val (.int pg)] [(.ref cn), (.ref ri)])) rfl rfl (hb hby d_prog_14_m_6_100)
  refine own_up st19 ?_
  show own_Go p.tables e below _ (T19.setTop (mkF m 103 #[.val (.ref cn), .val (.int pl), .val (.int pr), .val (.int pg)] [(.int (0 : Int32)), (.ref ri)]))
  refine own_up (fun _ k => XS.iloadN X19.here hx rfl (hb hby d_prog_14_m_6_103) rfl k) ?_
  show own_Go p.tables e below _ (T19.setTop (mkF m 104 #[.val (.ref cn), .val (.int pl), .val (.int pr), .val (.int pg)] [(.int pg), (.int (0 : Int32)), (.ref ri)]))
  have f20 : Arv Z h15 ri ki .int (16 : Int32) [(.int w0), (.int w1), (.int w2), (.int w3)] (.int (0 : Int32)) := ((V2.other W8 (Ne.symm nq8)).other W15 (Ne.symm nq9))
  obtain ⟨cl21_, Ar21, q21, S21, M21, Hs21, G21⟩ := id (f20)
  have hin22 : ¬ ((0 : Int32) < 0 ∨ cl21_.slots.size ≤ ((0 : Int32)).toNatClampNeg) := inb_of S21 ⟨by decide, by decide⟩
  obtain ⟨T22, h22, X22, e22, W22, st22⟩ := stI X19 hx hZ e19 Ar21 (j := (0 : Int32)) hin22 (g := (mkF m 104 #[.val (.ref cn), .val (.int pl), .val (.int pr), .val (.int pg)] [(.int pg), (.int (0 : Int32)), (.ref ri)])) rfl rfl (hb hby d_prog_14_m_6_104)
  have V22 : Arv Z h22 ri ki .int (16 : Int32) [(.int pg), (.int w1), (.int w2), (.int w3)] (.int (0 : Int32)) := Arv.set Ar21 q21 S21 M21 Hs21 G21 rfl W22 0 rfl (Nat.le_of_ble_eq_true rfl)
  have N22 := Fr.snoc X22 N15 G3
  refine own_up st22 ?_
  show own_Go p.tables e below _ (T22.setTop (mkF m 105 #[.val (.ref cn), .val (.int pl), .val (.int pr), .val (.int pg)] []))
  refine own_up (fun _ k => XS.aloadN X22.here hx rfl (hb hby d_prog_14_m_6_105) rfl rfl k) ?_
  show own_Go p.tables e below _ (T22.setTop (mkF m 106 #[.val (.ref cn), .val (.int pl), .val (.int pr), .val (.int pg)] [(.ref cn)]))
  refine own_up (fun _ k => XS.dup X22.here hx rfl (hb hby d_prog_14_m_6_106) rfl rfl k) ?_
  show own_Go p.tables e below _ (T22.setTop (mkF m 107 #[.val (.ref cn), .val (.int pl), .val (.int pr), .val (.int pg)] [(.ref cn), (.ref cn)]))
  have f23 : Fld Z h22 cn "com/example/hintikka/hintikka/domain/ConstraintNetwork" "size" "I" (.int (0 : Int32)) := (f18.other W22 (Or.inl nq3))
  obtain ⟨T24, X24, e24, st24⟩ := getF X22 hx hZ hown (host := "") (Or.inl (hw _ (List.mem_of_getElem? (i := 112) rfl))) Via.refl e22 f23 (g := (mkF m 107 #[.val (.ref cn), .val (.int pl), .val (.int pr), .val (.int pg)] [(.ref cn), (.ref cn)])) rfl rfl (hb hby d_prog_14_m_6_107)
  refine own_up st24 ?_
  show own_Go p.tables e below _ (T24.setTop (mkF m 110 #[.val (.ref cn), .val (.int pl), .val (.int pr), .val (.int pg)] [(.int (0 : Int32)), (.ref cn)]))
  refine own_up (fun _ k => XS.iconst X24.here hx rfl (hb hby d_prog_14_m_6_110) k) ?_
  show own_Go p.tables e below _ (T24.setTop (mkF m 111 #[.val (.ref cn), .val (.int pl), .val (.int pr), .val (.int pg)] [(.int (1 : Int32)), (.int (0 : Int32)), (.ref cn)]))
  refine own_up (fun _ k => XS.iadd X24.here hx rfl (hb hby d_prog_14_m_6_111) rfl k) ?_
  show own_Go p.tables e below _ (T24.setTop (mkF m 112 #[.val (.ref cn), .val (.int pl), .val (.int pr), .val (.int pg)] [(.int (1 : Int32)), (.ref cn)]))
  have f25 : Exa Z h22 cn "com/example/hintikka/hintikka/domain/ConstraintNetwork" := (((EC.wr W8).wr W15).wr W22)
  obtain ⟨T26, h26, X26, e26, W26, st26⟩ := putF X24 hx hZ hown (host := "") (Or.inl (hw _ (List.mem_of_getElem? (i := 112) rfl))) Via.refl e24 f23 f25 (Or.inl (hw _ (List.mem_of_getElem? (i := 113) rfl))) (hw _ (List.mem_of_getElem? (i := 2) rfl)) (ty := .int) (by decide) rfl rfl (g := (mkF m 112 #[.val (.ref cn), .val (.int pl), .val (.int pr), .val (.int pg)] [(.int (1 : Int32)), (.ref cn)])) rfl rfl (hb hby d_prog_14_m_6_112)
  have Fw26 := f23.same W26
  have N26 := Fr.snoc X26 N22 G0
  refine own_up st26 ?_
  show own_Go p.tables e below _ (T26.setTop (mkF m 115 #[.val (.ref cn), .val (.int pl), .val (.int pr), .val (.int pg)] []))
  have f27 : Exa Z h26 cn "com/example/hintikka/hintikka/domain/ConstraintNetwork" := (f25.wr W26)
  have f28 : Fld Z h26 cn "com/example/hintikka/hintikka/domain/ConstraintNetwork" "constants" "Ljava/util/List;" (.ref al) := ((((FC.other W8 (Or.inl nq1)).other W15 (Or.inl nq2)).other W22 (Or.inl nq3)).other W26 (Or.inr (slot_ne (Or.inr (hw _ (List.mem_of_getElem? (i := 35) rfl))) (Or.inl (hw _ (List.mem_of_getElem? (i := 113) rfl))) (by decide) (t := (.object "java/util/List")) (t' := .int) (by decide) (by decide))))
  have f29 : Fld Z h26 cn "com/example/hintikka/hintikka/domain/ConstraintNetwork" "lefts" "[I" (.ref la) := ((((FA0.other W8 (Or.inl nq1)).other W15 (Or.inl nq2)).other W22 (Or.inl nq3)).other W26 (Or.inr (slot_ne (Or.inl (hw _ (List.mem_of_getElem? (i := 55) rfl))) (Or.inl (hw _ (List.mem_of_getElem? (i := 113) rfl))) (by decide) (t := (.array .int)) (t' := .int) (by decide) (by decide))))
  have f30 : Fld Z h26 cn "com/example/hintikka/hintikka/domain/ConstraintNetwork" "relations" "[I" (.ref re) := (((f9.other W15 (Or.inl nq2)).other W22 (Or.inl nq3)).other W26 (Or.inr (slot_ne (Or.inl (hw _ (List.mem_of_getElem? (i := 57) rfl))) (Or.inl (hw _ (List.mem_of_getElem? (i := 113) rfl))) (by decide) (t := (.array .int)) (t' := .int) (by decide) (by decide))))
  have f31 : Fld Z h26 cn "com/example/hintikka/hintikka/domain/ConstraintNetwork" "rights" "[I" (.ref ri) := ((f16.other W22 (Or.inl nq3)).other W26 (Or.inr (slot_ne (Or.inl (hw _ (List.mem_of_getElem? (i := 59) rfl))) (Or.inl (hw _ (List.mem_of_getElem? (i := 113) rfl))) (by decide) (t := (.array .int)) (t' := .int) (by decide) (by decide))))
  have f32 : Arv Z h26 la ka .int (16 : Int32) [(.int pl), (.int lx1), (.int lx2), (.int lx3)] (.int (0 : Int32)) := (((V8.other W15 nq7).other W22 nq8).other W26 (Ne.symm nq1))
  have f33 : Arv Z h26 re ke .int (16 : Int32) [(.int pr), (.int rx1), (.int rx2), (.int rx3)] (.int (0 : Int32)) := ((V15.other W22 nq9).other W26 (Ne.symm nq2))
  have f34 : Arv Z h26 ri ki .int (16 : Int32) [(.int pg), (.int w1), (.int w2), (.int w3)] (.int (0 : Int32)) := (V22.other W26 (Ne.symm nq3))
  exact own_end X26 hlk (v := none) (fun _ => rfl) (fun fs hr => X26.returnOut hx Bd.returns (hb hby d_prog_14_m_6_115) hr) e26 ⟨rfl, N26, (((((Keep.refl h0 [cn, la, re, ri]).wr W8 (Or.inl (List.mem_of_getElem? (i := 1) rfl))).wr W15 (Or.inl (List.mem_of_getElem? (i := 2) rfl))).wr W22 (Or.inl (List.mem_of_getElem? (i := 3) rfl))).wr W26 (Or.inl (List.mem_of_getElem? (i := 0) rfl))), f27, f28, f29, f30, f31, Fw26, f32, f33, f34⟩ (by decide) (by decide)
theorem ef_rmAd1 (m : MethodId) (y0 : Addr) (y1 : Int32) (y2 : Int32) (y3 : Int32) : entryFrame m #[(.ref y0), (.int y1), (.int y2), (.int y3)] 4 = mkF m 0 #[.val (.ref y0), .val (.int y1), .val (.int y2), .val (.int y3)] [] := by first | (simp [entryFrame, mkF, argsToLocals, Value.category]; done) | rfl
def Q_rmAd1 (Z : State) (cn : Addr) (pl : Int32) (pr : Int32) (pg : Int32) (al : Addr) (la : Addr) (re : Addr) (ri : Addr) (ka : ClassId) (ke : ClassId) (ki : ClassId) (lx0 : Int32) (lx1 : Int32) (lx2 : Int32) (lx3 : Int32) (rx0 : Int32) (rx1 : Int32) (rx2 : Int32) (rx3 : Int32) (w0 : Int32) (w1 : Int32) (w2 : Int32) (w3 : Int32) (h0 : Heap) (n0 : Nat) (v : Option Value) (h : Heap) (L : List Loc) : Prop := v = none ∧ Fr n0 L ∧ Keep h0 h [cn, la, re, ri] ∧ Exa Z h cn "com/example/hintikka/hintikka/domain/ConstraintNetwork" ∧ Fld Z h cn "com/example/hintikka/hintikka/domain/ConstraintNetwork" "constants" "Ljava/util/List;" (.ref al) ∧ Fld Z h cn "com/example/hintikka/hintikka/domain/ConstraintNetwork" "lefts" "[I" (.ref la) ∧ Fld Z h cn "com/example/hintikka/hintikka/domain/ConstraintNetwork" "relations" "[I" (.ref re) ∧ Fld Z h cn "com/example/hintikka/hintikka/domain/ConstraintNetwork" "rights" "[I" (.ref ri) ∧ Fld Z h cn "com/example/hintikka/hintikka/domain/ConstraintNetwork" "size" "I" (.int (2 : Int32)) ∧ Arv Z h la ka .int (16 : Int32) [(.int lx0), (.int pl), (.int lx2), (.int lx3)] (.int (0 : Int32)) ∧ Arv Z h re ke .int (16 : Int32) [(.int rx0), (.int pr), (.int rx2), (.int rx3)] (.int (0 : Int32)) ∧ Arv Z h ri ki .int (16 : Int32) [(.int w0), (.int pg), (.int w2), (.int w3)] (.int (0 : Int32))
set_option maxRecDepth 65536 in
set_option maxHeartbeats 40000000 in
theorem rmAd1 (l : Launch) (Z : State) (a0 : Array Value) (hw : ∀ d ∈ tables_1, d.before a0 Z = true) (ws : List Jvm.Cond) (cn : Addr) (pl : Int32) (pr : Int32) (pg : Int32) (al : Addr) (la : Addr) (re : Addr) (ri : Addr) (ka : ClassId) (ke : ClassId) (ki : ClassId) (lx0 : Int32) (lx1 : Int32) (lx2 : Int32) (lx3 : Int32) (rx0 : Int32) (rx1 : Int32) (rx2 : Int32) (rx3 : Int32) (w0 : Int32) (w1 : Int32) (w2 : Int32) (w3 : Int32) (h0 : Heap) (n0 : Nat) (Z0 : n0 ≤ h0.size) (EC : Exa Z h0 cn "com/example/hintikka/hintikka/domain/ConstraintNetwork") (FC : Fld Z h0 cn "com/example/hintikka/hintikka/domain/ConstraintNetwork" "constants" "Ljava/util/List;" (.ref al)) (FA0 : Fld Z h0 cn "com/example/hintikka/hintikka/domain/ConstraintNetwork" "lefts" "[I" (.ref la)) (FA1 : Fld Z h0 cn "com/example/hintikka/hintikka/domain/ConstraintNetwork" "relations" "[I" (.ref re)) (FA2 : Fld Z h0 cn "com/example/hintikka/hintikka/domain/ConstraintNetwork" "rights" "[I" (.ref ri)) (EA : Exa Z h0 al "java/util/ArrayList") (FS : Fld Z h0 al "java/util/ArrayList" "size" "I" (.int (2 : Int32))) (FQ : Fld Z h0 cn "com/example/hintikka/hintikka/domain/ConstraintNetwork" "size" "I" (.int (1 : Int32))) (V0 : Arv Z h0 la ka .int (16 : Int32) [(.int lx0), (.int lx1), (.int lx2), (.int lx3)] (.int (0 : Int32))) (V1 : Arv Z h0 re ke .int (16 : Int32) [(.int rx0), (.int rx1), (.int rx2), (.int rx3)] (.int (0 : Int32))) (V2 : Arv Z h0 ri ki .int (16 : Int32) [(.int w0), (.int w1), (.int w2), (.int w3)] (.int (0 : Int32))) (G0 : n0 ≤ cn) (G1 : n0 ≤ la) (G2 : n0 ≤ re) (G3 : n0 ≤ ri) (nq0 : cn ≠ al) (nq1 : cn ≠ la) (nq2 : cn ≠ re) (nq3 : cn ≠ ri) (nq4 : al ≠ la) (nq5 : al ≠ re) (nq6 : al ≠ ri) (nq7 : la ≠ re) (nq8 : la ≠ ri) (nq9 : re ≠ ri) (h1 : ¬ pl < (0 : Int32)) (h2 : pl < (2 : Int32)) (h3 : ¬ pg < (0 : Int32)) (h4 : pg < (2 : Int32)) :
    MetFree l (⟨"com/example/hintikka/hintikka/domain/ConstraintNetwork", "add", "(III)V"⟩ : MethodName) (head1 (Jvm.Cond.code (⟨"com/example/hintikka/hintikka/domain/ConstraintNetwork", "add", "(III)V"⟩ : MethodName) prog_14_method_6_code 4 none :: ws) ({ frames := 2, cells := 0, slots := 0, locals := 26 } : Room)) (fun ar U => ar = #[(.ref cn), (.int pl), (.int pr), (.int pg)] ∧ Z.Warmed39 U.vm ∧ U.heap = h0) (fun _ _ _ _ _ => True) (fun _ U o U' => ∃ v L, o = .returned v ∧ Q_rmAd1 Z cn pl pr pg al la re ri ka ke ki lx0 lx1 lx2 lx3 rx0 rx1 rx2 rx3 w0 w1 w2 w3 h0 n0 v U'.heap L ∧ FrameEnd U o U' L ({ frames := 2, cells := 0, slots := 0, locals := 26 } : Room).cells ({ frames := 2, cells := 0, slots := 0, locals := 26 } : Room).slots) := by
  refine MetFree.of_bodySF (plainFor_of_name own_pn5) hisR ?_
  intro p e s m args below meth c s₁ Bd hml0 hP hK
  obtain ⟨rfl, hZ, hh⟩ := hP
  have hx := Bd.exec
  have hby := Bd.bytes
  have hlk : meth.locks = false := BodyLoose.notSynchronized Bd
  have hml : c.maxLocals = 4 := hml0
  have hown : s.vm.findClass "com/example/hintikka/hintikka/domain/ConstraintNetwork" = some m.cls := findClass_of_methodNamed Bd.named
  have hnm := (name_of_methodNamed Bd.named Bd.method).1
  have X0 : Stand p l e ({ frames := 2, cells := 0, slots := 0, locals := 26 } : Room) s m #[(.ref cn), (.int pl), (.int pr), (.int pg)] below meth c s₁ [] 0 0 := Stand.of_body Bd
  have e0 : s₁.heap = h0 := by rw [← hh, Bd.state]; rfl
  have N0 := Fr.nil n0
  show own_Go p.tables e below (fun u o => ∃ v L, o = .returned v ∧ Q_rmAd1 Z cn pl pr pg al la re ri ka ke ki lx0 lx1 lx2 lx3 rx0 rx1 rx2 rx3 w0 w1 w2 w3 h0 n0 v u.heap L ∧ FrameEnd s o u L ({ frames := 2, cells := 0, slots := 0, locals := 26 } : Room).cells ({ frames := 2, cells := 0, slots := 0, locals := 26 } : Room).slots) (s₁.setTop (entryFrame m #[(.ref cn), (.int pl), (.int pr), (.int pg)] 4))
  refine own_up (fun _ k => castTop (ef_rmAd1 m cn pl pr pg) k) ?_
  show own_Go p.tables e below _ (s₁.setTop (mkF m 0 #[.val (.ref cn), .val (.int pl), .val (.int pr), .val (.int pg)] []))
  refine own_up (fun _ k => XS.aloadN X0.here hx rfl (hb hby d_prog_14_m_6_0) rfl rfl k) ?_
  show own_Go p.tables e below _ (s₁.setTop (mkF m 1 #[.val (.ref cn), .val (.int pl), .val (.int pr), .val (.int pg)] [(.ref cn)]))
  refine own_up (fun _ k => XS.iloadN X0.here hx rfl (hb hby d_prog_14_m_6_1) rfl k) ?_
  show own_Go p.tables e below _ (s₁.setTop (mkF m 2 #[.val (.ref cn), .val (.int pl), .val (.int pr), .val (.int pg)] [(.int pl), (.ref cn)]))
  obtain ⟨cq1, q1, q1'⟩ := (EC).cell
  obtain ⟨_, _, ⟨T1, L1, k1, n1⟩, -, X1, ⟨Lc1, hQ1, l1, y1, z1⟩, st1⟩ := X0.privateBack hx (y := (⟨"com/example/hintikka/hintikka/domain/ConstraintNetwork", "checkVariable", "(I)I"⟩ : MethodName)) hown (mvT hZ (hw _ (List.mem_of_getElem? (i := 129) rfl))) (mvT hZ (hw _ (List.mem_of_getElem? (i := 130) rfl))) (own_selp (mvT hZ (hw _ (List.mem_of_getElem? (i := 2) rfl))) (Cond.privateMethod_at (mvP hZ (hw _ (List.mem_of_getElem? (i := 131) rfl)) (args := #[]))) (mvT hZ (hw _ (List.mem_of_getElem? (i := 130) rfl))) (by decide)) (Cond.privateMethod_at (mvP hZ (hw _ (List.mem_of_getElem? (i := 131) rfl)) (args := #[]))) (mvT hZ (hw _ (List.mem_of_getElem? (i := 132) rfl))) (by decide) (backOf (W := 0) (rmCV l Z a0 hw [] cn pl al h0 n0 Z0 FC EA FS h1 h2) hZ (hw _ (List.mem_of_getElem? (i := 132) rfl)) (hw _ (List.mem_of_getElem? (i := 3) rfl)) (by decide) (by decide)) (g := (mkF m 2 #[.val (.ref cn), .val (.int pl), .val (.int pr), .val (.int pg)] [(.int pl), (.ref cn)])) rfl (by rw [hml]; rfl) (Steps.refl _) (a := cn) (by rw [e0]; exact q1) q1' (argsL := [(.int pl)]) (rest := []) (lenOf own_pd7 rfl) rfl (by show 2 * 0 + _ ≤ _; exact Nat.le_of_eq rfl) (hb hby d_prog_14_m_6_2) (fun _ _ => ⟨rfl, e0, (by decide : 0 + 0 ≤ _), (by decide : 0 + 0 ≤ _)⟩)
  dsimp only [Pt.U, Pt.locs, Pt.cells, Pt.slots] at X1 l1 y1 z1 st1 hQ1
  subst l1 y1 z1
  obtain ⟨rfl, N1q, eq1⟩ := hQ1
  have N1 := Fr.app N0 N1q
  refine own_up (fun _ k => st1.trans k) ?_
  show own_Go p.tables e below _ (T1.setTop (mkF m 5 #[.val (.ref cn), .val (.int pl), .val (.int pr), .val (.int pg)] [(.int pl)]))
  refine own_up (fun _ k => XS.pop X1.here hx rfl (hb hby d_prog_14_m_6_5) rfl rfl k) ?_
  show own_Go p.tables e below _ (T1.setTop (mkF m 6 #[.val (.ref cn), .val (.int pl), .val (.int pr), .val (.int pg)] []))
  refine own_up (fun _ k => XS.aloadN X1.here hx rfl (hb hby d_prog_14_m_6_6) rfl rfl k) ?_
  show own_Go p.tables e below _ (T1.setTop (mkF m 7 #[.val (.ref cn), .val (.int pl), .val (.int pr), .val (.int pg)] [(.ref cn)]))
  refine own_up (fun _ k => XS.iloadN X1.here hx rfl (hb hby d_prog_14_m_6_7) rfl k) ?_
  show own_Go p.tables e below _ (T1.setTop (mkF m 8 #[.val (.ref cn), .val (.int pl), .val (.int pr), .val (.int pg)] [(.int pg), (.ref cn)]))
  obtain ⟨cq2, q2, q2'⟩ := (EC).cell
  obtain ⟨_, _, ⟨T2, L2, k2, n2⟩, -, X2, ⟨Lc2, hQ2, l2, y2, z2⟩, st2⟩ := X1.privateBack hx (y := (⟨"com/example/hintikka/hintikka/domain/ConstraintNetwork", "checkVariable", "(I)I"⟩ : MethodName)) hown (mvT hZ (hw _ (List.mem_of_getElem? (i := 129) rfl))) (mvT hZ (hw _ (List.mem_of_getElem? (i := 130) rfl))) (own_selp (mvT hZ (hw _ (List.mem_of_getElem? (i := 2) rfl))) (Cond.privateMethod_at (mvP hZ (hw _ (List.mem_of_getElem? (i := 131) rfl)) (args := #[]))) (mvT hZ (hw _ (List.mem_of_getElem? (i := 130) rfl))) (by decide)) (Cond.privateMethod_at (mvP hZ (hw _ (List.mem_of_getElem? (i := 131) rfl)) (args := #[]))) (mvT hZ (hw _ (List.mem_of_getElem? (i := 132) rfl))) (by decide) (backOf (W := 0) (rmCV l Z a0 hw [] cn pg al h0 n0 Z0 FC EA FS h3 h4) hZ (hw _ (List.mem_of_getElem? (i := 132) rfl)) (hw _ (List.mem_of_getElem? (i := 3) rfl)) (by decide) (by decide)) (g := (mkF m 8 #[.val (.ref cn), .val (.int pl), .val (.int pr), .val (.int pg)] [(.int pg), (.ref cn)])) rfl (by rw [hml]; rfl) (Steps.refl _) (a := cn) (by rw [eq1]; exact q2) q2' (argsL := [(.int pg)]) (rest := []) (lenOf own_pd7 rfl) rfl (by show 2 * 0 + _ ≤ _; exact Nat.le_of_eq rfl) (hb hby d_prog_14_m_6_8) (fun _ _ => ⟨rfl, eq1, (by decide : 0 + 0 ≤ _), (by decide : 0 + 0 ≤ _)⟩)
  dsimp only [Pt.U, Pt.locs, Pt.cells, Pt.slots] at X2 l2 y2 z2 st2 hQ2
  subst l2 y2 z2
  obtain ⟨rfl, N2q, eq2⟩ := hQ2
  have N2 := Fr.app N1 N2q
  refine own_up (fun _ k => st2.trans k) ?_
  show own_Go p.tables e below _ (T2.setTop (mkF m 11 #[.val (.ref cn), .val (.int pl), .val (.int pr), .val (.int pg)] [(.int pg)]))
  refine own_up (fun _ k => XS.pop X2.here hx rfl (hb hby d_prog_14_m_6_11) rfl rfl k) ?_
  show own_Go p.tables e below _ (T2.setTop (mkF m 12 #[.val (.ref cn), .val (.int pl), .val (.int pr), .val (.int pg)] []))
  refine own_up (fun _ k => XS.aloadN X2.here hx rfl (hb hby d_prog_14_m_6_12) rfl rfl k) ?_
  show own_Go p.tables e below _ (T2.setTop (mkF m 13 #[.val (.ref cn), .val (.int pl), .val (.int pr), .val (.int pg)] [(.ref cn)]))
  obtain ⟨T3, X3, e3, st3⟩ := getF X2 hx hZ hown (host := "") (Or.inl (hw _ (List.mem_of_getElem? (i := 112) rfl))) Via.refl eq2 FQ (g := (mkF m 13 #[.val (.ref cn), .val (.int pl), .val (.int pr), .val (.int pg)] [(.ref cn)])) rfl rfl (hb hby d_prog_14_m_6_13)
  refine own_up st3 ?_
  show own_Go p.tables e below _ (T3.setTop (mkF m 16 #[.val (.ref cn), .val (.int pl), .val (.int pr), .val (.int pg)] [(.int (1 : Int32))]))
  refine own_up (fun _ k => XS.aloadN X3.here hx rfl (hb hby d_prog_14_m_6_16) rfl rfl k) ?_
  show own_Go p.tables e below _ (T3.setTop (mkF m 17 #[.val (.ref cn), .val (.int pl), .val (.int pr), .val (.int pg)] [(.ref cn), (.int (1 : Int32))]))
  obtain ⟨T4, X4, e4, st4⟩ := getF X3 hx hZ hown (host := "") (Or.inl (hw _ (List.mem_of_getElem? (i := 54) rfl))) Via.refl e3 FA0 (g := (mkF m 17 #[.val (.ref cn), .val (.int pl), .val (.int pr), .val (.int pg)] [(.ref cn), (.int (1 : Int32))])) rfl rfl (hb hby d_prog_14_m_6_17)
  refine own_up st4 ?_
  show own_Go p.tables e below _ (T4.setTop (mkF m 20 #[.val (.ref cn), .val (.int pl), .val (.int pr), .val (.int pg)] [(.ref la), (.int (1 : Int32))]))
  obtain ⟨cl5_, Ar5, q5, S5, M5, Hs5, G5⟩ := id (V0)
  refine own_up (fun _ k => X4.arraylength hx (by rw [e4]; exact Ar5.1) (State.isArrayOf_alike hZ.alike Ar5.2.1) (g := (mkF m 20 #[.val (.ref cn), .val (.int pl), .val (.int pr), .val (.int pg)] [(.ref la), (.int (1 : Int32))])) rfl rfl (hb hby d_prog_14_m_6_20) _ k) ?_
  rw [len_of S5 M5]
  show own_Go p.tables e below _ (T4.setTop (mkF m 21 #[.val (.ref cn), .val (.int pl), .val (.int pr), .val (.int pg)] [(.int (16 : Int32)), (.int (1 : Int32))]))
  refine own_up (fun _ k => XS.icmpYes X4.here hx rfl (pc0 := 21) (pc' := 75) rfl (hb hby d_prog_14_m_6_21) rfl (feq (by decide)).2 (by decide) (by decide) k) ?_
  show own_Go p.tables e below _ (T4.setTop (mkF m 75 #[.val (.ref cn), .val (.int pl), .val (.int pr), .val (.int pg)] []))
  refine own_up (fun _ k => XS.aloadN X4.here hx rfl (hb hby d_prog_14_m_6_75) rfl rfl k) ?_
  show own_Go p.tables e below _ (T4.setTop (mkF m 76 #[.val (.ref cn), .val (.int pl), .val (.int pr), .val (.int pg)] [(.ref cn)]))
  obtain ⟨T6, X6, e6, st6⟩ := getF X4 hx hZ hown (host := "") (Or.inl (hw _ (List.mem_of_getElem? (i := 54) rfl))) Via.refl e4 FA0 (g := (mkF m 76 #[.val (.ref cn), .val (.int pl), .val (.int pr), .val (.int pg)] [(.ref cn)])) rfl rfl (hb hby d_prog_14_m_6_76)
  refine own_up st6 ?_
  show own_Go p.tables e below _ (T6.setTop (mkF m 79 #[.val (.ref cn), .val (.int pl), .val (.int pr), .val (.int pg)] [(.ref la)]))
  refine own_up (fun _ k => XS.aloadN X6.here hx rfl (hb hby d_prog_14_m_6_79) rfl rfl k) ?_
  show own_Go p.tables e below _ (T6.setTop (mkF m 80 #[.val (.ref cn), .val (.int pl), .val (.int pr), .val (.int pg)] [(.ref cn), (.ref la)]))
  obtain ⟨T7, X7, e7, st7⟩ := getF X6 hx hZ hown (host := "") (Or.inl (hw _ (List.mem_of_getElem? (i := 112) rfl))) Via.refl e6 FQ (g := (mkF m 80 #[.val (.ref cn), .val (.int pl), .val (.int pr), .val (.int pg)] [(.ref cn), (.ref la)])) rfl rfl (hb hby d_prog_14_m_6_80)
  refine own_up st7 ?_
  show own_Go p.tables e below _ (T7.setTop (mkF m 83 #[.val (.ref cn), .val (.int pl), .val (.int pr), .val (.int pg)] [(.int (1 : Int32)), (.ref la)]))
  refine own_up (fun _ k => XS.iloadN X7.here hx rfl (hb hby d_prog_14_m_6_83) rfl k) ?_
  show own_Go p.tables e below _ (T7.setTop (mkF m 84 #[.val (.ref cn), .val (.int pl), .val (.int pr), .val (.int pg)] [(.int pl), (.int (1 : Int32)), (.ref la)]))
  have hin8 : ¬ ((1 : Int32) < 0 ∨ cl5_.slots.size ≤ ((1 : Int32)).toNatClampNeg) := inb_of S5 ⟨by decide, by decide⟩
  obtain ⟨T8, h8, X8, e8, W8, st8⟩ := stI X7 hx hZ e7 Ar5 (j := (1 : Int32)) hin8 (g := (mkF m 84 #[.val (.ref cn), .val (.int pl), .val (.int pr), .val (.int pg)] [(.int pl), (.int (1 : Int32)), (.ref la)])) rfl rfl (hb hby d_prog_14_m_6_84)
  have V8 : Arv Z h8 la ka .int (16 : Int32) [(.int lx0), (.int pl), (.int lx2), (.int lx3)] (.int (0 : Int32)) := Arv.set Ar5 q5 S5 M5 Hs5 G5 rfl W8 1 rfl (Nat.le_of_ble_eq_true rfl)
  have N8 := Fr.snoc X8 N2 G1
  refine own_up st8 ?_
  show own_Go p.tables e below _ (T8.setTop (mkF m 85 #[.val (.ref cn), .val (.int pl), .val (.int pr), .val (.int pg)] []))
  refine own_up (fun _ k => XS.aloadN X8.here hx rfl (hb hby d_prog_14_m_6_85) rfl rfl k) ?_
  show own_Go p.tables e below _ (T8.setTop (mkF m 86 #[.val (.ref cn), .val (.int pl), .val (.int pr), .val (.int pg)] [(.ref cn)]))
  have f9 : Fld Z h8 cn "com/example/hintikka/hintikka/domain/ConstraintNetwork" "relations" "[I" (.ref re) := (FA1.other W8 (Or.inl nq1))
  obtain ⟨T10, X10, e10, st10⟩ := getF X8 hx hZ hown (host := "") (Or.inl (hw _ (List.mem_of_getElem? (i := 56) rfl))) Via.refl e8 f9 (g := (mkF m 86 #[.val (.ref cn), .val (.int pl), .val (.int pr), .val (.int pg)] [(.ref cn)])) rfl rfl (hb hby d_prog_14_m_6_86)
  refine own_up st10 ?_
  show own_Go p.tables e below _ (T10.setTop (mkF m 89 #[.val (.ref cn), .val (.int pl), .val (.int pr), .val (.int pg)] [(.ref re)]))
  refine own_up (fun _ k => XS.aloadN X10.here hx rfl (hb hby d_prog_14_m_6_89) rfl rfl k) ?_
  show own_Go p.tables e below _ (T10.setTop (mkF m 90 #[.val (.ref cn), .val (.int pl), .val (.int pr), .val (.int pg)] [(.ref cn), (.ref re)]))
  have f11 : Fld Z h8 cn "com/example/hintikka/hintikka/domain/ConstraintNetwork" "size" "I" (.int (1 : Int32)) := (FQ.other W8 (Or.inl nq1))
  obtain ⟨T12, X12, e12, st12⟩ := getF X10 hx hZ hown (host := "") (Or.inl (hw _ (List.mem_of_getElem? (i := 112) rfl))) Via.refl e10 f11 (g := (mkF m 90 #[.val (.ref cn), .val (.int pl), .val (.int pr), .val (.int pg)] [(.ref cn), (.ref re)])) rfl rfl (hb hby d_prog_14_m_6_90)
  refine own_up st12 ?_
  show own_Go p.tables e below _ (T12.setTop (mkF m 93 #[.val (.ref cn), .val (.int pl), .val (.int pr), .val (.int pg)] [(.int (1 : Int32)), (.ref re)]))
  refine own_up (fun _ k => XS.iloadN X12.here hx rfl (hb hby d_prog_14_m_6_93) rfl k) ?_
  show own_Go p.tables e below _ (T12.setTop (mkF m 94 #[.val (.ref cn), .val (.int pl), .val (.int pr), .val (.int pg)] [(.int pr), (.int (1 : Int32)), (.ref re)]))
  have f13 : Arv Z h8 re ke .int (16 : Int32) [(.int rx0), (.int rx1), (.int rx2), (.int rx3)] (.int (0 : Int32)) := (V1.other W8 (Ne.symm nq7))
  obtain ⟨cl14_, Ar14, q14, S14, M14, Hs14, G14⟩ := id (f13)
  have hin15 : ¬ ((1 : Int32) < 0 ∨ cl14_.slots.size ≤ ((1 : Int32)).toNatClampNeg) := inb_of S14 ⟨by decide, by decide⟩
  obtain ⟨T15, h15, X15, e15, W15, st15⟩ := stI X12 hx hZ e12 Ar14 (j := (1 : Int32)) hin15 (g := (mkF m 94 #[.val (.ref cn), .val (.int pl), .val (.int pr), .val (.int pg)] [(.int pr), (.int (1 : Int32)), (.ref re)])) rfl rfl (hb hby d_prog_14_m_6_94)
  have V15 : Arv Z h15 re ke .int (16 : Int32) [(.int rx0), (.int pr), (.int rx2), (.int rx3)] (.int (0 : Int32)) := Arv.set Ar14 q14 S14 M14 Hs14 G14 rfl W15 1 rfl (Nat.le_of_ble_eq_true rfl)
  have N15 := Fr.snoc X15 N8 G2
  refine own_up st15 ?_
  show own_Go p.tables e below _ (T15.setTop (mkF m 95 #[.val (.ref cn), .val (.int pl), .val (.int pr), .val (.int pg)] []))
  refine own_up (fun _ k => XS.aloadN X15.here hx rfl (hb hby d_prog_14_m_6_95) rfl rfl k) ?_
  show own_Go p.tables e below _ (T15.setTop (mkF m 96 #[.val (.ref cn), .val (.int pl), .val (.int pr), .val (.int pg)] [(.ref cn)]))
  have f16 : Fld Z h15 cn "com/example/hintikka/hintikka/domain/ConstraintNetwork" "rights" "[I" (.ref ri) := ((FA2.other W8 (Or.inl nq1)).other W15 (Or.inl nq2))
  obtain ⟨T17, X17, e17, st17⟩ := getF X15 hx hZ hown (host := "") (Or.inl (hw _ (List.mem_of_getElem? (i := 58) rfl))) Via.refl e15 f16 (g := (mkF m 96 #[.val (.ref cn), .val (.int pl), .val (.int pr), .val (.int pg)] [(.ref cn)])) rfl rfl (hb hby d_prog_14_m_6_96)
  refine own_up st17 ?_
  show own_Go p.tables e below _ (T17.setTop (mkF m 99 #[.val (.ref cn), .val (.int pl), .val (.int pr), .val (.int pg)] [(.ref ri)]))
  refine own_up (fun _ k => XS.aloadN X17.here hx rfl (hb hby d_prog_14_m_6_99) rfl rfl k) ?_
  show own_Go p.tables e below _ (T17.setTop (mkF m 100 #[.val (.ref cn), .val (.int pl), .val (.int pr), .val (.int pg)] [(.ref cn), (.ref ri)]))
  have f18 : Fld Z h15 cn "com/example/hintikka/hintikka/domain/ConstraintNetwork" "size" "I" (.int (1 : Int32)) := (f11.other W15 (Or.inl nq2))
  obtain ⟨T19, X19, e19, st19⟩ := getF X17 hx hZ hown (host := "") (Or.inl (hw _ (List.mem_of_getElem? (i := 112) rfl))) Via.refl e17 f18 (g := (mkF m 100 #[.val (.ref cn), .val (.int pl), .val (.int pr), .val (.int pg)] [(.ref cn), (.ref ri)])) rfl rfl (hb hby d_prog_14_m_6_100)
  refine own_up st19 ?_
  show own_Go p.tables e below _ (T19.setTop (mkF m 103 #[.val (.ref cn), .val (.int pl), .val (.int pr), .val (.int pg)] [(.int (1 : Int32)), (.ref ri)]))
  refine own_up (fun _ k => XS.iloadN X19.here hx rfl (hb hby d_prog_14_m_6_103) rfl k) ?_
  show own_Go p.tables e below _ (T19.setTop (mkF m 104 #[.val (.ref cn), .val (.int pl), .val (.int pr), .val (.int pg)] [(.int pg), (.int (1 : Int32)), (.ref ri)]))
  have f20 : Arv Z h15 ri ki .int (16 : Int32) [(.int w0), (.int w1), (.int w2), (.int w3)] (.int (0 : Int32)) := ((V2.other W8 (Ne.symm nq8)).other W15 (Ne.symm nq9))
  obtain ⟨cl21_, Ar21, q21, S21, M21, Hs21, G21⟩ := id (f20)
  have hin22 : ¬ ((1 : Int32) < 0 ∨ cl21_.slots.size ≤ ((1 : Int32)).toNatClampNeg) := inb_of S21 ⟨by decide, by decide⟩
  obtain ⟨T22, h22, X22, e22, W22, st22⟩ := stI X19 hx hZ e19 Ar21 (j := (1 : Int32)) hin22 (g := (mkF m 104 #[.val (.ref cn), .val (.int pl), .val (.int pr), .val (.int pg)] [(.int pg), (.int (1 : Int32)), (.ref ri)])) rfl rfl (hb hby d_prog_14_m_6_104)
  have V22 : Arv Z h22 ri ki .int (16 : Int32) [(.int w0), (.int pg), (.int w2), (.int w3)] (.int (0 : Int32)) := Arv.set Ar21 q21 S21 M21 Hs21 G21 rfl W22 1 rfl (Nat.le_of_ble_eq_true rfl)
  have N22 := Fr.snoc X22 N15 G3
  refine own_up st22 ?_
  show own_Go p.tables e below _ (T22.setTop (mkF m 105 #[.val (.ref cn), .val (.int pl), .val (.int pr), .val (.int pg)] []))
  refine own_up (fun _ k => XS.aloadN X22.here hx rfl (hb hby d_prog_14_m_6_105) rfl rfl k) ?_
  show own_Go p.tables e below _ (T22.setTop (mkF m 106 #[.val (.ref cn), .val (.int pl), .val (.int pr), .val (.int pg)] [(.ref cn)]))
  refine own_up (fun _ k => XS.dup X22.here hx rfl (hb hby d_prog_14_m_6_106) rfl rfl k) ?_
  show own_Go p.tables e below _ (T22.setTop (mkF m 107 #[.val (.ref cn), .val (.int pl), .val (.int pr), .val (.int pg)] [(.ref cn), (.ref cn)]))
  have f23 : Fld Z h22 cn "com/example/hintikka/hintikka/domain/ConstraintNetwork" "size" "I" (.int (1 : Int32)) := (f18.other W22 (Or.inl nq3))
  obtain ⟨T24, X24, e24, st24⟩ := getF X22 hx hZ hown (host := "") (Or.inl (hw _ (List.mem_of_getElem? (i := 112) rfl))) Via.refl e22 f23 (g := (mkF m 107 #[.val (.ref cn), .val (.int pl), .val (.int pr), .val (.int pg)] [(.ref cn), (.ref cn)])) rfl rfl (hb hby d_prog_14_m_6_107)
  refine own_up st24 ?_
  show own_Go p.tables e below _ (T24.setTop (mkF m 110 #[.val (.ref cn), .val (.int pl), .val (.int pr), .val (.int pg)] [(.int (1 : Int32)), (.ref cn)]))
  refine own_up (fun _ k => XS.iconst X24.here hx rfl (hb hby d_prog_14_m_6_110) k) ?_
  show own_Go p.tables e below _ (T24.setTop (mkF m 111 #[.val (.ref cn), .val (.int pl), .val (.int pr), .val (.int pg)] [(.int (1 : Int32)), (.int (1 : Int32)), (.ref cn)]))
  refine own_up (fun _ k => XS.iadd X24.here hx rfl (hb hby d_prog_14_m_6_111) rfl k) ?_
  show own_Go p.tables e below _ (T24.setTop (mkF m 112 #[.val (.ref cn), .val (.int pl), .val (.int pr), .val (.int pg)] [(.int (2 : Int32)), (.ref cn)]))
  have f25 : Exa Z h22 cn "com/example/hintikka/hintikka/domain/ConstraintNetwork" := (((EC.wr W8).wr W15).wr W22)
  obtain ⟨T26, h26, X26, e26, W26, st26⟩ := putF X24 hx hZ hown (host := "") (Or.inl (hw _ (List.mem_of_getElem? (i := 112) rfl))) Via.refl e24 f23 f25 (Or.inl (hw _ (List.mem_of_getElem? (i := 113) rfl))) (hw _ (List.mem_of_getElem? (i := 2) rfl)) (ty := .int) (by decide) rfl rfl (g := (mkF m 112 #[.val (.ref cn), .val (.int pl), .val (.int pr), .val (.int pg)] [(.int (2 : Int32)), (.ref cn)])) rfl rfl (hb hby d_prog_14_m_6_112)
  have Fw26 := f23.same W26
  have N26 := Fr.snoc X26 N22 G0
  refine own_up st26 ?_
  show own_Go p.tables e below _ (T26.setTop (mkF m 115 #[.val (.ref cn), .val (.int pl), .val (.int pr), .val (.int pg)] []))
  have f27 : Exa Z h26 cn "com/example/hintikka/hintikka/domain/ConstraintNetwork" := (f25.wr W26)
  have f28 : Fld Z h26 cn "com/example/hintikka/hintikka/domain/ConstraintNetwork" "constants" "Ljava/util/List;" (.ref al) := ((((FC.other W8 (Or.inl nq1)).other W15 (Or.inl nq2)).other W22 (Or.inl nq3)).other W26 (Or.inr (slot_ne (Or.inr (hw _ (List.mem_of_getElem? (i := 35) rfl))) (Or.inl (hw _ (List.mem_of_getElem? (i := 113) rfl))) (by decide) (t := (.object "java/util/List")) (t' := .int) (by decide) (by decide))))
  have f29 : Fld Z h26 cn "com/example/hintikka/hintikka/domain/ConstraintNetwork" "lefts" "[I" (.ref la) := ((((FA0.other W8 (Or.inl nq1)).other W15 (Or.inl nq2)).other W22 (Or.inl nq3)).other W26 (Or.inr (slot_ne (Or.inl (hw _ (List.mem_of_getElem? (i := 55) rfl))) (Or.inl (hw _ (List.mem_of_getElem? (i := 113) rfl))) (by decide) (t := (.array .int)) (t' := .int) (by decide) (by decide))))
  have f30 : Fld Z h26 cn "com/example/hintikka/hintikka/domain/ConstraintNetwork" "relations" "[I" (.ref re) := (((f9.other W15 (Or.inl nq2)).other W22 (Or.inl nq3)).other W26 (Or.inr (slot_ne (Or.inl (hw _ (List.mem_of_getElem? (i := 57) rfl))) (Or.inl (hw _ (List.mem_of_getElem? (i := 113) rfl))) (by decide) (t := (.array .int)) (t' := .int) (by decide) (by decide))))
  have f31 : Fld Z h26 cn "com/example/hintikka/hintikka/domain/ConstraintNetwork" "rights" "[I" (.ref ri) := ((f16.other W22 (Or.inl nq3)).other W26 (Or.inr (slot_ne (Or.inl (hw _ (List.mem_of_getElem? (i := 59) rfl))) (Or.inl (hw _ (List.mem_of_getElem? (i := 113) rfl))) (by decide) (t := (.array .int)) (t' := .int) (by decide) (by decide))))
  have f32 : Arv Z h26 la ka .int (16 : Int32) [(.int lx0), (.int pl), (.int lx2), (.int lx3)] (.int (0 : Int32)) := (((V8.other W15 nq7).other W22 nq8).other W26 (Ne.symm nq1))
  have f33 : Arv Z h26 re ke .int (16 : Int32) [(.int rx0), (.int pr), (.int rx2), (.int rx3)] (.int (0 : Int32)) := ((V15.other W22 nq9).other W26 (Ne.symm nq2))
  have f34 : Arv Z h26 ri ki .int (16 : Int32) [(.int w0), (.int pg), (.int w2), (.int w3)] (.int (0 : Int32)) := (V22.other W26 (Ne.symm nq3))
  exact own_end X26 hlk (v := none) (fun _ => rfl) (fun fs hr => X26.returnOut hx Bd.returns (hb hby d_prog_14_m_6_115) hr) e26 ⟨rfl, N26, (((((Keep.refl h0 [cn, la, re, ri]).wr W8 (Or.inl (List.mem_of_getElem? (i := 1) rfl))).wr W15 (Or.inl (List.mem_of_getElem? (i := 2) rfl))).wr W22 (Or.inl (List.mem_of_getElem? (i := 3) rfl))).wr W26 (Or.inl (List.mem_of_getElem? (i := 0) rfl))), f27, f28, f29, f30, f31, Fw26, f32, f33, f34⟩ (by decide) (by decide)
theorem ef_rmAd2 (m : MethodId) (y0 : Addr) (y1 : Int32) (y2 : Int32) (y3 : Int32) : entryFrame m #[(.ref y0), (.int y1), (.int y2), (.int y3)] 4 = mkF m 0 #[.val (.ref y0), .val (.int y1), .val (.int y2), .val (.int y3)] [] := by first | (simp [entryFrame, mkF, argsToLocals, Value.category]; done) | rfl
def Q_rmAd2 (Z : State) (cn : Addr) (pl : Int32) (pr : Int32) (pg : Int32) (al : Addr) (la : Addr) (re : Addr) (ri : Addr) (ka : ClassId) (ke : ClassId) (ki : ClassId) (lx0 : Int32) (lx1 : Int32) (lx2 : Int32) (lx3 : Int32) (rx0 : Int32) (rx1 : Int32) (rx2 : Int32) (rx3 : Int32) (w0 : Int32) (w1 : Int32) (w2 : Int32) (w3 : Int32) (h0 : Heap) (n0 : Nat) (v : Option Value) (h : Heap) (L : List Loc) : Prop := v = none ∧ Fr n0 L ∧ Keep h0 h [cn, la, re, ri] ∧ Exa Z h cn "com/example/hintikka/hintikka/domain/ConstraintNetwork" ∧ Fld Z h cn "com/example/hintikka/hintikka/domain/ConstraintNetwork" "constants" "Ljava/util/List;" (.ref al) ∧ Fld Z h cn "com/example/hintikka/hintikka/domain/ConstraintNetwork" "lefts" "[I" (.ref la) ∧ Fld Z h cn "com/example/hintikka/hintikka/domain/ConstraintNetwork" "relations" "[I" (.ref re) ∧ Fld Z h cn "com/example/hintikka/hintikka/domain/ConstraintNetwork" "rights" "[I" (.ref ri) ∧ Fld Z h cn "com/example/hintikka/hintikka/domain/ConstraintNetwork" "size" "I" (.int (3 : Int32)) ∧ Arv Z h la ka .int (16 : Int32) [(.int lx0), (.int lx1), (.int pl), (.int lx3)] (.int (0 : Int32)) ∧ Arv Z h re ke .int (16 : Int32) [(.int rx0), (.int rx1), (.int pr), (.int rx3)] (.int (0 : Int32)) ∧ Arv Z h ri ki .int (16 : Int32) [(.int w0), (.int w1), (.int pg), (.int w3)] (.int (0 : Int32))
set_option maxRecDepth 65536 in
set_option maxHeartbeats 40000000 in
theorem rmAd2 (l : Launch) (Z : State) (a0 : Array Value) (hw : ∀ d ∈ tables_1, d.before a0 Z = true) (ws : List Jvm.Cond) (cn : Addr) (pl : Int32) (pr : Int32) (pg : Int32) (al : Addr) (la : Addr) (re : Addr) (ri : Addr) (ka : ClassId) (ke : ClassId) (ki : ClassId) (lx0 : Int32) (lx1 : Int32) (lx2 : Int32) (lx3 : Int32) (rx0 : Int32) (rx1 : Int32) (rx2 : Int32) (rx3 : Int32) (w0 : Int32) (w1 : Int32) (w2 : Int32) (w3 : Int32) (h0 : Heap) (n0 : Nat) (Z0 : n0 ≤ h0.size) (EC : Exa Z h0 cn "com/example/hintikka/hintikka/domain/ConstraintNetwork") (FC : Fld Z h0 cn "com/example/hintikka/hintikka/domain/ConstraintNetwork" "constants" "Ljava/util/List;" (.ref al)) (FA0 : Fld Z h0 cn "com/example/hintikka/hintikka/domain/ConstraintNetwork" "lefts" "[I" (.ref la)) (FA1 : Fld Z h0 cn "com/example/hintikka/hintikka/domain/ConstraintNetwork" "relations" "[I" (.ref re)) (FA2 : Fld Z h0 cn "com/example/hintikka/hintikka/domain/ConstraintNetwork" "rights" "[I" (.ref ri)) (EA : Exa Z h0 al "java/util/ArrayList") (FS : Fld Z h0 al "java/util/ArrayList" "size" "I" (.int (2 : Int32))) (FQ : Fld Z h0 cn "com/example/hintikka/hintikka/domain/ConstraintNetwork" "size" "I" (.int (2 : Int32))) (V0 : Arv Z h0 la ka .int (16 : Int32) [(.int lx0), (.int lx1), (.int lx2), (.int lx3)] (.int (0 : Int32))) (V1 : Arv Z h0 re ke .int (16 : Int32) [(.int rx0), (.int rx1), (.int rx2), (.int rx3)] (.int (0 : Int32))) (V2 : Arv Z h0 ri ki .int (16 : Int32) [(.int w0), (.int w1), (.int w2), (.int w3)] (.int (0 : Int32))) (G0 : n0 ≤ cn) (G1 : n0 ≤ la) (G2 : n0 ≤ re) (G3 : n0 ≤ ri) (nq0 : cn ≠ al) (nq1 : cn ≠ la) (nq2 : cn ≠ re) (nq3 : cn ≠ ri) (nq4 : al ≠ la) (nq5 : al ≠ re) (nq6 : al ≠ ri) (nq7 : la ≠ re) (nq8 : la ≠ ri) (nq9 : re ≠ ri) (h1 : ¬ pl < (0 : Int32)) (h2 : pl < (2 : Int32)) (h3 : ¬ pg < (0 : Int32)) (h4 : pg < (2 : Int32)) :
    MetFree l (⟨"com/example/hintikka/hintikka/domain/ConstraintNetwork", "add", "(III)V"⟩ : MethodName) (head1 (Jvm.Cond.code (⟨"com/example/hintikka/hintikka/domain/ConstraintNetwork", "add", "(III)V"⟩ : MethodName) prog_14_method_6_code 4 none :: ws) ({ frames := 2, cells := 0, slots := 0, locals := 26 } : Room)) (fun ar U => ar = #[(.ref cn), (.int pl), (.int pr), (.int pg)] ∧ Z.Warmed39 U.vm ∧ U.heap = h0) (fun _ _ _ _ _ => True) (fun _ U o U' => ∃ v L, o = .returned v ∧ Q_rmAd2 Z cn pl pr pg al la re ri ka ke ki lx0 lx1 lx2 lx3 rx0 rx1 rx2 rx3 w0 w1 w2 w3 h0 n0 v U'.heap L ∧ FrameEnd U o U' L ({ frames := 2, cells := 0, slots := 0, locals := 26 } : Room).cells ({ frames := 2, cells := 0, slots := 0, locals := 26 } : Room).slots) := by
  refine MetFree.of_bodySF (plainFor_of_name own_pn5) hisR ?_
  intro p e s m args below meth c s₁ Bd hml0 hP hK
  obtain ⟨rfl, hZ, hh⟩ := hP
  have hx := Bd.exec
  have hby := Bd.bytes
  have hlk : meth.locks = false := BodyLoose.notSynchronized Bd
  have hml : c.maxLocals = 4 := hml0
  have hown : s.vm.findClass "com/example/hintikka/hintikka/domain/ConstraintNetwork" = some m.cls := findClass_of_methodNamed Bd.named
  have hnm := (name_of_methodNamed Bd.named Bd.method).1
  have X0 : Stand p l e ({ frames := 2, cells := 0, slots := 0, locals := 26 } : Room) s m #[(.ref cn), (.int pl), (.int pr), (.int pg)] below meth c s₁ [] 0 0 := Stand.of_body Bd
  have e0 : s₁.heap = h0 := by rw [← hh, Bd.state]; rfl
  have N0 := Fr.nil n0
  show own_Go p.tables e below (fun u o => ∃ v L, o = .returned v ∧ Q_rmAd2 Z cn pl pr pg al la re ri ka ke ki lx0 lx1 lx2 lx3 rx0 rx1 rx2 rx3 w0 w1 w2 w3 h0 n0 v u.heap L ∧ FrameEnd s o u L ({ frames := 2, cells := 0, slots := 0, locals := 26 } : Room).cells ({ frames := 2, cells := 0, slots := 0, locals := 26 } : Room).slots) (s₁.setTop (entryFrame m #[(.ref cn), (.int pl), (.int pr), (.int pg)] 4))
  refine own_up (fun _ k => castTop (ef_rmAd2 m cn pl pr pg) k) ?_
  show own_Go p.tables e below _ (s₁.setTop (mkF m 0 #[.val (.ref cn), .val (.int pl), .val (.int pr), .val (.int pg)] []))
  refine own_up (fun _ k => XS.aloadN X0.here hx rfl (hb hby d_prog_14_m_6_0) rfl rfl k) ?_
  show own_Go p.tables e below _ (s₁.setTop (mkF m 1 #[.val (.ref cn), .val (.int pl), .val (.int pr), .val (.int pg)] [(.ref cn)]))
  refine own_up (fun _ k => XS.iloadN X0.here hx rfl (hb hby d_prog_14_m_6_1) rfl k) ?_
  show own_Go p.tables e below _ (s₁.setTop (mkF m 2 #[.val (.ref cn), .val (.int pl), .val (.int pr), .val (.int pg)] [(.int pl), (.ref cn)]))
  obtain ⟨cq1, q1, q1'⟩ := (EC).cell
  obtain ⟨_, _, ⟨T1, L1, k1, n1⟩, -, X1, ⟨Lc1, hQ1, l1, y1, z1⟩, st1⟩ := X0.privateBack hx (y := (⟨"com/example/hintikka/hintikka/domain/ConstraintNetwork", "checkVariable", "(I)I"⟩ : MethodName)) hown (mvT hZ (hw _ (List.mem_of_getElem? (i := 129) rfl))) (mvT hZ (hw _ (List.mem_of_getElem? (i := 130) rfl))) (own_selp (mvT hZ (hw _ (List.mem_of_getElem? (i := 2) rfl))) (Cond.privateMethod_at (mvP hZ (hw _ (List.mem_of_getElem? (i := 131) rfl)) (args := #[]))) (mvT hZ (hw _ (List.mem_of_getElem? (i := 130) rfl))) (by decide)) (Cond.privateMethod_at (mvP hZ (hw _ (List.mem_of_getElem? (i := 131) rfl)) (args := #[]))) (mvT hZ (hw _ (List.mem_of_getElem? (i := 132) rfl))) (by decide) (backOf (W := 0) (rmCV l Z a0 hw [] cn pl al h0 n0 Z0 FC EA FS h1 h2) hZ (hw _ (List.mem_of_getElem? (i := 132) rfl)) (hw _ (List.mem_of_getElem? (i := 3) rfl)) (by decide) (by decide)) (g := (mkF m 2 #[.val (.ref cn), .val (.int pl), .val (.int pr), .val (.int pg)] [(.int pl), (.ref cn)])) rfl (by rw [hml]; rfl) (Steps.refl _) (a := cn) (by rw [e0]; exact q1) q1' (argsL := [(.int pl)]) (rest := []) (lenOf own_pd7 rfl) rfl (by show 2 * 0 + _ ≤ _; exact Nat.le_of_eq rfl) (hb hby d_prog_14_m_6_2) (fun _ _ => ⟨rfl, e0, (by decide : 0 + 0 ≤ _), (by decide : 0 + 0 ≤ _)⟩)
  dsimp only [Pt.U, Pt.locs, Pt.cells, Pt.slots] at X1 l1 y1 z1 st1 hQ1
  subst l1 y1 z1
  obtain ⟨rfl, N1q, eq1⟩ := hQ1
  have N1 := Fr.app N0 N1q
  refine own_up (fun _ k => st1.trans k) ?_
  show own_Go p.tables e below _ (T1.setTop (mkF m 5 #[.val (.ref cn), .val (.int pl), .val (.int pr), .val (.int pg)] [(.int pl)]))
  refine own_up (fun _ k => XS.pop X1.here hx rfl (hb hby d_prog_14_m_6_5) rfl rfl k) ?_
  show own_Go p.tables e below _ (T1.setTop (mkF m 6 #[.val (.ref cn), .val (.int pl), .val (.int pr), .val (.int pg)] []))
  refine own_up (fun _ k => XS.aloadN X1.here hx rfl (hb hby d_prog_14_m_6_6) rfl rfl k) ?_
  show own_Go p.tables e below _ (T1.setTop (mkF m 7 #[.val (.ref cn), .val (.int pl), .val (.int pr), .val (.int pg)] [(.ref cn)]))
  refine own_up (fun _ k => XS.iloadN X1.here hx rfl (hb hby d_prog_14_m_6_7) rfl k) ?_
  show own_Go p.tables e below _ (T1.setTop (mkF m 8 #[.val (.ref cn), .val (.int pl), .val (.int pr), .val (.int pg)] [(.int pg), (.ref cn)]))
  obtain ⟨cq2, q2, q2'⟩ := (EC).cell
  obtain ⟨_, _, ⟨T2, L2, k2, n2⟩, -, X2, ⟨Lc2, hQ2, l2, y2, z2⟩, st2⟩ := X1.privateBack hx (y := (⟨"com/example/hintikka/hintikka/domain/ConstraintNetwork", "checkVariable", "(I)I"⟩ : MethodName)) hown (mvT hZ (hw _ (List.mem_of_getElem? (i := 129) rfl))) (mvT hZ (hw _ (List.mem_of_getElem? (i := 130) rfl))) (own_selp (mvT hZ (hw _ (List.mem_of_getElem? (i := 2) rfl))) (Cond.privateMethod_at (mvP hZ (hw _ (List.mem_of_getElem? (i := 131) rfl)) (args := #[]))) (mvT hZ (hw _ (List.mem_of_getElem? (i := 130) rfl))) (by decide)) (Cond.privateMethod_at (mvP hZ (hw _ (List.mem_of_getElem? (i := 131) rfl)) (args := #[]))) (mvT hZ (hw _ (List.mem_of_getElem? (i := 132) rfl))) (by decide) (backOf (W := 0) (rmCV l Z a0 hw [] cn pg al h0 n0 Z0 FC EA FS h3 h4) hZ (hw _ (List.mem_of_getElem? (i := 132) rfl)) (hw _ (List.mem_of_getElem? (i := 3) rfl)) (by decide) (by decide)) (g := (mkF m 8 #[.val (.ref cn), .val (.int pl), .val (.int pr), .val (.int pg)] [(.int pg), (.ref cn)])) rfl (by rw [hml]; rfl) (Steps.refl _) (a := cn) (by rw [eq1]; exact q2) q2' (argsL := [(.int pg)]) (rest := []) (lenOf own_pd7 rfl) rfl (by show 2 * 0 + _ ≤ _; exact Nat.le_of_eq rfl) (hb hby d_prog_14_m_6_8) (fun _ _ => ⟨rfl, eq1, (by decide : 0 + 0 ≤ _), (by decide : 0 + 0 ≤ _)⟩)
  dsimp only [Pt.U, Pt.locs, Pt.cells, Pt.slots] at X2 l2 y2 z2 st2 hQ2
  subst l2 y2 z2
  obtain ⟨rfl, N2q, eq2⟩ := hQ2
  have N2 := Fr.app N1 N2q
  refine own_up (fun _ k => st2.trans k) ?_
  show own_Go p.tables e below _ (T2.setTop (mkF m 11 #[.val (.ref cn), .val (.int pl), .val (.int pr), .val (.int pg)] [(.int pg)]))
  refine own_up (fun _ k => XS.pop X2.here hx rfl (hb hby d_prog_14_m_6_11) rfl rfl k) ?_
  show own_Go p.tables e below _ (T2.setTop (mkF m 12 #[.val (.ref cn), .val (.int pl), .val (.int pr), .val (.int pg)] []))
  refine own_up (fun _ k => XS.aloadN X2.here hx rfl (hb hby d_prog_14_m_6_12) rfl rfl k) ?_
  show own_Go p.tables e below _ (T2.setTop (mkF m 13 #[.val (.ref cn), .val (.int pl), .val (.int pr), .val (.int pg)] [(.ref cn)]))
  obtain ⟨T3, X3, e3, st3⟩ := getF X2 hx hZ hown (host := "") (Or.inl (hw _ (List.mem_of_getElem? (i := 112) rfl))) Via.refl eq2 FQ (g := (mkF m 13 #[.val (.ref cn), .val (.int pl), .val (.int pr), .val (.int pg)] [(.ref cn)])) rfl rfl (hb hby d_prog_14_m_6_13)
  refine own_up st3 ?_
  show own_Go p.tables e below _ (T3.setTop (mkF m 16 #[.val (.ref cn), .val (.int pl), .val (.int pr), .val (.int pg)] [(.int (2 : Int32))]))
  refine own_up (fun _ k => XS.aloadN X3.here hx rfl (hb hby d_prog_14_m_6_16) rfl rfl k) ?_
  show own_Go p.tables e below _ (T3.setTop (mkF m 17 #[.val (.ref cn), .val (.int pl), .val (.int pr), .val (.int pg)] [(.ref cn), (.int (2 : Int32))]))
  obtain ⟨T4, X4, e4, st4⟩ := getF X3 hx hZ hown (host := "") (Or.inl (hw _ (List.mem_of_getElem? (i := 54) rfl))) Via.refl e3 FA0 (g := (mkF m 17 #[.val (.ref cn), .val (.int pl), .val (.int pr), .val (.int pg)] [(.ref cn), (.int (2 : Int32))])) rfl rfl (hb hby d_prog_14_m_6_17)
  refine own_up st4 ?_
  show own_Go p.tables e below _ (T4.setTop (mkF m 20 #[.val (.ref cn), .val (.int pl), .val (.int pr), .val (.int pg)] [(.ref la), (.int (2 : Int32))]))
  obtain ⟨cl5_, Ar5, q5, S5, M5, Hs5, G5⟩ := id (V0)
  refine own_up (fun _ k => X4.arraylength hx (by rw [e4]; exact Ar5.1) (State.isArrayOf_alike hZ.alike Ar5.2.1) (g := (mkF m 20 #[.val (.ref cn), .val (.int pl), .val (.int pr), .val (.int pg)] [(.ref la), (.int (2 : Int32))])) rfl rfl (hb hby d_prog_14_m_6_20) _ k) ?_
  rw [len_of S5 M5]
  show own_Go p.tables e below _ (T4.setTop (mkF m 21 #[.val (.ref cn), .val (.int pl), .val (.int pr), .val (.int pg)] [(.int (16 : Int32)), (.int (2 : Int32))]))
  refine own_up (fun _ k => XS.icmpYes X4.here hx rfl (pc0 := 21) (pc' := 75) rfl (hb hby d_prog_14_m_6_21) rfl (feq (by decide)).2 (by decide) (by decide) k) ?_
  show own_Go p.tables e below _ (T4.setTop (mkF m 75 #[.val (.ref cn), .val (.int pl), .val (.int pr), .val (.int pg)] []))
  refine own_up (fun _ k => XS.aloadN X4.here hx rfl (hb hby d_prog_14_m_6_75) rfl rfl k) ?_
  show own_Go p.tables e below _ (T4.setTop (mkF m 76 #[.val (.ref cn), .val (.int pl), .val (.int pr), .val (.int pg)] [(.ref cn)]))
  obtain ⟨T6, X6, e6, st6⟩ := getF X4 hx hZ hown (host := "") (Or.inl (hw _ (List.mem_of_getElem? (i := 54) rfl))) Via.refl e4 FA0 (g := (mkF m 76 #[.val (.ref cn), .val (.int pl), .val (.int pr), .val (.int pg)] [(.ref cn)])) rfl rfl (hb hby d_prog_14_m_6_76)
  refine own_up st6 ?_
  show own_Go p.tables e below _ (T6.setTop (mkF m 79 #[.val (.ref cn), .val (.int pl), .val (.int pr), .val (.int pg)] [(.ref la)]))
  refine own_up (fun _ k => XS.aloadN X6.here hx rfl (hb hby d_prog_14_m_6_79) rfl rfl k) ?_
  show own_Go p.tables e below _ (T6.setTop (mkF m 80 #[.val (.ref cn), .val (.int pl), .val (.int pr), .val (.int pg)] [(.ref cn), (.ref la)]))
  obtain ⟨T7, X7, e7, st7⟩ := getF X6 hx hZ hown (host := "") (Or.inl (hw _ (List.mem_of_getElem? (i := 112) rfl))) Via.refl e6 FQ (g := (mkF m 80 #[.val (.ref cn), .val (.int pl), .val (.int pr), .val (.int pg)] [(.ref cn), (.ref la)])) rfl rfl (hb hby d_prog_14_m_6_80)
  refine own_up st7 ?_
  show own_Go p.tables e below _ (T7.setTop (mkF m 83 #[.val (.ref cn), .val (.int pl), .val (.int pr), .val (.int pg)] [(.int (2 : Int32)), (.ref la)]))
  refine own_up (fun _ k => XS.iloadN X7.here hx rfl (hb hby d_prog_14_m_6_83) rfl k) ?_
  show own_Go p.tables e below _ (T7.setTop (mkF m 84 #[.val (.ref cn), .val (.int pl), .val (.int pr), .val (.int pg)] [(.int pl), (.int (2 : Int32)), (.ref la)]))
  have hin8 : ¬ ((2 : Int32) < 0 ∨ cl5_.slots.size ≤ ((2 : Int32)).toNatClampNeg) := inb_of S5 ⟨by decide, by decide⟩
  obtain ⟨T8, h8, X8, e8, W8, st8⟩ := stI X7 hx hZ e7 Ar5 (j := (2 : Int32)) hin8 (g := (mkF m 84 #[.val (.ref cn), .val (.int pl), .val (.int pr), .val (.int pg)] [(.int pl), (.int (2 : Int32)), (.ref la)])) rfl rfl (hb hby d_prog_14_m_6_84)
  have V8 : Arv Z h8 la ka .int (16 : Int32) [(.int lx0), (.int lx1), (.int pl), (.int lx3)] (.int (0 : Int32)) := Arv.set Ar5 q5 S5 M5 Hs5 G5 rfl W8 2 rfl (Nat.le_of_ble_eq_true rfl)
  have N8 := Fr.snoc X8 N2 G1
  refine own_up st8 ?_
  show own_Go p.tables e below _ (T8.setTop (mkF m 85 #[.val (.ref cn), .val (.int pl), .val (.int pr), .val (.int pg)] []))
  refine own_up (fun _ k => XS.aloadN X8.here hx rfl (hb hby d_prog_14_m_6_85) rfl rfl k) ?_
  show own_Go p.tables e below _ (T8.setTop (mkF m 86 #[.val (.ref cn), .val (.int pl), .val (.int pr), .val (.int pg)] [(.ref cn)]))
  have f9 : Fld Z h8 cn "com/example/hintikka/hintikka/domain/ConstraintNetwork" "relations" "[I" (.ref re) := (FA1.other W8 (Or.inl nq1))
  obtain ⟨T10, X10, e10, st10⟩ := getF X8 hx hZ hown (host := "") (Or.inl (hw _ (List.mem_of_getElem? (i := 56) rfl))) Via.refl e8 f9 (g := (mkF m 86 #[.val (.ref cn), .val (.int pl), .val (.int pr), .val (.int pg)] [(.ref cn)])) rfl rfl (hb hby d_prog_14_m_6_86)
  refine own_up st10 ?_
  show own_Go p.tables e below _ (T10.setTop (mkF m 89 #[.val (.ref cn), .val (.int pl), .val (.int pr), .val (.int pg)] [(.ref re)]))
  refine own_up (fun _ k => XS.aloadN X10.here hx rfl (hb hby d_prog_14_m_6_89) rfl rfl k) ?_
  show own_Go p.tables e below _ (T10.setTop (mkF m 90 #[.val (.ref cn), .val (.int pl), .val (.int pr), .val (.int pg)] [(.ref cn), (.ref re)]))
  have f11 : Fld Z h8 cn "com/example/hintikka/hintikka/domain/ConstraintNetwork" "size" "I" (.int (2 : Int32)) := (FQ.other W8 (Or.inl nq1))
  obtain ⟨T12, X12, e12, st12⟩ := getF X10 hx hZ hown (host := "") (Or.inl (hw _ (List.mem_of_getElem? (i := 112) rfl))) Via.refl e10 f11 (g := (mkF m 90 #[.val (.ref cn), .val (.int pl), .val (.int pr), .val (.int pg)] [(.ref cn), (.ref re)])) rfl rfl (hb hby d_prog_14_m_6_90)
  refine own_up st12 ?_
  show own_Go p.tables e below _ (T12.setTop (mkF m 93 #[.val (.ref cn), .val (.int pl), .val (.int pr), .val (.int pg)] [(.int (2 : Int32)), (.ref re)]))
  refine own_up (fun _ k => XS.iloadN X12.here hx rfl (hb hby d_prog_14_m_6_93) rfl k) ?_
  show own_Go p.tables e below _ (T12.setTop (mkF m 94 #[.val (.ref cn), .val (.int pl), .val (.int pr), .val (.int pg)] [(.int pr), (.int (2 : Int32)), (.ref re)]))
  have f13 : Arv Z h8 re ke .int (16 : Int32) [(.int rx0), (.int rx1), (.int rx2), (.int rx3)] (.int (0 : Int32)) := (V1.other W8 (Ne.symm nq7))
  obtain ⟨cl14_, Ar14, q14, S14, M14, Hs14, G14⟩ := id (f13)
  have hin15 : ¬ ((2 : Int32) < 0 ∨ cl14_.slots.size ≤ ((2 : Int32)).toNatClampNeg) := inb_of S14 ⟨by decide, by decide⟩
  obtain ⟨T15, h15, X15, e15, W15, st15⟩ := stI X12 hx hZ e12 Ar14 (j := (2 : Int32)) hin15 (g := (mkF m 94 #[.val (.ref cn), .val (.int pl), .val (.int pr), .val (.int pg)] [(.int pr), (.int (2 : Int32)), (.ref re)])) rfl rfl (hb hby d_prog_14_m_6_94)
  have V15 : Arv Z h15 re ke .int (16 : Int32) [(.int rx0), (.int rx1), (.int pr), (.int rx3)] (.int (0 : Int32)) := Arv.set Ar14 q14 S14 M14 Hs14 G14 rfl W15 2 rfl (Nat.le_of_ble_eq_true rfl)
  have N15 := Fr.snoc X15 N8 G2
  refine own_up st15 ?_
  show own_Go p.tables e below _ (T15.setTop (mkF m 95 #[.val (.ref cn), .val (.int pl), .val (.int pr), .val (.int pg)] []))
  refine own_up (fun _ k => XS.aloadN X15.here hx rfl (hb hby d_prog_14_m_6_95) rfl rfl k) ?_
  show own_Go p.tables e below _ (T15.setTop (mkF m 96 #[.val (.ref cn), .val (.int pl), .val (.int pr), .val (.int pg)] [(.ref cn)]))
  have f16 : Fld Z h15 cn "com/example/hintikka/hintikka/domain/ConstraintNetwork" "rights" "[I" (.ref ri) := ((FA2.other W8 (Or.inl nq1)).other W15 (Or.inl nq2))
  obtain ⟨T17, X17, e17, st17⟩ := getF X15 hx hZ hown (host := "") (Or.inl (hw _ (List.mem_of_getElem? (i := 58) rfl))) Via.refl e15 f16 (g := (mkF m 96 #[.val (.ref cn), .val (.int pl), .val (.int pr), .val (.int pg)] [(.ref cn)])) rfl rfl (hb hby d_prog_14_m_6_96)
  refine own_up st17 ?_
  show own_Go p.tables e below _ (T17.setTop (mkF m 99 #[.val (.ref cn), .val (.int pl), .val (.int pr), .val (.int pg)] [(.ref ri)]))
  refine own_up (fun _ k => XS.aloadN X17.here hx rfl (hb hby d_prog_14_m_6_99) rfl rfl k) ?_
  show own_Go p.tables e below _ (T17.setTop (mkF m 100 #[.val (.ref cn), .val (.int pl), .val (.int pr), .val (.int pg)] [(.ref cn), (.ref ri)]))
  have f18 : Fld Z h15 cn "com/example/hintikka/hintikka/domain/ConstraintNetwork" "size" "I" (.int (2 : Int32)) := (f11.other W15 (Or.inl nq2))
  obtain ⟨T19, X19, e19, st19⟩ := getF X17 hx hZ hown (host := "") (Or.inl (hw _ (List.mem_of_getElem? (i := 112) rfl))) Via.refl e17 f18 (g := (mkF m 100 #[.val (.ref cn), .val (.int pl), .val (.int pr), .val (.int pg)] [(.ref cn), (.ref ri)])) rfl rfl (hb hby d_prog_14_m_6_100)
  refine own_up st19 ?_
  show own_Go p.tables e below _ (T19.setTop (mkF m 103 #[.val (.ref cn), .val (.int pl), .val (.int pr), .val (.int pg)] [(.int (2 : Int32)), (.ref ri)]))
  refine own_up (fun _ k => XS.iloadN X19.here hx rfl (hb hby d_prog_14_m_6_103) rfl k) ?_
  show own_Go p.tables e below _ (T19.setTop (mkF m 104 #[.val (.ref cn), .val (.int pl), .val (.int pr), .val (.int pg)] [(.int pg), (.int (2 : Int32)), (.ref ri)]))
  have f20 : Arv Z h15 ri ki .int (16 : Int32) [(.int w0), (.int w1), (.int w2), (.int w3)] (.int (0 : Int32)) := ((V2.other W8 (Ne.symm nq8)).other W15 (Ne.symm nq9))
  obtain ⟨cl21_, Ar21, q21, S21, M21, Hs21, G21⟩ := id (f20)
  have hin22 : ¬ ((2 : Int32) < 0 ∨ cl21_.slots.size ≤ ((2 : Int32)).toNatClampNeg) := inb_of S21 ⟨by decide, by decide⟩
  obtain ⟨T22, h22, X22, e22, W22, st22⟩ := stI X19 hx hZ e19 Ar21 (j := (2 : Int32)) hin22 (g := (mkF m 104 #[.val (.ref cn), .val (.int pl), .val (.int pr), .val (.int pg)] [(.int pg), (.int (2 : Int32)), (.ref ri)])) rfl rfl (hb hby d_prog_14_m_6_104)
  have V22 : Arv Z h22 ri ki .int (16 : Int32) [(.int w0), (.int w1), (.int pg), (.int w3)] (.int (0 : Int32)) := Arv.set Ar21 q21 S21 M21 Hs21 G21 rfl W22 2 rfl (Nat.le_of_ble_eq_true rfl)
  have N22 := Fr.snoc X22 N15 G3
  refine own_up st22 ?_
  show own_Go p.tables e below _ (T22.setTop (mkF m 105 #[.val (.ref cn), .val (.int pl), .val (.int pr), .val (.int pg)] []))
  refine own_up (fun _ k => XS.aloadN X22.here hx rfl (hb hby d_prog_14_m_6_105) rfl rfl k) ?_
  show own_Go p.tables e below _ (T22.setTop (mkF m 106 #[.val (.ref cn), .val (.int pl), .val (.int pr), .val (.int pg)] [(.ref cn)]))
  refine own_up (fun _ k => XS.dup X22.here hx rfl (hb hby d_prog_14_m_6_106) rfl rfl k) ?_
  show own_Go p.tables e below _ (T22.setTop (mkF m 107 #[.val (.ref cn), .val (.int pl), .val (.int pr), .val (.int pg)] [(.ref cn), (.ref cn)]))
  have f23 : Fld Z h22 cn "com/example/hintikka/hintikka/domain/ConstraintNetwork" "size" "I" (.int (2 : Int32)) := (f18.other W22 (Or.inl nq3))
  obtain ⟨T24, X24, e24, st24⟩ := getF X22 hx hZ hown (host := "") (Or.inl (hw _ (List.mem_of_getElem? (i := 112) rfl))) Via.refl e22 f23 (g := (mkF m 107 #[.val (.ref cn), .val (.int pl), .val (.int pr), .val (.int pg)] [(.ref cn), (.ref cn)])) rfl rfl (hb hby d_prog_14_m_6_107)
  refine own_up st24 ?_
  show own_Go p.tables e below _ (T24.setTop (mkF m 110 #[.val (.ref cn), .val (.int pl), .val (.int pr), .val (.int pg)] [(.int (2 : Int32)), (.ref cn)]))
  refine own_up (fun _ k => XS.iconst X24.here hx rfl (hb hby d_prog_14_m_6_110) k) ?_
  show own_Go p.tables e below _ (T24.setTop (mkF m 111 #[.val (.ref cn), .val (.int pl), .val (.int pr), .val (.int pg)] [(.int (1 : Int32)), (.int (2 : Int32)), (.ref cn)]))
  refine own_up (fun _ k => XS.iadd X24.here hx rfl (hb hby d_prog_14_m_6_111) rfl k) ?_
  show own_Go p.tables e below _ (T24.setTop (mkF m 112 #[.val (.ref cn), .val (.int pl), .val (.int pr), .val (.int pg)] [(.int (3 : Int32)), (.ref cn)]))
  have f25 : Exa Z h22 cn "com/example/hintikka/hintikka/domain/ConstraintNetwork" := (((EC.wr W8).wr W15).wr W22)
  obtain ⟨T26, h26, X26, e26, W26, st26⟩ := putF X24 hx hZ hown (host := "") (Or.inl (hw _ (List.mem_of_getElem? (i := 112) rfl))) Via.refl e24 f23 f25 (Or.inl (hw _ (List.mem_of_getElem? (i := 113) rfl))) (hw _ (List.mem_of_getElem? (i := 2) rfl)) (ty := .int) (by decide) rfl rfl (g := (mkF m 112 #[.val (.ref cn), .val (.int pl), .val (.int pr), .val (.int pg)] [(.int (3 : Int32)), (.ref cn)])) rfl rfl (hb hby d_prog_14_m_6_112)
  have Fw26 := f23.same W26
  have N26 := Fr.snoc X26 N22 G0
  refine own_up st26 ?_
  show own_Go p.tables e below _ (T26.setTop (mkF m 115 #[.val (.ref cn), .val (.int pl), .val (.int pr), .val (.int pg)] []))
  have f27 : Exa Z h26 cn "com/example/hintikka/hintikka/domain/ConstraintNetwork" := (f25.wr W26)
  have f28 : Fld Z h26 cn "com/example/hintikka/hintikka/domain/ConstraintNetwork" "constants" "Ljava/util/List;" (.ref al) := ((((FC.other W8 (Or.inl nq1)).other W15 (Or.inl nq2)).other W22 (Or.inl nq3)).other W26 (Or.inr (slot_ne (Or.inr (hw _ (List.mem_of_getElem? (i := 35) rfl))) (Or.inl (hw _ (List.mem_of_getElem? (i := 113) rfl))) (by decide) (t := (.object "java/util/List")) (t' := .int) (by decide) (by decide))))
  have f29 : Fld Z h26 cn "com/example/hintikka/hintikka/domain/ConstraintNetwork" "lefts" "[I" (.ref la) := ((((FA0.other W8 (Or.inl nq1)).other W15 (Or.inl nq2)).other W22 (Or.inl nq3)).other W26 (Or.inr (slot_ne (Or.inl (hw _ (List.mem_of_getElem? (i := 55) rfl))) (Or.inl (hw _ (List.mem_of_getElem? (i := 113) rfl))) (by decide) (t := (.array .int)) (t' := .int) (by decide) (by decide))))
  have f30 : Fld Z h26 cn "com/example/hintikka/hintikka/domain/ConstraintNetwork" "relations" "[I" (.ref re) := (((f9.other W15 (Or.inl nq2)).other W22 (Or.inl nq3)).other W26 (Or.inr (slot_ne (Or.inl (hw _ (List.mem_of_getElem? (i := 57) rfl))) (Or.inl (hw _ (List.mem_of_getElem? (i := 113) rfl))) (by decide) (t := (.array .int)) (t' := .int) (by decide) (by decide))))
  have f31 : Fld Z h26 cn "com/example/hintikka/hintikka/domain/ConstraintNetwork" "rights" "[I" (.ref ri) := ((f16.other W22 (Or.inl nq3)).other W26 (Or.inr (slot_ne (Or.inl (hw _ (List.mem_of_getElem? (i := 59) rfl))) (Or.inl (hw _ (List.mem_of_getElem? (i := 113) rfl))) (by decide) (t := (.array .int)) (t' := .int) (by decide) (by decide))))
  have f32 : Arv Z h26 la ka .int (16 : Int32) [(.int lx0), (.int lx1), (.int pl), (.int lx3)] (.int (0 : Int32)) := (((V8.other W15 nq7).other W22 nq8).other W26 (Ne.symm nq1))
  have f33 : Arv Z h26 re ke .int (16 : Int32) [(.int rx0), (.int rx1), (.int pr), (.int rx3)] (.int (0 : Int32)) := ((V15.other W22 nq9).other W26 (Ne.symm nq2))
  have f34 : Arv Z h26 ri ki .int (16 : Int32) [(.int w0), (.int w1), (.int pg), (.int w3)] (.int (0 : Int32)) := (V22.other W26 (Ne.symm nq3))
  exact own_end X26 hlk (v := none) (fun _ => rfl) (fun fs hr => X26.returnOut hx Bd.returns (hb hby d_prog_14_m_6_115) hr) e26 ⟨rfl, N26, (((((Keep.refl h0 [cn, la, re, ri]).wr W8 (Or.inl (List.mem_of_getElem? (i := 1) rfl))).wr W15 (Or.inl (List.mem_of_getElem? (i := 2) rfl))).wr W22 (Or.inl (List.mem_of_getElem? (i := 3) rfl))).wr W26 (Or.inl (List.mem_of_getElem? (i := 0) rfl))), f27, f28, f29, f30, f31, Fw26, f32, f33, f34⟩ (by decide) (by decide)
theorem ef_rmAd3 (m : MethodId) (y0 : Addr) (y1 : Int32) (y2 : Int32) (y3 : Int32) : entryFrame m #[(.ref y0), (.int y1), (.int y2), (.int y3)] 4 = mkF m 0 #[.val (.ref y0), .val (.int y1), .val (.int y2), .val (.int y3)] [] := by first | (simp [entryFrame, mkF, argsToLocals, Value.category]; done) | rfl
def Q_rmAd3 (Z : State) (cn : Addr) (pl : Int32) (pr : Int32) (pg : Int32) (al : Addr) (la : Addr) (re : Addr) (ri : Addr) (ka : ClassId) (ke : ClassId) (ki : ClassId) (lx0 : Int32) (lx1 : Int32) (lx2 : Int32) (lx3 : Int32) (rx0 : Int32) (rx1 : Int32) (rx2 : Int32) (rx3 : Int32) (w0 : Int32) (w1 : Int32) (w2 : Int32) (w3 : Int32) (h0 : Heap) (n0 : Nat) (v : Option Value) (h : Heap) (L : List Loc) : Prop := v = none ∧ Fr n0 L ∧ Keep h0 h [cn, la, re, ri] ∧ Exa Z h cn "com/example/hintikka/hintikka/domain/ConstraintNetwork" ∧ Fld Z h cn "com/example/hintikka/hintikka/domain/ConstraintNetwork" "constants" "Ljava/util/List;" (.ref al) ∧ Fld Z h cn "com/example/hintikka/hintikka/domain/ConstraintNetwork" "lefts" "[I" (.ref la) ∧ Fld Z h cn "com/example/hintikka/hintikka/domain/ConstraintNetwork" "relations" "[I" (.ref re) ∧ Fld Z h cn "com/example/hintikka/hintikka/domain/ConstraintNetwork" "rights" "[I" (.ref ri) ∧ Fld Z h cn "com/example/hintikka/hintikka/domain/ConstraintNetwork" "size" "I" (.int (4 : Int32)) ∧ Arv Z h la ka .int (16 : Int32) [(.int lx0), (.int lx1), (.int lx2), (.int pl)] (.int (0 : Int32)) ∧ Arv Z h re ke .int (16 : Int32) [(.int rx0), (.int rx1), (.int rx2), (.int pr)] (.int (0 : Int32)) ∧ Arv Z h ri ki .int (16 : Int32) [(.int w0), (.int w1), (.int w2), (.int pg)] (.int (0 : Int32))
set_option maxRecDepth 65536 in
set_option maxHeartbeats 40000000 in
theorem rmAd3 (l : Launch) (Z : State) (a0 : Array Value) (hw : ∀ d ∈ tables_1, d.before a0 Z = true) (ws : List Jvm.Cond) (cn : Addr) (pl : Int32) (pr : Int32) (pg : Int32) (al : Addr) (la : Addr) (re : Addr) (ri : Addr) (ka : ClassId) (ke : ClassId) (ki : ClassId) (lx0 : Int32) (lx1 : Int32) (lx2 : Int32) (lx3 : Int32) (rx0 : Int32) (rx1 : Int32) (rx2 : Int32) (rx3 : Int32) (w0 : Int32) (w1 : Int32) (w2 : Int32) (w3 : Int32) (h0 : Heap) (n0 : Nat) (Z0 : n0 ≤ h0.size) (EC : Exa Z h0 cn "com/example/hintikka/hintikka/domain/ConstraintNetwork") (FC : Fld Z h0 cn "com/example/hintikka/hintikka/domain/ConstraintNetwork" "constants" "Ljava/util/List;" (.ref al)) (FA0 : Fld Z h0 cn "com/example/hintikka/hintikka/domain/ConstraintNetwork" "lefts" "[I" (.ref la)) (FA1 : Fld Z h0 cn "com/example/hintikka/hintikka/domain/ConstraintNetwork" "relations" "[I" (.ref re)) (FA2 : Fld Z h0 cn "com/example/hintikka/hintikka/domain/ConstraintNetwork" "rights" "[I" (.ref ri)) (EA : Exa Z h0 al "java/util/ArrayList") (FS : Fld Z h0 al "java/util/ArrayList" "size" "I" (.int (2 : Int32))) (FQ : Fld Z h0 cn "com/example/hintikka/hintikka/domain/ConstraintNetwork" "size" "I" (.int (3 : Int32))) (V0 : Arv Z h0 la ka .int (16 : Int32) [(.int lx0), (.int lx1), (.int lx2), (.int lx3)] (.int (0 : Int32))) (V1 : Arv Z h0 re ke .int (16 : Int32) [(.int rx0), (.int rx1), (.int rx2), (.int rx3)] (.int (0 : Int32))) (V2 : Arv Z h0 ri ki .int (16 : Int32) [(.int w0), (.int w1), (.int w2), (.int w3)] (.int (0 : Int32))) (G0 : n0 ≤ cn) (G1 : n0 ≤ la) (G2 : n0 ≤ re) (G3 : n0 ≤ ri) (nq0 : cn ≠ al) (nq1 : cn ≠ la) (nq2 : cn ≠ re) (nq3 : cn ≠ ri) (nq4 : al ≠ la) (nq5 : al ≠ re) (nq6 : al ≠ ri) (nq7 : la ≠ re) (nq8 : la ≠ ri) (nq9 : re ≠ ri) (h1 : ¬ pl < (0 : Int32)) (h2 : pl < (2 : Int32)) (h3 : ¬ pg < (0 : Int32)) (h4 : pg < (2 : Int32)) :
    MetFree l (⟨"com/example/hintikka/hintikka/domain/ConstraintNetwork", "add", "(III)V"⟩ : MethodName) (head1 (Jvm.Cond.code (⟨"com/example/hintikka/hintikka/domain/ConstraintNetwork", "add", "(III)V"⟩ : MethodName) prog_14_method_6_code 4 none :: ws) ({ frames := 2, cells := 0, slots := 0, locals := 26 } : Room)) (fun ar U => ar = #[(.ref cn), (.int pl), (.int pr), (.int pg)] ∧ Z.Warmed39 U.vm ∧ U.heap = h0) (fun _ _ _ _ _ => True) (fun _ U o U' => ∃ v L, o = .returned v ∧ Q_rmAd3 Z cn pl pr pg al la re ri ka ke ki lx0 lx1 lx2 lx3 rx0 rx1 rx2 rx3 w0 w1 w2 w3 h0 n0 v U'.heap L ∧ FrameEnd U o U' L ({ frames := 2, cells := 0, slots := 0, locals := 26 } : Room).cells ({ frames := 2, cells := 0, slots := 0, locals := 26 } : Room).slots) := by
  refine MetFree.of_bodySF (plainFor_of_name own_pn5) hisR ?_
  intro p e s m args below meth c s₁ Bd hml0 hP hK
  obtain ⟨rfl, hZ, hh⟩ := hP
  have hx := Bd.exec
  have hby := Bd.bytes
  have hlk : meth.locks = false := BodyLoose.notSynchronized Bd
  have hml : c.maxLocals = 4 := hml0
  have hown : s.vm.findClass "com/example/hintikka/hintikka/domain/ConstraintNetwork" = some m.cls := findClass_of_methodNamed Bd.named
  have hnm := (name_of_methodNamed Bd.named Bd.method).1
  have X0 : Stand p l e ({ frames := 2, cells := 0, slots := 0, locals := 26 } : Room) s m #[(.ref cn), (.int pl), (.int pr), (.int pg)] below meth c s₁ [] 0 0 := Stand.of_body Bd
  have e0 : s₁.heap = h0 := by rw [← hh, Bd.state]; rfl
  have N0 := Fr.nil n0
  show own_Go p.tables e below (fun u o => ∃ v L, o = .returned v ∧ Q_rmAd3 Z cn pl pr pg al la re ri ka ke ki lx0 lx1 lx2 lx3 rx0 rx1 rx2 rx3 w0 w1 w2 w3 h0 n0 v u.heap L ∧ FrameEnd s o u L ({ frames := 2, cells := 0, slots := 0, locals := 26 } : Room).cells ({ frames := 2, cells := 0, slots := 0, locals := 26 } : Room).slots) (s₁.setTop (entryFrame m #[(.ref cn), (.int pl), (.int pr), (.int pg)] 4))
  refine own_up (fun _ k => castTop (ef_rmAd3 m cn pl pr pg) k) ?_
  show own_Go p.tables e below _ (s₁.setTop (mkF m 0 #[.val (.ref cn), .val (.int pl), .val (.int pr), .val (.int pg)] []))
  refine own_up (fun _ k => XS.aloadN X0.here hx rfl (hb hby d_prog_14_m_6_0) rfl rfl k) ?_
  show own_Go p.tables e below _ (s₁.setTop (mkF m 1 #[.val (.ref cn), .val (.int pl), .val (.int pr), .val (.int pg)] [(.ref cn)]))
  refine own_up (fun _ k => XS.iloadN X0.here hx rfl (hb hby d_prog_14_m_6_1) rfl k) ?_
  show own_Go p.tables e below _ (s₁.setTop (mkF m 2 #[.val (.ref cn), .val (.int pl), .val (.int pr), .val (.int pg)] [(.int pl), (.ref cn)]))
  obtain ⟨cq1, q1, q1'⟩ := (EC).cell
  obtain ⟨_, _, ⟨T1, L1, k1, n1⟩, -, X1, ⟨Lc1, hQ1, l1, y1, z1⟩, st1⟩ := X0.privateBack hx (y := (⟨"com/example/hintikka/hintikka/domain/ConstraintNetwork", "checkVariable", "(I)I"⟩ : MethodName)) hown (mvT hZ (hw _ (List.mem_of_getElem? (i := 129) rfl))) (mvT hZ (hw _ (List.mem_of_getElem? (i := 130) rfl))) (own_selp (mvT hZ (hw _ (List.mem_of_getElem? (i := 2) rfl))) (Cond.privateMethod_at (mvP hZ (hw _ (List.mem_of_getElem? (i := 131) rfl)) (args := #[]))) (mvT hZ (hw _ (List.mem_of_getElem? (i := 130) rfl))) (by decide)) (Cond.privateMethod_at (mvP hZ (hw _ (List.mem_of_getElem? (i := 131) rfl)) (args := #[]))) (mvT hZ (hw _ (List.mem_of_getElem? (i := 132) rfl))) (by decide) (backOf (W := 0) (rmCV l Z a0 hw [] cn pl al h0 n0 Z0 FC EA FS h1 h2) hZ (hw _ (List.mem_of_getElem? (i := 132) rfl)) (hw _ (List.mem_of_getElem? (i := 3) rfl)) (by decide) (by decide)) (g := (mkF m 2 #[.val (.ref cn), .val (.int pl), .val (.int pr), .val (.int pg)] [(.int pl), (.ref cn)])) rfl (by rw [hml]; rfl) (Steps.refl _) (a := cn) (by rw [e0]; exact q1) q1' (argsL := [(.int pl)]) (rest := []) (lenOf own_pd7 rfl) rfl (by show 2 * 0 + _ ≤ _; exact Nat.le_of_eq rfl) (hb hby d_prog_14_m_6_2) (fun _ _ => ⟨rfl, e0, (by decide : 0 + 0 ≤ _), (by decide : 0 + 0 ≤ _)⟩)
  dsimp only [Pt.U, Pt.locs, Pt.cells, Pt.slots] at X1 l1 y1 z1 st1 hQ1
  subst l1 y1 z1
  obtain ⟨rfl, N1q, eq1⟩ := hQ1
  have N1 := Fr.app N0 N1q
  refine own_up (fun _ k => st1.trans k) ?_
  show own_Go p.tables e below _ (T1.setTop (mkF m 5 #[.val (.ref cn), .val (.int pl), .val (.int pr), .val (.int pg)] [(.int pl)]))
  refine own_up (fun _ k => XS.pop X1.here hx rfl (hb hby d_prog_14_m_6_5) rfl rfl k) ?_
  show own_Go p.tables e below _ (T1.setTop (mkF m 6 #[.val (.ref cn), .val (.int pl), .val (.int pr), .val (.int pg)] []))
  refine own_up (fun _ k => XS.aloadN X1.here hx rfl (hb hby d_prog_14_m_6_6) rfl rfl k) ?_
  show own_Go p.tables e below _ (T1.setTop (mkF m 7 #[.val (.ref cn), .val (.int pl), .val (.int pr), .val (.int pg)] [(.ref cn)]))
  refine own_up (fun _ k => XS.iloadN X1.here hx rfl (hb hby d_prog_14_m_6_7) rfl k) ?_
  show own_Go p.tables e below _ (T1.setTop (mkF m 8 #[.val (.ref cn), .val (.int pl), .val (.int pr), .val (.int pg)] [(.int pg), (.ref cn)]))
  obtain ⟨cq2, q2, q2'⟩ := (EC).cell
  obtain ⟨_, _, ⟨T2, L2, k2, n2⟩, -, X2, ⟨Lc2, hQ2, l2, y2, z2⟩, st2⟩ := X1.privateBack hx (y := (⟨"com/example/hintikka/hintikka/domain/ConstraintNetwork", "checkVariable", "(I)I"⟩ : MethodName)) hown (mvT hZ (hw _ (List.mem_of_getElem? (i := 129) rfl))) (mvT hZ (hw _ (List.mem_of_getElem? (i := 130) rfl))) (own_selp (mvT hZ (hw _ (List.mem_of_getElem? (i := 2) rfl))) (Cond.privateMethod_at (mvP hZ (hw _ (List.mem_of_getElem? (i := 131) rfl)) (args := #[]))) (mvT hZ (hw _ (List.mem_of_getElem? (i := 130) rfl))) (by decide)) (Cond.privateMethod_at (mvP hZ (hw _ (List.mem_of_getElem? (i := 131) rfl)) (args := #[]))) (mvT hZ (hw _ (List.mem_of_getElem? (i := 132) rfl))) (by decide) (backOf (W := 0) (rmCV l Z a0 hw [] cn pg al h0 n0 Z0 FC EA FS h3 h4) hZ (hw _ (List.mem_of_getElem? (i := 132) rfl)) (hw _ (List.mem_of_getElem? (i := 3) rfl)) (by decide) (by decide)) (g := (mkF m 8 #[.val (.ref cn), .val (.int pl), .val (.int pr), .val (.int pg)] [(.int pg), (.ref cn)])) rfl (by rw [hml]; rfl) (Steps.refl _) (a := cn) (by rw [eq1]; exact q2) q2' (argsL := [(.int pg)]) (rest := []) (lenOf own_pd7 rfl) rfl (by show 2 * 0 + _ ≤ _; exact Nat.le_of_eq rfl) (hb hby d_prog_14_m_6_8) (fun _ _ => ⟨rfl, eq1, (by decide : 0 + 0 ≤ _), (by decide : 0 + 0 ≤ _)⟩)
  dsimp only [Pt.U, Pt.locs, Pt.cells, Pt.slots] at X2 l2 y2 z2 st2 hQ2
  subst l2 y2 z2
  obtain ⟨rfl, N2q, eq2⟩ := hQ2
  have N2 := Fr.app N1 N2q
  refine own_up (fun _ k => st2.trans k) ?_
  show own_Go p.tables e below _ (T2.setTop (mkF m 11 #[.val (.ref cn), .val (.int pl), .val (.int pr), .val (.int pg)] [(.int pg)]))
  refine own_up (fun _ k => XS.pop X2.here hx rfl (hb hby d_prog_14_m_6_11) rfl rfl k) ?_
  show own_Go p.tables e below _ (T2.setTop (mkF m 12 #[.val (.ref cn), .val (.int pl), .val (.int pr), .val (.int pg)] []))
  refine own_up (fun _ k => XS.aloadN X2.here hx rfl (hb hby d_prog_14_m_6_12) rfl rfl k) ?_
  show own_Go p.tables e below _ (T2.setTop (mkF m 13 #[.val (.ref cn), .val (.int pl), .val (.int pr), .val (.int pg)] [(.ref cn)]))
  obtain ⟨T3, X3, e3, st3⟩ := getF X2 hx hZ hown (host := "") (Or.inl (hw _ (List.mem_of_getElem? (i := 112) rfl))) Via.refl eq2 FQ (g := (mkF m 13 #[.val (.ref cn), .val (.int pl), .val (.int pr), .val (.int pg)] [(.ref cn)])) rfl rfl (hb hby d_prog_14_m_6_13)
  refine own_up st3 ?_
  show own_Go p.tables e below _ (T3.setTop (mkF m 16 #[.val (.ref cn), .val (.int pl), .val (.int pr), .val (.int pg)] [(.int (3 : Int32))]))
  refine own_up (fun _ k => XS.aloadN X3.here hx rfl (hb hby d_prog_14_m_6_16) rfl rfl k) ?_
  show own_Go p.tables e below _ (T3.setTop (mkF m 17 #[.val (.ref cn), .val (.int pl), .val (.int pr), .val (.int pg)] [(.ref cn), (.int (3 : Int32))]))
  obtain ⟨T4, X4, e4, st4⟩ := getF X3 hx hZ hown (host := "") (Or.inl (hw _ (List.mem_of_getElem? (i := 54) rfl))) Via.refl e3 FA0 (g := (mkF m 17 #[.val (.ref cn), .val (.int pl), .val (.int pr), .val (.int pg)] [(.ref cn), (.int (3 : Int32))])) rfl rfl (hb hby d_prog_14_m_6_17)
  refine own_up st4 ?_
  show own_Go p.tables e below _ (T4.setTop (mkF m 20 #[.val (.ref cn), .val (.int pl), .val (.int pr), .val (.int pg)] [(.ref la), (.int (3 : Int32))]))
  obtain ⟨cl5_, Ar5, q5, S5, M5, Hs5, G5⟩ := id (V0)
  refine own_up (fun _ k => X4.arraylength hx (by rw [e4]; exact Ar5.1) (State.isArrayOf_alike hZ.alike Ar5.2.1) (g := (mkF m 20 #[.val (.ref cn), .val (.int pl), .val (.int pr), .val (.int pg)] [(.ref la), (.int (3 : Int32))])) rfl rfl (hb hby d_prog_14_m_6_20) _ k) ?_
  rw [len_of S5 M5]
  show own_Go p.tables e below _ (T4.setTop (mkF m 21 #[.val (.ref cn), .val (.int pl), .val (.int pr), .val (.int pg)] [(.int (16 : Int32)), (.int (3 : Int32))]))
  refine own_up (fun _ k => XS.icmpYes X4.here hx rfl (pc0 := 21) (pc' := 75) rfl (hb hby d_prog_14_m_6_21) rfl (feq (by decide)).2 (by decide) (by decide) k) ?_
  show own_Go p.tables e below _ (T4.setTop (mkF m 75 #[.val (.ref cn), .val (.int pl), .val (.int pr), .val (.int pg)] []))
  refine own_up (fun _ k => XS.aloadN X4.here hx rfl (hb hby d_prog_14_m_6_75) rfl rfl k) ?_
  show own_Go p.tables e below _ (T4.setTop (mkF m 76 #[.val (.ref cn), .val (.int pl), .val (.int pr), .val (.int pg)] [(.ref cn)]))
  obtain ⟨T6, X6, e6, st6⟩ := getF X4 hx hZ hown (host := "") (Or.inl (hw _ (List.mem_of_getElem? (i := 54) rfl))) Via.refl e4 FA0 (g := (mkF m 76 #[.val (.ref cn), .val (.int pl), .val (.int pr), .val (.int pg)] [(.ref cn)])) rfl rfl (hb hby d_prog_14_m_6_76)
  refine own_up st6 ?_
  show own_Go p.tables e below _ (T6.setTop (mkF m 79 #[.val (.ref cn), .val (.int pl), .val (.int pr), .val (.int pg)] [(.ref la)]))
  refine own_up (fun _ k => XS.aloadN X6.here hx rfl (hb hby d_prog_14_m_6_79) rfl rfl k) ?_
  show own_Go p.tables e below _ (T6.setTop (mkF m 80 #[.val (.ref cn), .val (.int pl), .val (.int pr), .val (.int pg)] [(.ref cn), (.ref la)]))
  obtain ⟨T7, X7, e7, st7⟩ := getF X6 hx hZ hown (host := "") (Or.inl (hw _ (List.mem_of_getElem? (i := 112) rfl))) Via.refl e6 FQ (g := (mkF m 80 #[.val (.ref cn), .val (.int pl), .val (.int pr), .val (.int pg)] [(.ref cn), (.ref la)])) rfl rfl (hb hby d_prog_14_m_6_80)
  refine own_up st7 ?_
  show own_Go p.tables e below _ (T7.setTop (mkF m 83 #[.val (.ref cn), .val (.int pl), .val (.int pr), .val (.int pg)] [(.int (3 : Int32)), (.ref la)]))
  refine own_up (fun _ k => XS.iloadN X7.here hx rfl (hb hby d_prog_14_m_6_83) rfl k) ?_
  show own_Go p.tables e below _ (T7.setTop (mkF m 84 #[.val (.ref cn), .val (.int pl), .val (.int pr), .val (.int pg)] [(.int pl), (.int (3 : Int32)), (.ref la)]))
  have hin8 : ¬ ((3 : Int32) < 0 ∨ cl5_.slots.size ≤ ((3 : Int32)).toNatClampNeg) := inb_of S5 ⟨by decide, by decide⟩
  obtain ⟨T8, h8, X8, e8, W8, st8⟩ := stI X7 hx hZ e7 Ar5 (j := (3 : Int32)) hin8 (g := (mkF m 84 #[.val (.ref cn), .val (.int pl), .val (.int pr), .val (.int pg)] [(.int pl), (.int (3 : Int32)), (.ref la)])) rfl rfl (hb hby d_prog_14_m_6_84)
  have V8 : Arv Z h8 la ka .int (16 : Int32) [(.int lx0), (.int lx1), (.int lx2), (.int pl)] (.int (0 : Int32)) := Arv.set Ar5 q5 S5 M5 Hs5 G5 rfl W8 3 rfl (Nat.le_of_ble_eq_true rfl)
  have N8 := Fr.snoc X8 N2 G1
  refine own_up st8 ?_
  show own_Go p.tables e below _ (T8.setTop (mkF m 85 #[.val (.ref cn), .val (.int pl), .val (.int pr), .val (.int pg)] []))
  refine own_up (fun _ k => XS.aloadN X8.here hx rfl (hb hby d_prog_14_m_6_85) rfl rfl k) ?_
  show own_Go p.tables e below _ (T8.setTop (mkF m 86 #[.val (.ref cn), .val (.int pl), .val (.int pr), .val (.int pg)] [(.ref cn)]))
  have f9 : Fld Z h8 cn "com/example/hintikka/hintikka/domain/ConstraintNetwork" "relations" "[I" (.ref re) := (FA1.other W8 (Or.inl nq1))
  obtain ⟨T10, X10, e10, st10⟩ := getF X8 hx hZ hown (host := "") (Or.inl (hw _ (List.mem_of_getElem? (i := 56) rfl))) Via.refl e8 f9 (g := (mkF m 86 #[.val (.ref cn), .val (.int pl), .val (.int pr), .val (.int pg)] [(.ref cn)])) rfl rfl (hb hby d_prog_14_m_6_86)
  refine own_up st10 ?_
  show own_Go p.tables e below _ (T10.setTop (mkF m 89 #[.val (.ref cn), .val (.int pl), .val (.int pr), .val (.int pg)] [(.ref re)]))
  refine own_up (fun _ k => XS.aloadN X10.here hx rfl (hb hby d_prog_14_m_6_89) rfl rfl k) ?_
  show own_Go p.tables e below _ (T10.setTop (mkF m 90 #[.val (.ref cn), .val (.int pl), .val (.int pr), .val (.int pg)] [(.ref cn), (.ref re)]))
  have f11 : Fld Z h8 cn "com/example/hintikka/hintikka/domain/ConstraintNetwork" "size" "I" (.int (3 : Int32)) := (FQ.other W8 (Or.inl nq1))
  obtain ⟨T12, X12, e12, st12⟩ := getF X10 hx hZ hown (host := "") (Or.inl (hw _ (List.mem_of_getElem? (i := 112) rfl))) Via.refl e10 f11 (g := (mkF m 90 #[.val (.ref cn), .val (.int pl), .val (.int pr), .val (.int pg)] [(.ref cn), (.ref re)])) rfl rfl (hb hby d_prog_14_m_6_90)
  refine own_up st12 ?_
  show own_Go p.tables e below _ (T12.setTop (mkF m 93 #[.val (.ref cn), .val (.int pl), .val (.int pr), .val (.int pg)] [(.int (3 : Int32)), (.ref re)]))
  refine own_up (fun _ k => XS.iloadN X12.here hx rfl (hb hby d_prog_14_m_6_93) rfl k) ?_
  show own_Go p.tables e below _ (T12.setTop (mkF m 94 #[.val (.ref cn), .val (.int pl), .val (.int pr), .val (.int pg)] [(.int pr), (.int (3 : Int32)), (.ref re)]))
  have f13 : Arv Z h8 re ke .int (16 : Int32) [(.int rx0), (.int rx1), (.int rx2), (.int rx3)] (.int (0 : Int32)) := (V1.other W8 (Ne.symm nq7))
  obtain ⟨cl14_, Ar14, q14, S14, M14, Hs14, G14⟩ := id (f13)
  have hin15 : ¬ ((3 : Int32) < 0 ∨ cl14_.slots.size ≤ ((3 : Int32)).toNatClampNeg) := inb_of S14 ⟨by decide, by decide⟩
  obtain ⟨T15, h15, X15, e15, W15, st15⟩ := stI X12 hx hZ e12 Ar14 (j := (3 : Int32)) hin15 (g := (mkF m 94 #[.val (.ref cn), .val (.int pl), .val (.int pr), .val (.int pg)] [(.int pr), (.int (3 : Int32)), (.ref re)])) rfl rfl (hb hby d_prog_14_m_6_94)
  have V15 : Arv Z h15 re ke .int (16 : Int32) [(.int rx0), (.int rx1), (.int rx2), (.int pr)] (.int (0 : Int32)) := Arv.set Ar14 q14 S14 M14 Hs14 G14 rfl W15 3 rfl (Nat.le_of_ble_eq_true rfl)
  have N15 := Fr.snoc X15 N8 G2
  refine own_up st15 ?_
  show own_Go p.tables e below _ (T15.setTop (mkF m 95 #[.val (.ref cn), .val (.int pl), .val (.int pr), .val (.int pg)] []))
  refine own_up (fun _ k => XS.aloadN X15.here hx rfl (hb hby d_prog_14_m_6_95) rfl rfl k) ?_
  show own_Go p.tables e below _ (T15.setTop (mkF m 96 #[.val (.ref cn), .val (.int pl), .val (.int pr), .val (.int pg)] [(.ref cn)]))
  have f16 : Fld Z h15 cn "com/example/hintikka/hintikka/domain/ConstraintNetwork" "rights" "[I" (.ref ri) := ((FA2.other W8 (Or.inl nq1)).other W15 (Or.inl nq2))
  obtain ⟨T17, X17, e17, st17⟩ := getF X15 hx hZ hown (host := "") (Or.inl (hw _ (List.mem_of_getElem? (i := 58) rfl))) Via.refl e15 f16 (g := (mkF m 96 #[.val (.ref cn), .val (.int pl), .val (.int pr), .val (.int pg)] [(.ref cn)])) rfl rfl (hb hby d_prog_14_m_6_96)
  refine own_up st17 ?_
  show own_Go p.tables e below _ (T17.setTop (mkF m 99 #[.val (.ref cn), .val (.int pl), .val (.int pr), .val (.int pg)] [(.ref ri)]))
  refine own_up (fun _ k => XS.aloadN X17.here hx rfl (hb hby d_prog_14_m_6_99) rfl rfl k) ?_
  show own_Go p.tables e below _ (T17.setTop (mkF m 100 #[.val (.ref cn), .val (.int pl), .val (.int pr), .val (.int pg)] [(.ref cn), (.ref ri)]))
  have f18 : Fld Z h15 cn "com/example/hintikka/hintikka/domain/ConstraintNetwork" "size" "I" (.int (3 : Int32)) := (f11.other W15 (Or.inl nq2))
  obtain ⟨T19, X19, e19, st19⟩ := getF X17 hx hZ hown (host := "") (Or.inl (hw _ (List.mem_of_getElem? (i := 112) rfl))) Via.refl e17 f18 (g := (mkF m 100 #[.val (.ref cn), .val (.int pl), .val (.int pr), .val (.int pg)] [(.ref cn), (.ref ri)])) rfl rfl (hb hby d_prog_14_m_6_100)
  refine own_up st19 ?_
  show own_Go p.tables e below _ (T19.setTop (mkF m 103 #[.val (.ref cn), .val (.int pl), .val (.int pr), .val (.int pg)] [(.int (3 : Int32)), (.ref ri)]))
  refine own_up (fun _ k => XS.iloadN X19.here hx rfl (hb hby d_prog_14_m_6_103) rfl k) ?_
  show own_Go p.tables e below _ (T19.setTop (mkF m 104 #[.val (.ref cn), .val (.int pl), .val (.int pr), .val (.int pg)] [(.int pg), (.int (3 : Int32)), (.ref ri)]))
  have f20 : Arv Z h15 ri ki .int (16 : Int32) [(.int w0), (.int w1), (.int w2), (.int w3)] (.int (0 : Int32)) := ((V2.other W8 (Ne.symm nq8)).other W15 (Ne.symm nq9))
  obtain ⟨cl21_, Ar21, q21, S21, M21, Hs21, G21⟩ := id (f20)
  have hin22 : ¬ ((3 : Int32) < 0 ∨ cl21_.slots.size ≤ ((3 : Int32)).toNatClampNeg) := inb_of S21 ⟨by decide, by decide⟩
  obtain ⟨T22, h22, X22, e22, W22, st22⟩ := stI X19 hx hZ e19 Ar21 (j := (3 : Int32)) hin22 (g := (mkF m 104 #[.val (.ref cn), .val (.int pl), .val (.int pr), .val (.int pg)] [(.int pg), (.int (3 : Int32)), (.ref ri)])) rfl rfl (hb hby d_prog_14_m_6_104)
  have V22 : Arv Z h22 ri ki .int (16 : Int32) [(.int w0), (.int w1), (.int w2), (.int pg)] (.int (0 : Int32)) := Arv.set Ar21 q21 S21 M21 Hs21 G21 rfl W22 3 rfl (Nat.le_of_ble_eq_true rfl)
  have N22 := Fr.snoc X22 N15 G3
  refine own_up st22 ?_
  show own_Go p.tables e below _ (T22.setTop (mkF m 105 #[.val (.ref cn), .val (.int pl), .val (.int pr), .val (.int pg)] []))
  refine own_up (fun _ k => XS.aloadN X22.here hx rfl (hb hby d_prog_14_m_6_105) rfl rfl k) ?_
  show own_Go p.tables e below _ (T22.setTop (mkF m 106 #[.val (.ref cn), .val (.int pl), .val (.int pr), .val (.int pg)] [(.ref cn)]))
  refine own_up (fun _ k => XS.dup X22.here hx rfl (hb hby d_prog_14_m_6_106) rfl rfl k) ?_
  show own_Go p.tables e below _ (T22.setTop (mkF m 107 #[.val (.ref cn), .val (.int pl), .val (.int pr), .val (.int pg)] [(.ref cn), (.ref cn)]))
  have f23 : Fld Z h22 cn "com/example/hintikka/hintikka/domain/ConstraintNetwork" "size" "I" (.int (3 : Int32)) := (f18.other W22 (Or.inl nq3))
  obtain ⟨T24, X24, e24, st24⟩ := getF X22 hx hZ hown (host := "") (Or.inl (hw _ (List.mem_of_getElem? (i := 112) rfl))) Via.refl e22 f23 (g := (mkF m 107 #[.val (.ref cn), .val (.int pl), .val (.int pr), .val (.int pg)] [(.ref cn), (.ref cn)])) rfl rfl (hb hby d_prog_14_m_6_107)
  refine own_up st24 ?_
  show own_Go p.tables e below _ (T24.setTop (mkF m 110 #[.val (.ref cn), .val (.int pl), .val (.int pr), .val (.int pg)] [(.int (3 : Int32)), (.ref cn)]))
  refine own_up (fun _ k => XS.iconst X24.here hx rfl (hb hby d_prog_14_m_6_110) k) ?_
  show own_Go p.tables e below _ (T24.setTop (mkF m 111 #[.val (.ref cn), .val (.int pl), .val (.int pr), .val (.int pg)] [(.int (1 : Int32)), (.int (3 : Int32)), (.ref cn)]))
  refine own_up (fun _ k => XS.iadd X24.here hx rfl (hb hby d_prog_14_m_6_111) rfl k) ?_
  show own_Go p.tables e below _ (T24.setTop (mkF m 112 #[.val (.ref cn), .val (.int pl), .val (.int pr), .val (.int pg)] [(.int (4 : Int32)), (.ref cn)]))
  have f25 : Exa Z h22 cn "com/example/hintikka/hintikka/domain/ConstraintNetwork" := (((EC.wr W8).wr W15).wr W22)
  obtain ⟨T26, h26, X26, e26, W26, st26⟩ := putF X24 hx hZ hown (host := "") (Or.inl (hw _ (List.mem_of_getElem? (i := 112) rfl))) Via.refl e24 f23 f25 (Or.inl (hw _ (List.mem_of_getElem? (i := 113) rfl))) (hw _ (List.mem_of_getElem? (i := 2) rfl)) (ty := .int) (by decide) rfl rfl (g := (mkF m 112 #[.val (.ref cn), .val (.int pl), .val (.int pr), .val (.int pg)] [(.int (4 : Int32)), (.ref cn)])) rfl rfl (hb hby d_prog_14_m_6_112)
  have Fw26 := f23.same W26
  have N26 := Fr.snoc X26 N22 G0
  refine own_up st26 ?_
  show own_Go p.tables e below _ (T26.setTop (mkF m 115 #[.val (.ref cn), .val (.int pl), .val (.int pr), .val (.int pg)] []))
  have f27 : Exa Z h26 cn "com/example/hintikka/hintikka/domain/ConstraintNetwork" := (f25.wr W26)
  have f28 : Fld Z h26 cn "com/example/hintikka/hintikka/domain/ConstraintNetwork" "constants" "Ljava/util/List;" (.ref al) := ((((FC.other W8 (Or.inl nq1)).other W15 (Or.inl nq2)).other W22 (Or.inl nq3)).other W26 (Or.inr (slot_ne (Or.inr (hw _ (List.mem_of_getElem? (i := 35) rfl))) (Or.inl (hw _ (List.mem_of_getElem? (i := 113) rfl))) (by decide) (t := (.object "java/util/List")) (t' := .int) (by decide) (by decide))))
  have f29 : Fld Z h26 cn "com/example/hintikka/hintikka/domain/ConstraintNetwork" "lefts" "[I" (.ref la) := ((((FA0.other W8 (Or.inl nq1)).other W15 (Or.inl nq2)).other W22 (Or.inl nq3)).other W26 (Or.inr (slot_ne (Or.inl (hw _ (List.mem_of_getElem? (i := 55) rfl))) (Or.inl (hw _ (List.mem_of_getElem? (i := 113) rfl))) (by decide) (t := (.array .int)) (t' := .int) (by decide) (by decide))))
  have f30 : Fld Z h26 cn "com/example/hintikka/hintikka/domain/ConstraintNetwork" "relations" "[I" (.ref re) := (((f9.other W15 (Or.inl nq2)).other W22 (Or.inl nq3)).other W26 (Or.inr (slot_ne (Or.inl (hw _ (List.mem_of_getElem? (i := 57) rfl))) (Or.inl (hw _ (List.mem_of_getElem? (i := 113) rfl))) (by decide) (t := (.array .int)) (t' := .int) (by decide) (by decide))))
  have f31 : Fld Z h26 cn "com/example/hintikka/hintikka/domain/ConstraintNetwork" "rights" "[I" (.ref ri) := ((f16.other W22 (Or.inl nq3)).other W26 (Or.inr (slot_ne (Or.inl (hw _ (List.mem_of_getElem? (i := 59) rfl))) (Or.inl (hw _ (List.mem_of_getElem? (i := 113) rfl))) (by decide) (t := (.array .int)) (t' := .int) (by decide) (by decide))))
  have f32 : Arv Z h26 la ka .int (16 : Int32) [(.int lx0), (.int lx1), (.int lx2), (.int pl)] (.int (0 : Int32)) := (((V8.other W15 nq7).other W22 nq8).other W26 (Ne.symm nq1))
  have f33 : Arv Z h26 re ke .int (16 : Int32) [(.int rx0), (.int rx1), (.int rx2), (.int pr)] (.int (0 : Int32)) := ((V15.other W22 nq9).other W26 (Ne.symm nq2))
  have f34 : Arv Z h26 ri ki .int (16 : Int32) [(.int w0), (.int w1), (.int w2), (.int pg)] (.int (0 : Int32)) := (V22.other W26 (Ne.symm nq3))
  exact own_end X26 hlk (v := none) (fun _ => rfl) (fun fs hr => X26.returnOut hx Bd.returns (hb hby d_prog_14_m_6_115) hr) e26 ⟨rfl, N26, (((((Keep.refl h0 [cn, la, re, ri]).wr W8 (Or.inl (List.mem_of_getElem? (i := 1) rfl))).wr W15 (Or.inl (List.mem_of_getElem? (i := 2) rfl))).wr W22 (Or.inl (List.mem_of_getElem? (i := 3) rfl))).wr W26 (Or.inl (List.mem_of_getElem? (i := 0) rfl))), f27, f28, f29, f30, f31, Fw26, f32, f33, f34⟩ (by decide) (by decide)
theorem own_pd8 : parseMethodDescriptor "(III)V" = some ⟨[.int, .int, .int], none⟩ := by decide +kernel
theorem own_pd9 : parseMethodDescriptor "(I)V" = some ⟨[.int], none⟩ := by decide +kernel
theorem own_pn6 : plainName "com/example/hintikka/hintikka/domain/ConstraintNetworkTruncatePinLaw" = true := by first | (simp [plainName, overriddenIn]; done) | decide +kernel
theorem ef_rm0 (m : MethodId) (y0 : Int32) (y1 : Int32) (y2 : Int32) (y3 : Int32) (y4 : Int32) (y5 : Int32) : entryFrame m #[(.int y0), (.int y1), (.int y2), (.int y3), (.int y4), (.int y5)] maxLocals = mkF m 0 #[.val (.int y0), .val (.int y1), .val (.int y2), .val (.int y3), .val (.int y4), .val (.int y5), .unset, .unset, .unset, .unset, .unset, .unset, .unset] [] := by first | (simp [entryFrame, mkF, argsToLocals, Value.category, maxLocals]; done) | rfl
def Q_rm0 (Z : State) (p0 : Int32) (p1 : Int32) (p2 : Int32) (p3 : Int32) (p4 : Int32) (p5 : Int32) (de : Addr) (kd : ClassId) (h0 : Heap) (n0 : Nat) (v : Option Value) (h : Heap) (L : List Loc) : Prop := v = some (.int (1 : Int32)) ∧ Fr n0 L
set_option maxRecDepth 65536 in
set_option maxHeartbeats 40000000 in
theorem rm0 (l : Launch) (Z : State) (a0 : Array Value) (hw : ∀ d ∈ tables_1, d.before a0 Z = true) (ws : List Jvm.Cond) (p0 : Int32) (p1 : Int32) (p2 : Int32) (p3 : Int32) (p4 : Int32) (p5 : Int32) (de : Addr) (kd : ClassId) (h0 : Heap) (n0 : Nat) (Z0 : n0 ≤ h0.size) (O : Old Z n0 h0) (S : Sta Z Z.heap "java/util/ArrayList" "DEFAULTCAPACITY_EMPTY_ELEMENTDATA" "[Ljava/lang/Object;" (.ref de)) (AD : Arv Z Z.heap de kd (.object "java/lang/Object") (0 : Int32) [] .null) :
    MetFree l x (head1 (Jvm.Cond.code x code maxLocals ret :: ws) room_1) (fun ar U => ar = #[(.int p0), (.int p1), (.int p2), (.int p3), (.int p4), (.int p5)] ∧ Z.Warmed39 U.vm ∧ U.heap = h0) (fun _ _ _ _ _ => True) (fun _ U o U' => ∃ v L, o = .returned v ∧ Q_rm0 Z p0 p1 p2 p3 p4 p5 de kd h0 n0 v U'.heap L ∧ FrameEnd U o U' L room_1.cells room_1.slots) := by
  refine MetFree.of_bodySF (plainFor_of_name own_pn6) hisR ?_
  intro p e s m args below meth c s₁ Bd hml0 hP hK
  obtain ⟨rfl, hZ, hh⟩ := hP
  have hx := Bd.exec
  have hby := Bd.bytes
  have hlk : meth.locks = false := BodyLoose.notSynchronized Bd
  have hml : c.maxLocals = 13 := hml0
  have hown : s.vm.findClass "com/example/hintikka/hintikka/domain/ConstraintNetworkTruncatePinLaw" = some m.cls := findClass_of_methodNamed Bd.named
  have hnm := (name_of_methodNamed Bd.named Bd.method).1
  have X0 : Stand p l e room_1 s m #[(.int p0), (.int p1), (.int p2), (.int p3), (.int p4), (.int p5)] below meth c s₁ [] 0 0 := Stand.of_body Bd
  have e0 : s₁.heap = h0 := by rw [← hh, Bd.state]; rfl
  have N0 := Fr.nil n0
  show own_Go p.tables e below (fun u o => ∃ v L, o = .returned v ∧ Q_rm0 Z p0 p1 p2 p3 p4 p5 de kd h0 n0 v u.heap L ∧ FrameEnd s o u L room_1.cells room_1.slots) (s₁.setTop (entryFrame m #[(.int p0), (.int p1), (.int p2), (.int p3), (.int p4), (.int p5)] maxLocals))
  refine own_up (fun _ k => castTop (ef_rm0 m p0 p1 p2 p3 p4 p5) k) ?_
  show own_Go p.tables e below _ (s₁.setTop (mkF m 0 #[.val (.int p0), .val (.int p1), .val (.int p2), .val (.int p3), .val (.int p4), .val (.int p5), .unset, .unset, .unset, .unset, .unset, .unset, .unset] []))
  refine own_up (fun _ k => XS.iconst X0.here hx rfl (hb hby at_0) k) ?_
  show own_Go p.tables e below _ (s₁.setTop (mkF m 1 #[.val (.int p0), .val (.int p1), .val (.int p2), .val (.int p3), .val (.int p4), .val (.int p5), .unset, .unset, .unset, .unset, .unset, .unset, .unset] [(.int (3 : Int32))]))
  obtain ⟨T1, h1, k1, X1, e1, E1, A1, st1⟩ := newP X0 hx hZ (hw _ (List.mem_of_getElem? (i := 0) rfl)) e0 (g := (mkF m 1 #[.val (.int p0), .val (.int p1), .val (.int p2), .val (.int p3), .val (.int p4), .val (.int p5), .unset, .unset, .unset, .unset, .unset, .unset, .unset] [(.int (3 : Int32))])) rfl (hb hby at_1) rfl (by decide) (cap := 3) (by decide) (by decide) (by decide) (by decide)
  obtain ⟨b1, g1⟩ : ∃ z, z = h0.size := ⟨_, rfl⟩
  rw [← g1] at A1 st1
  have ge1 : n0 ≤ b1 := Nat.le_trans Z0 (Nat.le_of_eq g1.symm)
  refine own_up st1 ?_
  have V1 : Arv Z h1 b1 k1 .int (3 : Int32) [(.int (0 : Int32)), (.int (0 : Int32)), (.int (0 : Int32))] (.int (0 : Int32)) := (Arv.new A1 (by decide)).pad (pad_rep [] (.int (0 : Int32)) 3)
  show own_Go p.tables e below _ (T1.setTop (mkF m 3 #[.val (.int p0), .val (.int p1), .val (.int p2), .val (.int p3), .val (.int p4), .val (.int p5), .unset, .unset, .unset, .unset, .unset, .unset, .unset] [(.ref b1)]))
  refine own_up (fun _ k => XS.dup X1.here hx rfl (hb hby at_3) rfl rfl k) ?_
  show own_Go p.tables e below _ (T1.setTop (mkF m 4 #[.val (.int p0), .val (.int p1), .val (.int p2), .val (.int p3), .val (.int p4), .val (.int p5), .unset, .unset, .unset, .unset, .unset, .unset, .unset] [(.ref b1), (.ref b1)]))
  refine own_up (fun _ k => XS.iconst X1.here hx rfl (hb hby at_4) k) ?_
  show own_Go p.tables e below _ (T1.setTop (mkF m 5 #[.val (.int p0), .val (.int p1), .val (.int p2), .val (.int p3), .val (.int p4), .val (.int p5), .unset, .unset, .unset, .unset, .unset, .unset, .unset] [(.int (0 : Int32)), (.ref b1), (.ref b1)]))
  refine own_up (fun _ k => XS.iconst X1.here hx rfl (hb hby at_5) k) ?_
  show own_Go p.tables e below _ (T1.setTop (mkF m 6 #[.val (.int p0), .val (.int p1), .val (.int p2), .val (.int p3), .val (.int p4), .val (.int p5), .unset, .unset, .unset, .unset, .unset, .unset, .unset] [(.int (0 : Int32)), (.int (0 : Int32)), (.ref b1), (.ref b1)]))
  obtain ⟨cl2_, Ar2, q2, S2, M2, Hs2, G2⟩ := id (V1)
  have hin3 : ¬ ((0 : Int32) < 0 ∨ cl2_.slots.size ≤ ((0 : Int32)).toNatClampNeg) := inb_of S2 ⟨by decide, by decide⟩
  obtain ⟨T3, h3, X3, e3, W3, st3⟩ := stI X1 hx hZ e1 Ar2 (j := (0 : Int32)) hin3 (g := (mkF m 6 #[.val (.int p0), .val (.int p1), .val (.int p2), .val (.int p3), .val (.int p4), .val (.int p5), .unset, .unset, .unset, .unset, .unset, .unset, .unset] [(.int (0 : Int32)), (.int (0 : Int32)), (.ref b1), (.ref b1)])) rfl rfl (hb hby at_6)
  have V3 : Arv Z h3 b1 k1 .int (3 : Int32) [(.int (0 : Int32)), (.int (0 : Int32)), (.int (0 : Int32))] (.int (0 : Int32)) := Arv.set Ar2 q2 S2 M2 Hs2 G2 rfl W3 0 rfl (Nat.le_of_ble_eq_true rfl)
  have N3 := Fr.snoc X3 N0 ge1
  refine own_up st3 ?_
  show own_Go p.tables e below _ (T3.setTop (mkF m 7 #[.val (.int p0), .val (.int p1), .val (.int p2), .val (.int p3), .val (.int p4), .val (.int p5), .unset, .unset, .unset, .unset, .unset, .unset, .unset] [(.ref b1)]))
  refine own_up (fun _ k => XS.dup X3.here hx rfl (hb hby at_7) rfl rfl k) ?_
  show own_Go p.tables e below _ (T3.setTop (mkF m 8 #[.val (.int p0), .val (.int p1), .val (.int p2), .val (.int p3), .val (.int p4), .val (.int p5), .unset, .unset, .unset, .unset, .unset, .unset, .unset] [(.ref b1), (.ref b1)]))
  refine own_up (fun _ k => XS.iconst X3.here hx rfl (hb hby at_8) k) ?_
  show own_Go p.tables e below _ (T3.setTop (mkF m 9 #[.val (.int p0), .val (.int p1), .val (.int p2), .val (.int p3), .val (.int p4), .val (.int p5), .unset, .unset, .unset, .unset, .unset, .unset, .unset] [(.int (1 : Int32)), (.ref b1), (.ref b1)]))
  refine own_up (fun _ k => XS.iconst X3.here hx rfl (hb hby at_9) k) ?_
  show own_Go p.tables e below _ (T3.setTop (mkF m 10 #[.val (.int p0), .val (.int p1), .val (.int p2), .val (.int p3), .val (.int p4), .val (.int p5), .unset, .unset, .unset, .unset, .unset, .unset, .unset] [(.int (1 : Int32)), (.int (1 : Int32)), (.ref b1), (.ref b1)]))
  obtain ⟨cl4_, Ar4, q4, S4, M4, Hs4, G4⟩ := id (V3)
  have hin5 : ¬ ((1 : Int32) < 0 ∨ cl4_.slots.size ≤ ((1 : Int32)).toNatClampNeg) := inb_of S4 ⟨by decide, by decide⟩
  obtain ⟨T5, h5, X5, e5, W5, st5⟩ := stI X3 hx hZ e3 Ar4 (j := (1 : Int32)) hin5 (g := (mkF m 10 #[.val (.int p0), .val (.int p1), .val (.int p2), .val (.int p3), .val (.int p4), .val (.int p5), .unset, .unset, .unset, .unset, .unset, .unset, .unset] [(.int (1 : Int32)), (.int (1 : Int32)), (.ref b1), (.ref b1)])) rfl rfl (hb hby at_10)
  have V5 : Arv Z h5 b1 k1 .int (3 : Int32) [(.int (0 : Int32)), (.int (1 : Int32)), (.int (0 : Int32))] (.int (0 : Int32)) := Arv.set Ar4 q4 S4 M4 Hs4 G4 rfl W5 1 rfl (Nat.le_of_ble_eq_true rfl)
  have N5 := Fr.snoc X5 N3 ge1
  refine own_up st5 ?_
  show own_Go p.tables e below _ (T5.setTop (mkF m 11 #[.val (.int p0), .val (.int p1), .val (.int p2), .val (.int p3), .val (.int p4), .val (.int p5), .unset, .unset, .unset, .unset, .unset, .unset, .unset] [(.ref b1)]))
  refine own_up (fun _ k => XS.dup X5.here hx rfl (hb hby at_11) rfl rfl k) ?_
  show own_Go p.tables e below _ (T5.setTop (mkF m 12 #[.val (.int p0), .val (.int p1), .val (.int p2), .val (.int p3), .val (.int p4), .val (.int p5), .unset, .unset, .unset, .unset, .unset, .unset, .unset] [(.ref b1), (.ref b1)]))
  refine own_up (fun _ k => XS.iconst X5.here hx rfl (hb hby at_12) k) ?_
  show own_Go p.tables e below _ (T5.setTop (mkF m 13 #[.val (.int p0), .val (.int p1), .val (.int p2), .val (.int p3), .val (.int p4), .val (.int p5), .unset, .unset, .unset, .unset, .unset, .unset, .unset] [(.int (2 : Int32)), (.ref b1), (.ref b1)]))
  refine own_up (fun _ k => XS.iconst X5.here hx rfl (hb hby at_13) k) ?_
  show own_Go p.tables e below _ (T5.setTop (mkF m 14 #[.val (.int p0), .val (.int p1), .val (.int p2), .val (.int p3), .val (.int p4), .val (.int p5), .unset, .unset, .unset, .unset, .unset, .unset, .unset] [(.int (1 : Int32)), (.int (2 : Int32)), (.ref b1), (.ref b1)]))
  obtain ⟨cl6_, Ar6, q6, S6, M6, Hs6, G6⟩ := id (V5)
  have hin7 : ¬ ((2 : Int32) < 0 ∨ cl6_.slots.size ≤ ((2 : Int32)).toNatClampNeg) := inb_of S6 ⟨by decide, by decide⟩
  obtain ⟨T7, h7, X7, e7, W7, st7⟩ := stI X5 hx hZ e5 Ar6 (j := (2 : Int32)) hin7 (g := (mkF m 14 #[.val (.int p0), .val (.int p1), .val (.int p2), .val (.int p3), .val (.int p4), .val (.int p5), .unset, .unset, .unset, .unset, .unset, .unset, .unset] [(.int (1 : Int32)), (.int (2 : Int32)), (.ref b1), (.ref b1)])) rfl rfl (hb hby at_14)
  have V7 : Arv Z h7 b1 k1 .int (3 : Int32) [(.int (0 : Int32)), (.int (1 : Int32)), (.int (1 : Int32))] (.int (0 : Int32)) := Arv.set Ar6 q6 S6 M6 Hs6 G6 rfl W7 2 rfl (Nat.le_of_ble_eq_true rfl)
  have N7 := Fr.snoc X7 N5 ge1
  refine own_up st7 ?_
  show own_Go p.tables e below _ (T7.setTop (mkF m 15 #[.val (.int p0), .val (.int p1), .val (.int p2), .val (.int p3), .val (.int p4), .val (.int p5), .unset, .unset, .unset, .unset, .unset, .unset, .unset] [(.ref b1)]))
  refine own_up (fun _ k => XS.astore X7.here hx rfl (hb hby at_15) rfl rfl (l' := #[.val (.int p0), .val (.int p1), .val (.int p2), .val (.int p3), .val (.int p4), .val (.int p5), .val (.ref b1), .unset, .unset, .unset, .unset, .unset, .unset]) rfl k) ?_
  show own_Go p.tables e below _ (T7.setTop (mkF m 17 #[.val (.int p0), .val (.int p1), .val (.int p2), .val (.int p3), .val (.int p4), .val (.int p5), .val (.ref b1), .unset, .unset, .unset, .unset, .unset, .unset] []))
  refine own_up (fun _ k => XS.iconst X7.here hx rfl (hb hby at_17) k) ?_
  show own_Go p.tables e below _ (T7.setTop (mkF m 18 #[.val (.int p0), .val (.int p1), .val (.int p2), .val (.int p3), .val (.int p4), .val (.int p5), .val (.ref b1), .unset, .unset, .unset, .unset, .unset, .unset] [(.int (3 : Int32))]))
  obtain ⟨T8, h8, k8, X8, e8, E8, A8, st8⟩ := newP X7 hx hZ (hw _ (List.mem_of_getElem? (i := 0) rfl)) e7 (g := (mkF m 18 #[.val (.int p0), .val (.int p1), .val (.int p2), .val (.int p3), .val (.int p4), .val (.int p5), .val (.ref b1), .unset, .unset, .unset, .unset, .unset, .unset] [(.int (3 : Int32))])) rfl (hb hby at_18) rfl (by decide) (cap := 3) (by decide) (by decide) (by decide) (by decide)
  have f9 : n0 ≤ h7.size := (Nat.le_trans (Nat.le_trans (Nat.le_trans (Nat.le_trans Z0 E1.1) (Nat.le_of_eq (Wr.size W3).symm)) (Nat.le_of_eq (Wr.size W5).symm)) (Nat.le_of_eq (Wr.size W7).symm))
  obtain ⟨b8, g8⟩ : ∃ z, z = h7.size := ⟨_, rfl⟩
  rw [← g8] at A8 st8
  have ge8 : n0 ≤ b8 := Nat.le_trans f9 (Nat.le_of_eq g8.symm)
  have ne8_0 : b1 ≠ b8 := Nat.ne_of_lt (Nat.lt_of_lt_of_le V7.lt (Nat.le_of_eq g8.symm))
  refine own_up st8 ?_
  have V8 : Arv Z h8 b8 k8 .int (3 : Int32) [(.int (0 : Int32)), (.int (0 : Int32)), (.int (0 : Int32))] (.int (0 : Int32)) := (Arv.new A8 (by decide)).pad (pad_rep [] (.int (0 : Int32)) 3)
  show own_Go p.tables e below _ (T8.setTop (mkF m 20 #[.val (.int p0), .val (.int p1), .val (.int p2), .val (.int p3), .val (.int p4), .val (.int p5), .val (.ref b1), .unset, .unset, .unset, .unset, .unset, .unset] [(.ref b8)]))
  refine own_up (fun _ k => XS.dup X8.here hx rfl (hb hby at_20) rfl rfl k) ?_
  show own_Go p.tables e below _ (T8.setTop (mkF m 21 #[.val (.int p0), .val (.int p1), .val (.int p2), .val (.int p3), .val (.int p4), .val (.int p5), .val (.ref b1), .unset, .unset, .unset, .unset, .unset, .unset] [(.ref b8), (.ref b8)]))
  refine own_up (fun _ k => XS.iconst X8.here hx rfl (hb hby at_21) k) ?_
  show own_Go p.tables e below _ (T8.setTop (mkF m 22 #[.val (.int p0), .val (.int p1), .val (.int p2), .val (.int p3), .val (.int p4), .val (.int p5), .val (.ref b1), .unset, .unset, .unset, .unset, .unset, .unset] [(.int (0 : Int32)), (.ref b8), (.ref b8)]))
  refine own_up (fun _ k => XS.iconst X8.here hx rfl (hb hby at_22) k) ?_
  show own_Go p.tables e below _ (T8.setTop (mkF m 23 #[.val (.int p0), .val (.int p1), .val (.int p2), .val (.int p3), .val (.int p4), .val (.int p5), .val (.ref b1), .unset, .unset, .unset, .unset, .unset, .unset] [(.int (1 : Int32)), (.int (0 : Int32)), (.ref b8), (.ref b8)]))
  obtain ⟨cl10_, Ar10, q10, S10, M10, Hs10, G10⟩ := id (V8)
  have hin11 : ¬ ((0 : Int32) < 0 ∨ cl10_.slots.size ≤ ((0 : Int32)).toNatClampNeg) := inb_of S10 ⟨by decide, by decide⟩
  obtain ⟨T11, h11, X11, e11, W11, st11⟩ := stI X8 hx hZ e8 Ar10 (j := (0 : Int32)) hin11 (g := (mkF m 23 #[.val (.int p0), .val (.int p1), .val (.int p2), .val (.int p3), .val (.int p4), .val (.int p5), .val (.ref b1), .unset, .unset, .unset, .unset, .unset, .unset] [(.int (1 : Int32)), (.int (0 : Int32)), (.ref b8), (.ref b8)])) rfl rfl (hb hby at_23)
  have V11 : Arv Z h11 b8 k8 .int (3 : Int32) [(.int (1 : Int32)), (.int (0 : Int32)), (.int (0 : Int32))] (.int (0 : Int32)) := Arv.set Ar10 q10 S10 M10 Hs10 G10 rfl W11 0 rfl (Nat.le_of_ble_eq_true rfl)
  have N11 := Fr.snoc X11 N7 ge8
  refine own_up st11 ?_
  show own_Go p.tables e below _ (T11.setTop (mkF m 24 #[.val (.int p0), .val (.int p1), .val (.int p2), .val (.int p3), .val (.int p4), .val (.int p5), .val (.ref b1), .unset, .unset, .unset, .unset, .unset, .unset] [(.ref b8)]))
  refine own_up (fun _ k => XS.dup X11.here hx rfl (hb hby at_24) rfl rfl k) ?_
  show own_Go p.tables e below _ (T11.setTop (mkF m 25 #[.val (.int p0), .val (.int p1), .val (.int p2), .val (.int p3), .val (.int p4), .val (.int p5), .val (.ref b1), .unset, .unset, .unset, .unset, .unset, .unset] [(.ref b8), (.ref b8)]))
  refine own_up (fun _ k => XS.iconst X11.here hx rfl (hb hby at_25) k) ?_
  show own_Go p.tables e below _ (T11.setTop (mkF m 26 #[.val (.int p0), .val (.int p1), .val (.int p2), .val (.int p3), .val (.int p4), .val (.int p5), .val (.ref b1), .unset, .unset, .unset, .unset, .unset, .unset] [(.int (1 : Int32)), (.ref b8), (.ref b8)]))
  refine own_up (fun _ k => XS.iconst X11.here hx rfl (hb hby at_26) k) ?_
  show own_Go p.tables e below _ (T11.setTop (mkF m 27 #[.val (.int p0), .val (.int p1), .val (.int p2), .val (.int p3), .val (.int p4), .val (.int p5), .val (.ref b1), .unset, .unset, .unset, .unset, .unset, .unset] [(.int (0 : Int32)), (.int (1 : Int32)), (.ref b8), (.ref b8)]))
  obtain ⟨cl12_, Ar12, q12, S12, M12, Hs12, G12⟩ := id (V11)
  have hin13 : ¬ ((1 : Int32) < 0 ∨ cl12_.slots.size ≤ ((1 : Int32)).toNatClampNeg) := inb_of S12 ⟨by decide, by decide⟩
  obtain ⟨T13, h13, X13, e13, W13, st13⟩ := stI X11 hx hZ e11 Ar12 (j := (1 : Int32)) hin13 (g := (mkF m 27 #[.val (.int p0), .val (.int p1), .val (.int p2), .val (.int p3), .val (.int p4), .val (.int p5), .val (.ref b1), .unset, .unset, .unset, .unset, .unset, .unset] [(.int (0 : Int32)), (.int (1 : Int32)), (.ref b8), (.ref b8)])) rfl rfl (hb hby at_27)
  have V13 : Arv Z h13 b8 k8 .int (3 : Int32) [(.int (1 : Int32)), (.int (0 : Int32)), (.int (0 : Int32))] (.int (0 : Int32)) := Arv.set Ar12 q12 S12 M12 Hs12 G12 rfl W13 1 rfl (Nat.le_of_ble_eq_true rfl)
  have N13 := Fr.snoc X13 N11 ge8
  refine own_up st13 ?_
  show own_Go p.tables e below _ (T13.setTop (mkF m 28 #[.val (.int p0), .val (.int p1), .val (.int p2), .val (.int p3), .val (.int p4), .val (.int p5), .val (.ref b1), .unset, .unset, .unset, .unset, .unset, .unset] [(.ref b8)]))
  refine own_up (fun _ k => XS.dup X13.here hx rfl (hb hby at_28) rfl rfl k) ?_
  show own_Go p.tables e below _ (T13.setTop (mkF m 29 #[.val (.int p0), .val (.int p1), .val (.int p2), .val (.int p3), .val (.int p4), .val (.int p5), .val (.ref b1), .unset, .unset, .unset, .unset, .unset, .unset] [(.ref b8), (.ref b8)]))
  refine own_up (fun _ k => XS.iconst X13.here hx rfl (hb hby at_29) k) ?_
  show own_Go p.tables e below _ (T13.setTop (mkF m 30 #[.val (.int p0), .val (.int p1), .val (.int p2), .val (.int p3), .val (.int p4), .val (.int p5), .val (.ref b1), .unset, .unset, .unset, .unset, .unset, .unset] [(.int (2 : Int32)), (.ref b8), (.ref b8)]))
  refine own_up (fun _ k => XS.iconst X13.here hx rfl (hb hby at_30) k) ?_
  show own_Go p.tables e below _ (T13.setTop (mkF m 31 #[.val (.int p0), .val (.int p1), .val (.int p2), .val (.int p3), .val (.int p4), .val (.int p5), .val (.ref b1), .unset, .unset, .unset, .unset, .unset, .unset] [(.int (1 : Int32)), (.int (2 : Int32)), (.ref b8), (.ref b8)]))
  obtain ⟨cl14_, Ar14, q14, S14, M14, Hs14, G14⟩ := id (V13)
  have hin15 : ¬ ((2 : Int32) < 0 ∨ cl14_.slots.size ≤ ((2 : Int32)).toNatClampNeg) := inb_of S14 ⟨by decide, by decide⟩
  obtain ⟨T15, h15, X15, e15, W15, st15⟩ := stI X13 hx hZ e13 Ar14 (j := (2 : Int32)) hin15 (g := (mkF m 31 #[.val (.int p0), .val (.int p1), .val (.int p2), .val (.int p3), .val (.int p4), .val (.int p5), .val (.ref b1), .unset, .unset, .unset, .unset, .unset, .unset] [(.int (1 : Int32)), (.int (2 : Int32)), (.ref b8), (.ref b8)])) rfl rfl (hb hby at_31)
  have V15 : Arv Z h15 b8 k8 .int (3 : Int32) [(.int (1 : Int32)), (.int (0 : Int32)), (.int (1 : Int32))] (.int (0 : Int32)) := Arv.set Ar14 q14 S14 M14 Hs14 G14 rfl W15 2 rfl (Nat.le_of_ble_eq_true rfl)
  have N15 := Fr.snoc X15 N13 ge8
  refine own_up st15 ?_
  show own_Go p.tables e below _ (T15.setTop (mkF m 32 #[.val (.int p0), .val (.int p1), .val (.int p2), .val (.int p3), .val (.int p4), .val (.int p5), .val (.ref b1), .unset, .unset, .unset, .unset, .unset, .unset] [(.ref b8)]))
  refine own_up (fun _ k => XS.astore X15.here hx rfl (hb hby at_32) rfl rfl (l' := #[.val (.int p0), .val (.int p1), .val (.int p2), .val (.int p3), .val (.int p4), .val (.int p5), .val (.ref b1), .val (.ref b8), .unset, .unset, .unset, .unset, .unset]) rfl k) ?_
  show own_Go p.tables e below _ (T15.setTop (mkF m 34 #[.val (.int p0), .val (.int p1), .val (.int p2), .val (.int p3), .val (.int p4), .val (.int p5), .val (.ref b1), .val (.ref b8), .unset, .unset, .unset, .unset, .unset] []))
  refine own_up (fun _ k => XS.iconst X15.here hx rfl (hb hby at_34) k) ?_
  show own_Go p.tables e below _ (T15.setTop (mkF m 35 #[.val (.int p0), .val (.int p1), .val (.int p2), .val (.int p3), .val (.int p4), .val (.int p5), .val (.ref b1), .val (.ref b8), .unset, .unset, .unset, .unset, .unset] [(.int (3 : Int32))]))
  obtain ⟨T16, h16, k16, X16, e16, E16, A16, st16⟩ := newP X15 hx hZ (hw _ (List.mem_of_getElem? (i := 0) rfl)) e15 (g := (mkF m 35 #[.val (.int p0), .val (.int p1), .val (.int p2), .val (.int p3), .val (.int p4), .val (.int p5), .val (.ref b1), .val (.ref b8), .unset, .unset, .unset, .unset, .unset] [(.int (3 : Int32))])) rfl (hb hby at_35) rfl (by decide) (cap := 3) (by decide) (by decide) (by decide) (by decide)
  have f17 : n0 ≤ h15.size := (Nat.le_trans (Nat.le_trans (Nat.le_trans (Nat.le_trans f9 E8.1) (Nat.le_of_eq (Wr.size W11).symm)) (Nat.le_of_eq (Wr.size W13).symm)) (Nat.le_of_eq (Wr.size W15).symm))
  have f18 : Arv Z h15 b1 k1 .int (3 : Int32) [(.int (0 : Int32)), (.int (1 : Int32)), (.int (1 : Int32))] (.int (0 : Int32)) := ((((V7.ext E8).other W11 ne8_0).other W13 ne8_0).other W15 ne8_0)
  obtain ⟨b16, g16⟩ : ∃ z, z = h15.size := ⟨_, rfl⟩
  rw [← g16] at A16 st16
  have ge16 : n0 ≤ b16 := Nat.le_trans f17 (Nat.le_of_eq g16.symm)
  have ne16_0 : b1 ≠ b16 := Nat.ne_of_lt (Nat.lt_of_lt_of_le f18.lt (Nat.le_of_eq g16.symm))
  have ne16_1 : b8 ≠ b16 := Nat.ne_of_lt (Nat.lt_of_lt_of_le V15.lt (Nat.le_of_eq g16.symm))
  refine own_up st16 ?_
  have V16 : Arv Z h16 b16 k16 .int (3 : Int32) [(.int (0 : Int32)), (.int (0 : Int32)), (.int (0 : Int32))] (.int (0 : Int32)) := (Arv.new A16 (by decide)).pad (pad_rep [] (.int (0 : Int32)) 3)
  show own_Go p.tables e below _ (T16.setTop (mkF m 37 #[.val (.int p0), .val (.int p1), .val (.int p2), .val (.int p3), .val (.int p4), .val (.int p5), .val (.ref b1), .val (.ref b8), .unset, .unset, .unset, .unset, .unset] [(.ref b16)]))
  refine own_up (fun _ k => XS.dup X16.here hx rfl (hb hby at_37) rfl rfl k) ?_
  show own_Go p.tables e below _ (T16.setTop (mkF m 38 #[.val (.int p0), .val (.int p1), .val (.int p2), .val (.int p3), .val (.int p4), .val (.int p5), .val (.ref b1), .val (.ref b8), .unset, .unset, .unset, .unset, .unset] [(.ref b16), (.ref b16)]))
  refine own_up (fun _ k => XS.iconst X16.here hx rfl (hb hby at_38) k) ?_
  show own_Go p.tables e below _ (T16.setTop (mkF m 39 #[.val (.int p0), .val (.int p1), .val (.int p2), .val (.int p3), .val (.int p4), .val (.int p5), .val (.ref b1), .val (.ref b8), .unset, .unset, .unset, .unset, .unset] [(.int (0 : Int32)), (.ref b16), (.ref b16)]))
  refine own_up (fun _ k => XS.iloadN X16.here hx rfl (hb hby at_39) rfl k) ?_
  show own_Go p.tables e below _ (T16.setTop (mkF m 40 #[.val (.int p0), .val (.int p1), .val (.int p2), .val (.int p3), .val (.int p4), .val (.int p5), .val (.ref b1), .val (.ref b8), .unset, .unset, .unset, .unset, .unset] [(.int p2), (.int (0 : Int32)), (.ref b16), (.ref b16)]))
  obtain ⟨cl19_, Ar19, q19, S19, M19, Hs19, G19⟩ := id (V16)
  have hin20 : ¬ ((0 : Int32) < 0 ∨ cl19_.slots.size ≤ ((0 : Int32)).toNatClampNeg) := inb_of S19 ⟨by decide, by decide⟩
  obtain ⟨T20, h20, X20, e20, W20, st20⟩ := stI X16 hx hZ e16 Ar19 (j := (0 : Int32)) hin20 (g := (mkF m 40 #[.val (.int p0), .val (.int p1), .val (.int p2), .val (.int p3), .val (.int p4), .val (.int p5), .val (.ref b1), .val (.ref b8), .unset, .unset, .unset, .unset, .unset] [(.int p2), (.int (0 : Int32)), (.ref b16), (.ref b16)])) rfl rfl (hb hby at_40)
  have V20 : Arv Z h20 b16 k16 .int (3 : Int32) [(.int p2), (.int (0 : Int32)), (.int (0 : Int32))] (.int (0 : Int32)) := Arv.set Ar19 q19 S19 M19 Hs19 G19 rfl W20 0 rfl (Nat.le_of_ble_eq_true rfl)
  have N20 := Fr.snoc X20 N15 ge16
  refine own_up st20 ?_
  show own_Go p.tables e below _ (T20.setTop (mkF m 41 #[.val (.int p0), .val (.int p1), .val (.int p2), .val (.int p3), .val (.int p4), .val (.int p5), .val (.ref b1), .val (.ref b8), .unset, .unset, .unset, .unset, .unset] [(.ref b16)]))
  refine own_up (fun _ k => XS.dup X20.here hx rfl (hb hby at_41) rfl rfl k) ?_
  show own_Go p.tables e below _ (T20.setTop (mkF m 42 #[.val (.int p0), .val (.int p1), .val (.int p2), .val (.int p3), .val (.int p4), .val (.int p5), .val (.ref b1), .val (.ref b8), .unset, .unset, .unset, .unset, .unset] [(.ref b16), (.ref b16)]))
  refine own_up (fun _ k => XS.iconst X20.here hx rfl (hb hby at_42) k) ?_
  show own_Go p.tables e below _ (T20.setTop (mkF m 43 #[.val (.int p0), .val (.int p1), .val (.int p2), .val (.int p3), .val (.int p4), .val (.int p5), .val (.ref b1), .val (.ref b8), .unset, .unset, .unset, .unset, .unset] [(.int (1 : Int32)), (.ref b16), (.ref b16)]))
  refine own_up (fun _ k => XS.iloadN X20.here hx rfl (hb hby at_43) rfl k) ?_
  show own_Go p.tables e below _ (T20.setTop (mkF m 44 #[.val (.int p0), .val (.int p1), .val (.int p2), .val (.int p3), .val (.int p4), .val (.int p5), .val (.ref b1), .val (.ref b8), .unset, .unset, .unset, .unset, .unset] [(.int p3), (.int (1 : Int32)), (.ref b16), (.ref b16)]))
  obtain ⟨cl21_, Ar21, q21, S21, M21, Hs21, G21⟩ := id (V20)
  have hin22 : ¬ ((1 : Int32) < 0 ∨ cl21_.slots.size ≤ ((1 : Int32)).toNatClampNeg) := inb_of S21 ⟨by decide, by decide⟩
  obtain ⟨T22, h22, X22, e22, W22, st22⟩ := stI X20 hx hZ e20 Ar21 (j := (1 : Int32)) hin22 (g := (mkF m 44 #[.val (.int p0), .val (.int p1), .val (.int p2), .val (.int p3), .val (.int p4), .val (.int p5), .val (.ref b1), .val (.ref b8), .unset, .unset, .unset, .unset, .unset] [(.int p3), (.int (1 : Int32)), (.ref b16), (.ref b16)])) rfl rfl (hb hby at_44)
  have V22 : Arv Z h22 b16 k16 .int (3 : Int32) [(.int p2), (.int p3), (.int (0 : Int32))] (.int (0 : Int32)) := Arv.set Ar21 q21 S21 M21 Hs21 G21 rfl W22 1 rfl (Nat.le_of_ble_eq_true rfl)
  have N22 := Fr.snoc X22 N20 ge16
  refine own_up st22 ?_
  show own_Go p.tables e below _ (T22.setTop (mkF m 45 #[.val (.int p0), .val (.int p1), .val (.int p2), .val (.int p3), .val (.int p4), .val (.int p5), .val (.ref b1), .val (.ref b8), .unset, .unset, .unset, .unset, .unset] [(.ref b16)]))
  refine own_up (fun _ k => XS.dup X22.here hx rfl (hb hby at_45) rfl rfl k) ?_
  show own_Go p.tables e below _ (T22.setTop (mkF m 46 #[.val (.int p0), .val (.int p1), .val (.int p2), .val (.int p3), .val (.int p4), .val (.int p5), .val (.ref b1), .val (.ref b8), .unset, .unset, .unset, .unset, .unset] [(.ref b16), (.ref b16)]))
  refine own_up (fun _ k => XS.iconst X22.here hx rfl (hb hby at_46) k) ?_
  show own_Go p.tables e below _ (T22.setTop (mkF m 47 #[.val (.int p0), .val (.int p1), .val (.int p2), .val (.int p3), .val (.int p4), .val (.int p5), .val (.ref b1), .val (.ref b8), .unset, .unset, .unset, .unset, .unset] [(.int (2 : Int32)), (.ref b16), (.ref b16)]))
  refine own_up (fun _ k => XS.iload X22.here hx rfl (hb hby at_47) rfl k) ?_
  show own_Go p.tables e below _ (T22.setTop (mkF m 49 #[.val (.int p0), .val (.int p1), .val (.int p2), .val (.int p3), .val (.int p4), .val (.int p5), .val (.ref b1), .val (.ref b8), .unset, .unset, .unset, .unset, .unset] [(.int p4), (.int (2 : Int32)), (.ref b16), (.ref b16)]))
  obtain ⟨cl23_, Ar23, q23, S23, M23, Hs23, G23⟩ := id (V22)
  have hin24 : ¬ ((2 : Int32) < 0 ∨ cl23_.slots.size ≤ ((2 : Int32)).toNatClampNeg) := inb_of S23 ⟨by decide, by decide⟩
  obtain ⟨T24, h24, X24, e24, W24, st24⟩ := stI X22 hx hZ e22 Ar23 (j := (2 : Int32)) hin24 (g := (mkF m 49 #[.val (.int p0), .val (.int p1), .val (.int p2), .val (.int p3), .val (.int p4), .val (.int p5), .val (.ref b1), .val (.ref b8), .unset, .unset, .unset, .unset, .unset] [(.int p4), (.int (2 : Int32)), (.ref b16), (.ref b16)])) rfl rfl (hb hby at_49)
  have V24 : Arv Z h24 b16 k16 .int (3 : Int32) [(.int p2), (.int p3), (.int p4)] (.int (0 : Int32)) := Arv.set Ar23 q23 S23 M23 Hs23 G23 rfl W24 2 rfl (Nat.le_of_ble_eq_true rfl)
  have N24 := Fr.snoc X24 N22 ge16
  refine own_up st24 ?_
  show own_Go p.tables e below _ (T24.setTop (mkF m 50 #[.val (.int p0), .val (.int p1), .val (.int p2), .val (.int p3), .val (.int p4), .val (.int p5), .val (.ref b1), .val (.ref b8), .unset, .unset, .unset, .unset, .unset] [(.ref b16)]))
  refine own_up (fun _ k => XS.astore X24.here hx rfl (hb hby at_50) rfl rfl (l' := #[.val (.int p0), .val (.int p1), .val (.int p2), .val (.int p3), .val (.int p4), .val (.int p5), .val (.ref b1), .val (.ref b8), .val (.ref b16), .unset, .unset, .unset, .unset]) rfl k) ?_
  show own_Go p.tables e below _ (T24.setTop (mkF m 52 #[.val (.int p0), .val (.int p1), .val (.int p2), .val (.int p3), .val (.int p4), .val (.int p5), .val (.ref b1), .val (.ref b8), .val (.ref b16), .unset, .unset, .unset, .unset] []))
  obtain ⟨T25, h25, X25, e25, E25, A25, D25, -, st25⟩ := newO X24 hx hZ hown (hw _ (List.mem_of_getElem? (i := 1) rfl)) (hw _ (List.mem_of_getElem? (i := 2) rfl)) (hw _ (List.mem_of_getElem? (i := 3) rfl)) e24 (g := (mkF m 52 #[.val (.int p0), .val (.int p1), .val (.int p2), .val (.int p3), .val (.int p4), .val (.int p5), .val (.ref b1), .val (.ref b8), .val (.ref b16), .unset, .unset, .unset, .unset] [])) rfl (hb hby at_52) (by decide) (by decide)
  have f26 : n0 ≤ h24.size := (Nat.le_trans (Nat.le_trans (Nat.le_trans (Nat.le_trans f17 E16.1) (Nat.le_of_eq (Wr.size W20).symm)) (Nat.le_of_eq (Wr.size W22).symm)) (Nat.le_of_eq (Wr.size W24).symm))
  have f27 : Arv Z h24 b1 k1 .int (3 : Int32) [(.int (0 : Int32)), (.int (1 : Int32)), (.int (1 : Int32))] (.int (0 : Int32)) := ((((f18.ext E16).other W20 ne16_0).other W22 ne16_0).other W24 ne16_0)
  have f28 : Arv Z h24 b8 k8 .int (3 : Int32) [(.int (1 : Int32)), (.int (0 : Int32)), (.int (1 : Int32))] (.int (0 : Int32)) := ((((V15.ext E16).other W20 ne16_1).other W22 ne16_1).other W24 ne16_1)
  obtain ⟨b25, g25⟩ : ∃ z, z = h24.size := ⟨_, rfl⟩
  rw [← g25] at A25 D25 st25
  have ge25 : n0 ≤ b25 := Nat.le_trans f26 (Nat.le_of_eq g25.symm)
  have ne25_0 : b1 ≠ b25 := Nat.ne_of_lt (Nat.lt_of_lt_of_le f27.lt (Nat.le_of_eq g25.symm))
  have ne25_1 : b8 ≠ b25 := Nat.ne_of_lt (Nat.lt_of_lt_of_le f28.lt (Nat.le_of_eq g25.symm))
  have ne25_2 : b16 ≠ b25 := Nat.ne_of_lt (Nat.lt_of_lt_of_le V24.lt (Nat.le_of_eq g25.symm))
  refine own_up st25 ?_
  have F25_constants : Fld Z h25 b25 "com/example/hintikka/hintikka/domain/ConstraintNetwork" "constants" "Ljava/util/List;" .null := D25 (Or.inr (hw _ (List.mem_of_getElem? (i := 35) rfl))) (ty := (.object "java/util/List")) (by decide)
  have F25_constantVariables : Fld Z h25 b25 "com/example/hintikka/hintikka/domain/ConstraintNetwork" "constantVariables" "Ljava/util/Map;" .null := D25 (Or.inr (hw _ (List.mem_of_getElem? (i := 53) rfl))) (ty := (.object "java/util/Map")) (by decide)
  have F25_lefts : Fld Z h25 b25 "com/example/hintikka/hintikka/domain/ConstraintNetwork" "lefts" "[I" .null := D25 (Or.inl (hw _ (List.mem_of_getElem? (i := 55) rfl))) (ty := (.array .int)) (by decide)
  have F25_relations : Fld Z h25 b25 "com/example/hintikka/hintikka/domain/ConstraintNetwork" "relations" "[I" .null := D25 (Or.inl (hw _ (List.mem_of_getElem? (i := 57) rfl))) (ty := (.array .int)) (by decide)
  have F25_rights : Fld Z h25 b25 "com/example/hintikka/hintikka/domain/ConstraintNetwork" "rights" "[I" .null := D25 (Or.inl (hw _ (List.mem_of_getElem? (i := 59) rfl))) (ty := (.array .int)) (by decide)
  have F25_size : Fld Z h25 b25 "com/example/hintikka/hintikka/domain/ConstraintNetwork" "size" "I" (.int (0 : Int32)) := D25 (Or.inl (hw _ (List.mem_of_getElem? (i := 113) rfl))) (ty := .int) (by decide)
  show own_Go p.tables e below _ (T25.setTop (mkF m 55 #[.val (.int p0), .val (.int p1), .val (.int p2), .val (.int p3), .val (.int p4), .val (.int p5), .val (.ref b1), .val (.ref b8), .val (.ref b16), .unset, .unset, .unset, .unset] [(.ref b25)]))
  refine own_up (fun _ k => XS.dup X25.here hx rfl (hb hby at_55) rfl rfl k) ?_
  show own_Go p.tables e below _ (T25.setTop (mkF m 56 #[.val (.int p0), .val (.int p1), .val (.int p2), .val (.int p3), .val (.int p4), .val (.int p5), .val (.ref b1), .val (.ref b8), .val (.ref b16), .unset, .unset, .unset, .unset] [(.ref b25), (.ref b25)]))
  have f30 : Old Z n0 h25 := (((((((((((((O.ext E1).wr W3 ge1).wr W5 ge1).wr W7 ge1).ext E8).wr W11 ge8).wr W13 ge8).wr W15 ge8).ext E16).wr W20 ge16).wr W22 ge16).wr W24 ge16).ext E25)
  have f31 : n0 ≤ h25.size := (Nat.le_trans f26 E25.1)
  obtain ⟨_, _, ⟨T29, L29, k29, n29⟩, -, X29, ⟨Lc29, hQ29, l29, y29, z29⟩, st29⟩ := X25.specialBack hx (y := (⟨"com/example/hintikka/hintikka/domain/ConstraintNetwork", "<init>", "()V"⟩ : MethodName)) rfl hown (mvT hZ (hw _ (List.mem_of_getElem? (i := 4) rfl))) (mvT hZ (hw _ (List.mem_of_getElem? (i := 5) rfl))) (mvT hZ (hw _ (List.mem_of_getElem? (i := 6) rfl))) (by decide) (backOf (W := 1) (rmCN l Z a0 hw [] b25 de h25 n0 f31 f30 S A25 F25_constants F25_constantVariables F25_lefts F25_relations F25_rights F25_size ge25) hZ (hw _ (List.mem_of_getElem? (i := 6) rfl)) (hw _ (List.mem_of_getElem? (i := 3) rfl)) (by decide) (by decide)) (g := (mkF m 56 #[.val (.int p0), .val (.int p1), .val (.int p2), .val (.int p3), .val (.int p4), .val (.int p5), .val (.ref b1), .val (.ref b8), .val (.ref b16), .unset, .unset, .unset, .unset] [(.ref b25), (.ref b25)])) rfl (by rw [hml]; rfl) (Steps.refl _) (a := b25) (argsL := []) (rest := [(.ref b25)]) (lenOf own_pd0 rfl) rfl (by show 2 * 0 + _ ≤ _; exact Nat.le_of_eq rfl) (hb hby at_56) (fun _ _ => ⟨rfl, e25, (by decide : 4 + 5 ≤ _), (by decide : 15 + 59 ≤ _)⟩)
  dsimp only [Pt.U, Pt.locs, Pt.cells, Pt.slots] at X29 l29 y29 z29 st29 hQ29
  subst l29 y29 z29
  have f32 : Arv Z h25 b1 k1 .int (3 : Int32) [(.int (0 : Int32)), (.int (1 : Int32)), (.int (1 : Int32))] (.int (0 : Int32)) := (f27.ext E25)
  have f33 : Arv Z h25 b8 k8 .int (3 : Int32) [(.int (1 : Int32)), (.int (0 : Int32)), (.int (1 : Int32))] (.int (0 : Int32)) := (f28.ext E25)
  have f34 : Arv Z h25 b16 k16 .int (3 : Int32) [(.int p2), (.int p3), (.int p4)] (.int (0 : Int32)) := (V24.ext E25)
  obtain ⟨al_29, la_29, re_29, ri_29, ka_29, ke_29, ki_29, rfl, N29q, K29, P29_0, P29_1, P29_2, P29_3, P29_4, P29_5, P29_6, P29_7, P29_8, P29_9, P29_10, P29_11, P29_12, P29_13, P29_14, P29_15, P29_16, P29_17, P29_18, P29_19, P29_20, P29_21, P29_22, P29_23, P29_24, P29_25, P29_26, P29_27, P29_28, P29_29, P29_30⟩ := hQ29
  have N29 := Fr.app N24 N29q
  refine own_up (fun _ k => st29.trans k) ?_
  have nl29_0_0 : b1 ≠ al_29 := Nat.ne_of_lt (Nat.lt_of_lt_of_le f32.lt P29_0)
  have nl29_0_1 : b8 ≠ al_29 := Nat.ne_of_lt (Nat.lt_of_lt_of_le f33.lt P29_0)
  have nl29_0_2 : b16 ≠ al_29 := Nat.ne_of_lt (Nat.lt_of_lt_of_le f34.lt P29_0)
  have nl29_0_3 : b25 ≠ al_29 := Nat.ne_of_lt (Nat.lt_of_lt_of_le A25.lt P29_0)
  have nl29_1_0 : b1 ≠ la_29 := Nat.ne_of_lt (Nat.lt_of_lt_of_le f32.lt P29_1)
  have nl29_1_1 : b8 ≠ la_29 := Nat.ne_of_lt (Nat.lt_of_lt_of_le f33.lt P29_1)
  have nl29_1_2 : b16 ≠ la_29 := Nat.ne_of_lt (Nat.lt_of_lt_of_le f34.lt P29_1)
  have nl29_1_3 : b25 ≠ la_29 := Nat.ne_of_lt (Nat.lt_of_lt_of_le A25.lt P29_1)
  have nl29_2_0 : b1 ≠ re_29 := Nat.ne_of_lt (Nat.lt_of_lt_of_le f32.lt P29_2)
  have nl29_2_1 : b8 ≠ re_29 := Nat.ne_of_lt (Nat.lt_of_lt_of_le f33.lt P29_2)
  have nl29_2_2 : b16 ≠ re_29 := Nat.ne_of_lt (Nat.lt_of_lt_of_le f34.lt P29_2)
  have nl29_2_3 : b25 ≠ re_29 := Nat.ne_of_lt (Nat.lt_of_lt_of_le A25.lt P29_2)
  have nl29_3_0 : b1 ≠ ri_29 := Nat.ne_of_lt (Nat.lt_of_lt_of_le f32.lt P29_3)
  have nl29_3_1 : b8 ≠ ri_29 := Nat.ne_of_lt (Nat.lt_of_lt_of_le f33.lt P29_3)
  have nl29_3_2 : b16 ≠ ri_29 := Nat.ne_of_lt (Nat.lt_of_lt_of_le f34.lt P29_3)
  have nl29_3_3 : b25 ≠ ri_29 := Nat.ne_of_lt (Nat.lt_of_lt_of_le A25.lt P29_3)
  show own_Go p.tables e below _ (T29.setTop (mkF m 59 #[.val (.int p0), .val (.int p1), .val (.int p2), .val (.int p3), .val (.int p4), .val (.int p5), .val (.ref b1), .val (.ref b8), .val (.ref b16), .unset, .unset, .unset, .unset] [(.ref b25)]))
  refine own_up (fun _ k => XS.astore X29.here hx rfl (hb hby at_59) rfl rfl (l' := #[.val (.int p0), .val (.int p1), .val (.int p2), .val (.int p3), .val (.int p4), .val (.int p5), .val (.ref b1), .val (.ref b8), .val (.ref b16), .val (.ref b25), .unset, .unset, .unset]) rfl k) ?_
  show own_Go p.tables e below _ (T29.setTop (mkF m 61 #[.val (.int p0), .val (.int p1), .val (.int p2), .val (.int p3), .val (.int p4), .val (.int p5), .val (.ref b1), .val (.ref b8), .val (.ref b16), .val (.ref b25), .unset, .unset, .unset] []))
  refine own_up (fun _ k => XS.aload X29.here hx rfl (hb hby at_61) rfl rfl k) ?_
  show own_Go p.tables e below _ (T29.setTop (mkF m 63 #[.val (.int p0), .val (.int p1), .val (.int p2), .val (.int p3), .val (.int p4), .val (.int p5), .val (.ref b1), .val (.ref b8), .val (.ref b16), .val (.ref b25), .unset, .unset, .unset] [(.ref b25)]))
  have f36 : Old Z n0 T29.heap := (f30.keep K29 (allS ge25 all0))
  have f37 : n0 ≤ T29.heap.size := (Nat.le_trans f31 K29.1)
  obtain ⟨cq35, kq35, q35a, q35b, q35c⟩ := isOf hZ rfl P29_18
  obtain ⟨_, _, ⟨T35, L35, k35, n35⟩, -, X35, ⟨Lc35, hQ35, l35, y35, z35⟩, st35⟩ := X29.virtualBack hx (y := (⟨"com/example/hintikka/hintikka/domain/ConstraintNetwork", "addVariable", "()I"⟩ : MethodName)) (z := (⟨"com/example/hintikka/hintikka/domain/ConstraintNetwork", "addVariable", "()I"⟩ : MethodName)) hown (mvT hZ (hw _ (List.mem_of_getElem? (i := 60) rfl))) (mvT hZ (hw _ (List.mem_of_getElem? (i := 61) rfl))) (notFace_of_selects (args := #[]) (mvT hZ (hw _ (List.mem_of_getElem? (i := 63) rfl)))) (mvT hZ (hw _ (List.mem_of_getElem? (i := 63) rfl))) (mvT hZ (hw _ (List.mem_of_getElem? (i := 62) rfl))) (by decide) (backOf (W := 0) (rmV0 l Z a0 hw [] b25 al_29 (0 : Int32) de kd T29.heap n0 f37 P29_19 P29_8 f36 S AD P29_27 P29_28 P29_29 P29_30 P29_4) hZ (hw _ (List.mem_of_getElem? (i := 64) rfl)) (hw _ (List.mem_of_getElem? (i := 3) rfl)) (by decide) (by decide)) q35a q35c (g := (mkF m 63 #[.val (.int p0), .val (.int p1), .val (.int p2), .val (.int p3), .val (.int p4), .val (.int p5), .val (.ref b1), .val (.ref b8), .val (.ref b16), .val (.ref b25), .unset, .unset, .unset] [(.ref b25)])) rfl (by rw [hml]; rfl) (Steps.refl _) (argsL := []) (rest := []) (lenOf own_pd6 rfl) rfl (by show 2 * 0 + _ ≤ _; exact Nat.le_of_eq rfl) (hb hby at_63) (fun _ _ => ⟨rfl, rfl, (by decide : 9 + 1 ≤ _), (by decide : 74 + 10 ≤ _)⟩)
  dsimp only [Pt.U, Pt.locs, Pt.cells, Pt.slots] at X35 l35 y35 z35 st35 hQ35
  subst l35 y35 z35
  have f38 : Arv Z T29.heap b1 k1 .int (3 : Int32) [(.int (0 : Int32)), (.int (1 : Int32)), (.int (1 : Int32))] (.int (0 : Int32)) := (f32.keep K29 (ninS ne25_0 nin0))
  have f39 : Arv Z T29.heap b8 k8 .int (3 : Int32) [(.int (1 : Int32)), (.int (0 : Int32)), (.int (1 : Int32))] (.int (0 : Int32)) := (f33.keep K29 (ninS ne25_1 nin0))
  have f40 : Arv Z T29.heap b16 k16 .int (3 : Int32) [(.int p2), (.int p3), (.int p4)] (.int (0 : Int32)) := (f34.keep K29 (ninS ne25_2 nin0))
  obtain ⟨ea_35, kq_35, rfl, N35q, K35, P35_0, P35_1, P35_2, P35_3, P35_4, P35_5, P35_6, P35_7⟩ := hQ35
  have N35 := Fr.app N29 N35q
  refine own_up (fun _ k => st35.trans k) ?_
  have nl35_0_0 : b1 ≠ ea_35 := Nat.ne_of_lt (Nat.lt_of_lt_of_le f38.lt P35_0)
  have nl35_0_1 : b8 ≠ ea_35 := Nat.ne_of_lt (Nat.lt_of_lt_of_le f39.lt P35_0)
  have nl35_0_2 : b16 ≠ ea_35 := Nat.ne_of_lt (Nat.lt_of_lt_of_le f40.lt P35_0)
  have nl35_0_3 : b25 ≠ ea_35 := Nat.ne_of_lt (Nat.lt_of_lt_of_le P29_18.lt P35_0)
  have nl35_0_4 : la_29 ≠ ea_35 := Nat.ne_of_lt (Nat.lt_of_lt_of_le P29_24.lt P35_0)
  have nl35_0_5 : re_29 ≠ ea_35 := Nat.ne_of_lt (Nat.lt_of_lt_of_le P29_25.lt P35_0)
  have nl35_0_6 : ri_29 ≠ ea_35 := Nat.ne_of_lt (Nat.lt_of_lt_of_le P29_26.lt P35_0)
  have nl35_0_7 : al_29 ≠ ea_35 := Nat.ne_of_lt (Nat.lt_of_lt_of_le P29_27.lt P35_0)
  show own_Go p.tables e below _ (T35.setTop (mkF m 66 #[.val (.int p0), .val (.int p1), .val (.int p2), .val (.int p3), .val (.int p4), .val (.int p5), .val (.ref b1), .val (.ref b8), .val (.ref b16), .val (.ref b25), .unset, .unset, .unset] [(.int (0 : Int32))]))
  refine own_up (fun _ k => XS.pop X35.here hx rfl (hb hby at_66) rfl rfl k) ?_
  show own_Go p.tables e below _ (T35.setTop (mkF m 67 #[.val (.int p0), .val (.int p1), .val (.int p2), .val (.int p3), .val (.int p4), .val (.int p5), .val (.ref b1), .val (.ref b8), .val (.ref b16), .val (.ref b25), .unset, .unset, .unset] []))
  refine own_up (fun _ k => XS.aload X35.here hx rfl (hb hby at_67) rfl rfl k) ?_
  show own_Go p.tables e below _ (T35.setTop (mkF m 69 #[.val (.int p0), .val (.int p1), .val (.int p2), .val (.int p3), .val (.int p4), .val (.int p5), .val (.ref b1), .val (.ref b8), .val (.ref b16), .val (.ref b25), .unset, .unset, .unset] [(.ref b25)]))
  have f42 : Fld Z T35.heap b25 "com/example/hintikka/hintikka/domain/ConstraintNetwork" "constants" "Ljava/util/List;" (.ref al_29) := (P29_19.keep K35 (ninS P29_8 nin0))
  have f43 : n0 ≤ T35.heap.size := (Nat.le_trans f37 K35.1)
  have f44 : Exa Z T35.heap b25 "com/example/hintikka/hintikka/domain/ConstraintNetwork" := (P29_18.keep K35)
  obtain ⟨cq41, kq41, q41a, q41b, q41c⟩ := isOf hZ rfl f44
  obtain ⟨_, _, ⟨T41, L41, k41, n41⟩, -, X41, ⟨Lc41, hQ41, l41, y41, z41⟩, st41⟩ := X35.virtualBack hx (y := (⟨"com/example/hintikka/hintikka/domain/ConstraintNetwork", "addVariable", "()I"⟩ : MethodName)) (z := (⟨"com/example/hintikka/hintikka/domain/ConstraintNetwork", "addVariable", "()I"⟩ : MethodName)) hown (mvT hZ (hw _ (List.mem_of_getElem? (i := 60) rfl))) (mvT hZ (hw _ (List.mem_of_getElem? (i := 61) rfl))) (notFace_of_selects (args := #[]) (mvT hZ (hw _ (List.mem_of_getElem? (i := 63) rfl)))) (mvT hZ (hw _ (List.mem_of_getElem? (i := 63) rfl))) (mvT hZ (hw _ (List.mem_of_getElem? (i := 62) rfl))) (by decide) (backOf (W := 0) (rmV1 l Z a0 hw [] b25 al_29 ((0 : Int32) + (1 : Int32)) ea_35 kq_35 T35.heap n0 f43 f42 P29_8 P35_3 P35_4 P35_5 P35_6 P29_4 P35_1 P35_2 P35_7 nl35_0_3) hZ (hw _ (List.mem_of_getElem? (i := 64) rfl)) (hw _ (List.mem_of_getElem? (i := 3) rfl)) (by decide) (by decide)) q41a q41c (g := (mkF m 69 #[.val (.int p0), .val (.int p1), .val (.int p2), .val (.int p3), .val (.int p4), .val (.int p5), .val (.ref b1), .val (.ref b8), .val (.ref b16), .val (.ref b25), .unset, .unset, .unset] [(.ref b25)])) rfl (by rw [hml]; rfl) (Steps.refl _) (argsL := []) (rest := []) (lenOf own_pd6 rfl) rfl (by show 2 * 0 + _ ≤ _; exact Nat.le_of_eq rfl) (hb hby at_69) (fun _ _ => ⟨rfl, rfl, (by decide : 10 + 0 ≤ _), (by decide : 84 + 0 ≤ _)⟩)
  dsimp only [Pt.U, Pt.locs, Pt.cells, Pt.slots] at X41 l41 y41 z41 st41 hQ41
  subst l41 y41 z41
  obtain ⟨rfl, N41q, K41, P41_0, P41_1⟩ := hQ41
  have N41 := Fr.app N35 N41q
  refine own_up (fun _ k => st41.trans k) ?_
  show own_Go p.tables e below _ (T41.setTop (mkF m 72 #[.val (.int p0), .val (.int p1), .val (.int p2), .val (.int p3), .val (.int p4), .val (.int p5), .val (.ref b1), .val (.ref b8), .val (.ref b16), .val (.ref b25), .unset, .unset, .unset] [(.int (1 : Int32))]))
  refine own_up (fun _ k => XS.pop X41.here hx rfl (hb hby at_72) rfl rfl k) ?_
  show own_Go p.tables e below _ (T41.setTop (mkF m 73 #[.val (.int p0), .val (.int p1), .val (.int p2), .val (.int p3), .val (.int p4), .val (.int p5), .val (.ref b1), .val (.ref b8), .val (.ref b16), .val (.ref b25), .unset, .unset, .unset] []))
  have end0 : ∀ (Tt45 : State) (Lt45 : List Loc) (Xt45 : Stand p l e room_1 s m #[(.int p0), (.int p1), (.int p2), (.int p3), (.int p4), (.int p5)] below meth c Tt45 Lt45 10 84) (ht45 : Heap) (et45 : Tt45.heap = ht45) (Nt45 : Fr n0 Lt45) (sk : Slot) (ya0 : Int32) (ya1 : Int32) (ya2 : Int32) (ya3 : Int32) (yb0 : Int32) (yb1 : Int32) (yb2 : Int32) (yb3 : Int32) (yc0 : Int32) (yc1 : Int32) (yc2 : Int32) (yc3 : Int32) (s0 : Exa Z ht45 b25 "com/example/hintikka/hintikka/domain/ConstraintNetwork") (s1 : Fld Z ht45 b25 "com/example/hintikka/hintikka/domain/ConstraintNetwork" "constants" "Ljava/util/List;" (.ref al_29)) (s2 : Fld Z ht45 b25 "com/example/hintikka/hintikka/domain/ConstraintNetwork" "lefts" "[I" (.ref la_29)) (s3 : Fld Z ht45 b25 "com/example/hintikka/hintikka/domain/ConstraintNetwork" "relations" "[I" (.ref re_29)) (s4 : Fld Z ht45 b25 "com/example/hintikka/hintikka/domain/ConstraintNetwork" "rights" "[I" (.ref ri_29)) (s5 : Exa Z ht45 al_29 "java/util/ArrayList") (s6 : Fld Z ht45 al_29 "java/util/ArrayList" "size" "I" (.int (2 : Int32))) (q0 : Arv Z ht45 b1 k1 .int (3 : Int32) [(.int (0 : Int32)), (.int (1 : Int32)), (.int (1 : Int32))] (.int (0 : Int32))) (q1 : Arv Z ht45 b8 k8 .int (3 : Int32) [(.int (1 : Int32)), (.int (0 : Int32)), (.int (1 : Int32))] (.int (0 : Int32))) (q2 : Arv Z ht45 b16 k16 .int (3 : Int32) [(.int p2), (.int p3), (.int p4)] (.int (0 : Int32))) (sq : Fld Z ht45 b25 "com/example/hintikka/hintikka/domain/ConstraintNetwork" "size" "I" (.int (0 : Int32))) (z0 : Arv Z ht45 la_29 ka_29 .int (16 : Int32) [(.int ya0), (.int ya1), (.int ya2), (.int ya3)] (.int (0 : Int32))) (z1 : Arv Z ht45 re_29 ke_29 .int (16 : Int32) [(.int yb0), (.int yb1), (.int yb2), (.int yb3)] (.int (0 : Int32))) (z2 : Arv Z ht45 ri_29 ki_29 .int (16 : Int32) [(.int yc0), (.int yc1), (.int yc2), (.int yc3)] (.int (0 : Int32))) (Zt45 : n0 ≤ ht45.size) (Ot45 : Old Z n0 ht45), own_Go p.tables e below (fun u o => ∃ v L, o = .returned v ∧ Q_rm0 Z p0 p1 p2 p3 p4 p5 de kd h0 n0 v u.heap L ∧ FrameEnd s o u L room_1.cells room_1.slots) (Tt45.setTop (mkF m 164 #[.val (.int p0), .val (.int p1), .val (.int p2), .val (.int p3), .val (.int p4), .val (.int p5), .val (.ref b1), .val (.ref b8), .val (.ref b16), .val (.ref b25), sk, .val (.int (0 : Int32)), .unset] [])) := by
    intro Tt45 Lt45 Xt45 ht45 et45 Nt45 sk ya0 ya1 ya2 ya3 yb0 yb1 yb2 yb3 yc0 yc1 yc2 yc3 s0 s1 s2 s3 s4 s5 s6 q0 q1 q2 sq z0 z1 z2 Zt45 Ot45
    refine own_up (fun _ k => XS.aload Xt45.here hx rfl (hb hby at_164) rfl rfl k) ?_
    show own_Go p.tables e below _ (Tt45.setTop (mkF m 166 #[.val (.int p0), .val (.int p1), .val (.int p2), .val (.int p3), .val (.int p4), .val (.int p5), .val (.ref b1), .val (.ref b8), .val (.ref b16), .val (.ref b25), sk, .val (.int (0 : Int32)), .unset] [(.ref b25)]))
    obtain ⟨cq46, kq46, q46a, q46b, q46c⟩ := isOf hZ et45 s0
    obtain ⟨_, _, ⟨T46, L46, k46, n46⟩, -, X46, ⟨Lc46, hQ46, l46, y46, z46⟩, st46⟩ := Xt45.virtualBack hx (y := (⟨"com/example/hintikka/hintikka/domain/ConstraintNetwork", "size", "()I"⟩ : MethodName)) (z := (⟨"com/example/hintikka/hintikka/domain/ConstraintNetwork", "size", "()I"⟩ : MethodName)) hown (mvT hZ (hw _ (List.mem_of_getElem? (i := 114) rfl))) (mvT hZ (hw _ (List.mem_of_getElem? (i := 115) rfl))) (notFace_of_selects (args := #[]) (mvT hZ (hw _ (List.mem_of_getElem? (i := 117) rfl)))) (mvT hZ (hw _ (List.mem_of_getElem? (i := 117) rfl))) (mvT hZ (hw _ (List.mem_of_getElem? (i := 116) rfl))) (by decide) (backOf (W := 0) (rmQ l Z a0 hw [] b25 (0 : Int32) ht45 n0 Zt45 sq) hZ (hw _ (List.mem_of_getElem? (i := 118) rfl)) (hw _ (List.mem_of_getElem? (i := 3) rfl)) (by decide) (by decide)) q46a q46c (g := (mkF m 166 #[.val (.int p0), .val (.int p1), .val (.int p2), .val (.int p3), .val (.int p4), .val (.int p5), .val (.ref b1), .val (.ref b8), .val (.ref b16), .val (.ref b25), sk, .val (.int (0 : Int32)), .unset] [(.ref b25)])) rfl (by rw [hml]; rfl) (Steps.refl _) (argsL := []) (rest := []) (lenOf own_pd6 rfl) rfl (by show 2 * 0 + _ ≤ _; exact Nat.le_of_eq rfl) (hb hby at_166) (fun _ _ => ⟨rfl, et45, (by decide : 10 + 0 ≤ _), (by decide : 84 + 0 ≤ _)⟩)
    dsimp only [Pt.U, Pt.locs, Pt.cells, Pt.slots] at X46 l46 y46 z46 st46 hQ46
    subst l46 y46 z46
    obtain ⟨rfl, N46q, eq46⟩ := hQ46
    have N46 := Fr.app Nt45 N46q
    refine own_up (fun _ k => st46.trans k) ?_
    show own_Go p.tables e below _ (T46.setTop (mkF m 169 #[.val (.int p0), .val (.int p1), .val (.int p2), .val (.int p3), .val (.int p4), .val (.int p5), .val (.ref b1), .val (.ref b8), .val (.ref b16), .val (.ref b25), sk, .val (.int (0 : Int32)), .unset] [(.int (0 : Int32))]))
    refine own_up (fun _ k => XS.iload X46.here hx rfl (hb hby at_169) rfl k) ?_
    show own_Go p.tables e below _ (T46.setTop (mkF m 171 #[.val (.int p0), .val (.int p1), .val (.int p2), .val (.int p3), .val (.int p4), .val (.int p5), .val (.ref b1), .val (.ref b8), .val (.ref b16), .val (.ref b25), sk, .val (.int (0 : Int32)), .unset] [(.int (0 : Int32)), (.int (0 : Int32))]))
    refine own_up (fun _ k => XS.icmpNo X46.here hx rfl (hb hby at_171) rfl (teq rfl).2 k) ?_
    show own_Go p.tables e below _ (T46.setTop (mkF m 174 #[.val (.int p0), .val (.int p1), .val (.int p2), .val (.int p3), .val (.int p4), .val (.int p5), .val (.ref b1), .val (.ref b8), .val (.ref b16), .val (.ref b25), sk, .val (.int (0 : Int32)), .unset] []))
    refine own_up (fun _ k => XS.aload X46.here hx rfl (hb hby at_174) rfl rfl k) ?_
    show own_Go p.tables e below _ (T46.setTop (mkF m 176 #[.val (.int p0), .val (.int p1), .val (.int p2), .val (.int p3), .val (.int p4), .val (.int p5), .val (.ref b1), .val (.ref b8), .val (.ref b16), .val (.ref b25), sk, .val (.int (0 : Int32)), .unset] [(.ref b25)]))
    obtain ⟨cq47, kq47, q47a, q47b, q47c⟩ := isOf hZ eq46 s0
    obtain ⟨_, _, ⟨T47, L47, k47, n47⟩, -, X47, ⟨Lc47, hQ47, l47, y47, z47⟩, st47⟩ := X46.virtualBack hx (y := (⟨"com/example/hintikka/hintikka/domain/ConstraintNetwork", "getVariableCount", "()I"⟩ : MethodName)) (z := (⟨"com/example/hintikka/hintikka/domain/ConstraintNetwork", "getVariableCount", "()I"⟩ : MethodName)) hown (mvT hZ (hw _ (List.mem_of_getElem? (i := 119) rfl))) (mvT hZ (hw _ (List.mem_of_getElem? (i := 120) rfl))) (notFace_of_selects (args := #[]) (mvT hZ (hw _ (List.mem_of_getElem? (i := 122) rfl)))) (mvT hZ (hw _ (List.mem_of_getElem? (i := 122) rfl))) (mvT hZ (hw _ (List.mem_of_getElem? (i := 121) rfl))) (by decide) (backOf (W := 0) (rmVC l Z a0 hw [] b25 al_29 ht45 n0 Zt45 s1 s5 s6) hZ (hw _ (List.mem_of_getElem? (i := 123) rfl)) (hw _ (List.mem_of_getElem? (i := 3) rfl)) (by decide) (by decide)) q47a q47c (g := (mkF m 176 #[.val (.int p0), .val (.int p1), .val (.int p2), .val (.int p3), .val (.int p4), .val (.int p5), .val (.ref b1), .val (.ref b8), .val (.ref b16), .val (.ref b25), sk, .val (.int (0 : Int32)), .unset] [(.ref b25)])) rfl (by rw [hml]; rfl) (Steps.refl _) (argsL := []) (rest := []) (lenOf own_pd6 rfl) rfl (by show 2 * 0 + _ ≤ _; exact Nat.le_of_eq rfl) (hb hby at_176) (fun _ _ => ⟨rfl, eq46, (by decide : 10 + 0 ≤ _), (by decide : 84 + 0 ≤ _)⟩)
    dsimp only [Pt.U, Pt.locs, Pt.cells, Pt.slots] at X47 l47 y47 z47 st47 hQ47
    subst l47 y47 z47
    obtain ⟨rfl, N47q, eq47⟩ := hQ47
    have N47 := Fr.app N46 N47q
    refine own_up (fun _ k => st47.trans k) ?_
    show own_Go p.tables e below _ (T47.setTop (mkF m 179 #[.val (.int p0), .val (.int p1), .val (.int p2), .val (.int p3), .val (.int p4), .val (.int p5), .val (.ref b1), .val (.ref b8), .val (.ref b16), .val (.ref b25), sk, .val (.int (0 : Int32)), .unset] [(.int (2 : Int32))]))
    refine own_up (fun _ k => XS.iconst X47.here hx rfl (hb hby at_179) k) ?_
    show own_Go p.tables e below _ (T47.setTop (mkF m 180 #[.val (.int p0), .val (.int p1), .val (.int p2), .val (.int p3), .val (.int p4), .val (.int p5), .val (.ref b1), .val (.ref b8), .val (.ref b16), .val (.ref b25), sk, .val (.int (0 : Int32)), .unset] [(.int (2 : Int32)), (.int (2 : Int32))]))
    refine own_up (fun _ k => XS.icmpNo X47.here hx rfl (hb hby at_180) rfl (teq rfl).2 k) ?_
    show own_Go p.tables e below _ (T47.setTop (mkF m 183 #[.val (.int p0), .val (.int p1), .val (.int p2), .val (.int p3), .val (.int p4), .val (.int p5), .val (.ref b1), .val (.ref b8), .val (.ref b16), .val (.ref b25), sk, .val (.int (0 : Int32)), .unset] []))
    refine own_up (fun _ k => XS.iconst X47.here hx rfl (hb hby at_183) k) ?_
    show own_Go p.tables e below _ (T47.setTop (mkF m 184 #[.val (.int p0), .val (.int p1), .val (.int p2), .val (.int p3), .val (.int p4), .val (.int p5), .val (.ref b1), .val (.ref b8), .val (.ref b16), .val (.ref b25), sk, .val (.int (0 : Int32)), .unset] [(.int (1 : Int32))]))
    refine own_up (fun _ k => XS.goto X47.here hx rfl (pc0 := 184) (pc' := 188) rfl (hb hby at_184) (by decide) (by decide) k) ?_
    show own_Go p.tables e below _ (T47.setTop (mkF m 188 #[.val (.int p0), .val (.int p1), .val (.int p2), .val (.int p3), .val (.int p4), .val (.int p5), .val (.ref b1), .val (.ref b8), .val (.ref b16), .val (.ref b25), sk, .val (.int (0 : Int32)), .unset] [(.int (1 : Int32))]))
    refine own_up (fun _ k => XS.istore X47.here hx rfl (hb hby at_188) rfl (l' := #[.val (.int p0), .val (.int p1), .val (.int p2), .val (.int p3), .val (.int p4), .val (.int p5), .val (.ref b1), .val (.ref b8), .val (.ref b16), .val (.ref b25), sk, .val (.int (0 : Int32)), .val (.int (1 : Int32))]) rfl k) ?_
    show own_Go p.tables e below _ (T47.setTop (mkF m 190 #[.val (.int p0), .val (.int p1), .val (.int p2), .val (.int p3), .val (.int p4), .val (.int p5), .val (.ref b1), .val (.ref b8), .val (.ref b16), .val (.ref b25), sk, .val (.int (0 : Int32)), .val (.int (1 : Int32))] []))
    refine own_up (fun _ k => XS.iload X47.here hx rfl (hb hby at_190) rfl k) ?_
    show own_Go p.tables e below _ (T47.setTop (mkF m 192 #[.val (.int p0), .val (.int p1), .val (.int p2), .val (.int p3), .val (.int p4), .val (.int p5), .val (.ref b1), .val (.ref b8), .val (.ref b16), .val (.ref b25), sk, .val (.int (0 : Int32)), .val (.int (1 : Int32))] [(.int (0 : Int32))]))
    refine own_up (fun _ k => XS.iconst X47.here hx rfl (hb hby at_192) k) ?_
    show own_Go p.tables e below _ (T47.setTop (mkF m 193 #[.val (.int p0), .val (.int p1), .val (.int p2), .val (.int p3), .val (.int p4), .val (.int p5), .val (.ref b1), .val (.ref b8), .val (.ref b16), .val (.ref b25), sk, .val (.int (0 : Int32)), .val (.int (1 : Int32))] [(.int (1 : Int32)), (.int (0 : Int32))]))
    refine own_up (fun _ k => XS.icmpYes X47.here hx rfl (pc0 := 193) (pc' := 265) rfl (hb hby at_193) rfl (tlt (by decide)).1 (by decide) (by decide) k) ?_
    show own_Go p.tables e below _ (T47.setTop (mkF m 265 #[.val (.int p0), .val (.int p1), .val (.int p2), .val (.int p3), .val (.int p4), .val (.int p5), .val (.ref b1), .val (.ref b8), .val (.ref b16), .val (.ref b25), sk, .val (.int (0 : Int32)), .val (.int (1 : Int32))] []))
    refine own_up (fun _ k => XS.aload X47.here hx rfl (hb hby at_265) rfl rfl k) ?_
    show own_Go p.tables e below _ (T47.setTop (mkF m 267 #[.val (.int p0), .val (.int p1), .val (.int p2), .val (.int p3), .val (.int p4), .val (.int p5), .val (.ref b1), .val (.ref b8), .val (.ref b16), .val (.ref b25), sk, .val (.int (0 : Int32)), .val (.int (1 : Int32))] [(.ref b25)]))
    refine own_up (fun _ k => XS.iconst X47.here hx rfl (hb hby at_267) k) ?_
    show own_Go p.tables e below _ (T47.setTop (mkF m 268 #[.val (.int p0), .val (.int p1), .val (.int p2), .val (.int p3), .val (.int p4), .val (.int p5), .val (.ref b1), .val (.ref b8), .val (.ref b16), .val (.ref b25), sk, .val (.int (0 : Int32)), .val (.int (1 : Int32))] [(.int (0 : Int32)), (.ref b25)]))
    refine own_up (fun _ k => XS.iload X47.here hx rfl (hb hby at_268) rfl k) ?_
    show own_Go p.tables e below _ (T47.setTop (mkF m 270 #[.val (.int p0), .val (.int p1), .val (.int p2), .val (.int p3), .val (.int p4), .val (.int p5), .val (.ref b1), .val (.ref b8), .val (.ref b16), .val (.ref b25), sk, .val (.int (0 : Int32)), .val (.int (1 : Int32))] [(.int p5), (.int (0 : Int32)), (.ref b25)]))
    refine own_up (fun _ k => XS.iconst X47.here hx rfl (hb hby at_270) k) ?_
    show own_Go p.tables e below _ (T47.setTop (mkF m 271 #[.val (.int p0), .val (.int p1), .val (.int p2), .val (.int p3), .val (.int p4), .val (.int p5), .val (.ref b1), .val (.ref b8), .val (.ref b16), .val (.ref b25), sk, .val (.int (0 : Int32)), .val (.int (1 : Int32))] [(.int (0 : Int32)), (.int p5), (.int (0 : Int32)), (.ref b25)]))
    obtain ⟨cq48, kq48, q48a, q48b, q48c⟩ := isOf hZ eq47 s0
    obtain ⟨_, _, ⟨T48, L48, k48, n48⟩, -, X48, ⟨Lc48, hQ48, l48, y48, z48⟩, st48⟩ := X47.virtualBack hx (y := (⟨"com/example/hintikka/hintikka/domain/ConstraintNetwork", "add", "(III)V"⟩ : MethodName)) (z := (⟨"com/example/hintikka/hintikka/domain/ConstraintNetwork", "add", "(III)V"⟩ : MethodName)) hown (mvT hZ (hw _ (List.mem_of_getElem? (i := 124) rfl))) (mvT hZ (hw _ (List.mem_of_getElem? (i := 125) rfl))) (notFace_of_selects (args := #[]) (mvT hZ (hw _ (List.mem_of_getElem? (i := 127) rfl)))) (mvT hZ (hw _ (List.mem_of_getElem? (i := 127) rfl))) (mvT hZ (hw _ (List.mem_of_getElem? (i := 126) rfl))) (by decide) (backOf (W := 0) (rmAd0 l Z a0 hw [] b25 (0 : Int32) p5 (0 : Int32) al_29 la_29 re_29 ri_29 ka_29 ke_29 ki_29 ya0 ya1 ya2 ya3 yb0 yb1 yb2 yb3 yc0 yc1 yc2 yc3 ht45 n0 Zt45 s0 s1 s2 s3 s4 s5 s6 sq z0 z1 z2 ge25 P29_5 P29_6 P29_7 P29_8 P29_9 P29_10 P29_11 P29_12 P29_13 P29_14 P29_15 P29_16 P29_17 (by decide) (by decide) (by decide) (by decide)) hZ (hw _ (List.mem_of_getElem? (i := 128) rfl)) (hw _ (List.mem_of_getElem? (i := 3) rfl)) (by decide) (by decide)) q48a q48c (g := (mkF m 271 #[.val (.int p0), .val (.int p1), .val (.int p2), .val (.int p3), .val (.int p4), .val (.int p5), .val (.ref b1), .val (.ref b8), .val (.ref b16), .val (.ref b25), sk, .val (.int (0 : Int32)), .val (.int (1 : Int32))] [(.int (0 : Int32)), (.int p5), (.int (0 : Int32)), (.ref b25)])) rfl (by rw [hml]; rfl) (Steps.refl _) (argsL := [(.int (0 : Int32)), (.int p5), (.int (0 : Int32))]) (rest := []) (lenOf own_pd8 rfl) rfl (by show 2 * 0 + _ ≤ _; exact Nat.le_of_eq rfl) (hb hby at_271) (fun _ _ => ⟨rfl, eq47, (by decide : 10 + 0 ≤ _), (by decide : 84 + 0 ≤ _)⟩)
    dsimp only [Pt.U, Pt.locs, Pt.cells, Pt.slots] at X48 l48 y48 z48 st48 hQ48
    subst l48 y48 z48
    obtain ⟨rfl, N48q, K48, P48_0, P48_1, P48_2, P48_3, P48_4, P48_5, P48_6, P48_7, P48_8⟩ := hQ48
    have N48 := Fr.app N47 N48q
    refine own_up (fun _ k => st48.trans k) ?_
    show own_Go p.tables e below _ (T48.setTop (mkF m 274 #[.val (.int p0), .val (.int p1), .val (.int p2), .val (.int p3), .val (.int p4), .val (.int p5), .val (.ref b1), .val (.ref b8), .val (.ref b16), .val (.ref b25), sk, .val (.int (0 : Int32)), .val (.int (1 : Int32))] []))
    refine own_up (fun _ k => XS.iload X48.here hx rfl (hb hby at_274) rfl k) ?_
    show own_Go p.tables e below _ (T48.setTop (mkF m 276 #[.val (.int p0), .val (.int p1), .val (.int p2), .val (.int p3), .val (.int p4), .val (.int p5), .val (.ref b1), .val (.ref b8), .val (.ref b16), .val (.ref b25), sk, .val (.int (0 : Int32)), .val (.int (1 : Int32))] [(.int (1 : Int32))]))
    refine own_up (fun _ k => XS.ifNo X48.here hx rfl (hb hby at_276) rfl ((if0 _ _).trans (feq (by decide)).1) k) ?_
    show own_Go p.tables e below _ (T48.setTop (mkF m 279 #[.val (.int p0), .val (.int p1), .val (.int p2), .val (.int p3), .val (.int p4), .val (.int p5), .val (.ref b1), .val (.ref b8), .val (.ref b16), .val (.ref b25), sk, .val (.int (0 : Int32)), .val (.int (1 : Int32))] []))
    refine own_up (fun _ k => XS.aload X48.here hx rfl (hb hby at_279) rfl rfl k) ?_
    show own_Go p.tables e below _ (T48.setTop (mkF m 281 #[.val (.int p0), .val (.int p1), .val (.int p2), .val (.int p3), .val (.int p4), .val (.int p5), .val (.ref b1), .val (.ref b8), .val (.ref b16), .val (.ref b25), sk, .val (.int (0 : Int32)), .val (.int (1 : Int32))] [(.ref b25)]))
    have f50 : n0 ≤ T48.heap.size := (Nat.le_trans Zt45 K48.1)
    obtain ⟨cq49, kq49, q49a, q49b, q49c⟩ := isOf hZ rfl P48_0
    obtain ⟨_, _, ⟨T49, L49, k49, n49⟩, -, X49, ⟨Lc49, hQ49, l49, y49, z49⟩, st49⟩ := X48.virtualBack hx (y := (⟨"com/example/hintikka/hintikka/domain/ConstraintNetwork", "size", "()I"⟩ : MethodName)) (z := (⟨"com/example/hintikka/hintikka/domain/ConstraintNetwork", "size", "()I"⟩ : MethodName)) hown (mvT hZ (hw _ (List.mem_of_getElem? (i := 114) rfl))) (mvT hZ (hw _ (List.mem_of_getElem? (i := 115) rfl))) (notFace_of_selects (args := #[]) (mvT hZ (hw _ (List.mem_of_getElem? (i := 117) rfl)))) (mvT hZ (hw _ (List.mem_of_getElem? (i := 117) rfl))) (mvT hZ (hw _ (List.mem_of_getElem? (i := 116) rfl))) (by decide) (backOf (W := 0) (rmQ l Z a0 hw [] b25 (1 : Int32) T48.heap n0 f50 P48_5) hZ (hw _ (List.mem_of_getElem? (i := 118) rfl)) (hw _ (List.mem_of_getElem? (i := 3) rfl)) (by decide) (by decide)) q49a q49c (g := (mkF m 281 #[.val (.int p0), .val (.int p1), .val (.int p2), .val (.int p3), .val (.int p4), .val (.int p5), .val (.ref b1), .val (.ref b8), .val (.ref b16), .val (.ref b25), sk, .val (.int (0 : Int32)), .val (.int (1 : Int32))] [(.ref b25)])) rfl (by rw [hml]; rfl) (Steps.refl _) (argsL := []) (rest := []) (lenOf own_pd6 rfl) rfl (by show 2 * 0 + _ ≤ _; exact Nat.le_of_eq rfl) (hb hby at_281) (fun _ _ => ⟨rfl, rfl, (by decide : 10 + 0 ≤ _), (by decide : 84 + 0 ≤ _)⟩)
    dsimp only [Pt.U, Pt.locs, Pt.cells, Pt.slots] at X49 l49 y49 z49 st49 hQ49
    subst l49 y49 z49
    obtain ⟨rfl, N49q, eq49⟩ := hQ49
    have N49 := Fr.app N48 N49q
    refine own_up (fun _ k => st49.trans k) ?_
    show own_Go p.tables e below _ (T49.setTop (mkF m 284 #[.val (.int p0), .val (.int p1), .val (.int p2), .val (.int p3), .val (.int p4), .val (.int p5), .val (.ref b1), .val (.ref b8), .val (.ref b16), .val (.ref b25), sk, .val (.int (0 : Int32)), .val (.int (1 : Int32))] [(.int (1 : Int32))]))
    refine own_up (fun _ k => XS.iload X49.here hx rfl (hb hby at_284) rfl k) ?_
    show own_Go p.tables e below _ (T49.setTop (mkF m 286 #[.val (.int p0), .val (.int p1), .val (.int p2), .val (.int p3), .val (.int p4), .val (.int p5), .val (.ref b1), .val (.ref b8), .val (.ref b16), .val (.ref b25), sk, .val (.int (0 : Int32)), .val (.int (1 : Int32))] [(.int (0 : Int32)), (.int (1 : Int32))]))
    refine own_up (fun _ k => XS.iconst X49.here hx rfl (hb hby at_286) k) ?_
    show own_Go p.tables e below _ (T49.setTop (mkF m 287 #[.val (.int p0), .val (.int p1), .val (.int p2), .val (.int p3), .val (.int p4), .val (.int p5), .val (.ref b1), .val (.ref b8), .val (.ref b16), .val (.ref b25), sk, .val (.int (0 : Int32)), .val (.int (1 : Int32))] [(.int (1 : Int32)), (.int (0 : Int32)), (.int (1 : Int32))]))
    refine own_up (fun _ k => XS.iadd X49.here hx rfl (hb hby at_287) rfl k) ?_
    show own_Go p.tables e below _ (T49.setTop (mkF m 288 #[.val (.int p0), .val (.int p1), .val (.int p2), .val (.int p3), .val (.int p4), .val (.int p5), .val (.ref b1), .val (.ref b8), .val (.ref b16), .val (.ref b25), sk, .val (.int (0 : Int32)), .val (.int (1 : Int32))] [(.int (1 : Int32)), (.int (1 : Int32))]))
    refine own_up (fun _ k => XS.icmpNo X49.here hx rfl (hb hby at_288) rfl (teq rfl).2 k) ?_
    show own_Go p.tables e below _ (T49.setTop (mkF m 291 #[.val (.int p0), .val (.int p1), .val (.int p2), .val (.int p3), .val (.int p4), .val (.int p5), .val (.ref b1), .val (.ref b8), .val (.ref b16), .val (.ref b25), sk, .val (.int (0 : Int32)), .val (.int (1 : Int32))] []))
    refine own_up (fun _ k => XS.aload X49.here hx rfl (hb hby at_291) rfl rfl k) ?_
    show own_Go p.tables e below _ (T49.setTop (mkF m 293 #[.val (.int p0), .val (.int p1), .val (.int p2), .val (.int p3), .val (.int p4), .val (.int p5), .val (.ref b1), .val (.ref b8), .val (.ref b16), .val (.ref b25), sk, .val (.int (0 : Int32)), .val (.int (1 : Int32))] [(.ref b25)]))
    refine own_up (fun _ k => XS.iload X49.here hx rfl (hb hby at_293) rfl k) ?_
    show own_Go p.tables e below _ (T49.setTop (mkF m 295 #[.val (.int p0), .val (.int p1), .val (.int p2), .val (.int p3), .val (.int p4), .val (.int p5), .val (.ref b1), .val (.ref b8), .val (.ref b16), .val (.ref b25), sk, .val (.int (0 : Int32)), .val (.int (1 : Int32))] [(.int (0 : Int32)), (.ref b25)]))
    obtain ⟨cq51, kq51, q51a, q51b, q51c⟩ := isOf hZ eq49 P48_0
    obtain ⟨_, _, ⟨T51, L51, k51, n51⟩, -, X51, ⟨Lc51, hQ51, l51, y51, z51⟩, st51⟩ := X49.virtualBack hx (y := (⟨"com/example/hintikka/hintikka/domain/ConstraintNetwork", "getRelations", "(I)I"⟩ : MethodName)) (z := (⟨"com/example/hintikka/hintikka/domain/ConstraintNetwork", "getRelations", "(I)I"⟩ : MethodName)) hown (mvT hZ (hw _ (List.mem_of_getElem? (i := 133) rfl))) (mvT hZ (hw _ (List.mem_of_getElem? (i := 134) rfl))) (notFace_of_selects (args := #[]) (mvT hZ (hw _ (List.mem_of_getElem? (i := 136) rfl)))) (mvT hZ (hw _ (List.mem_of_getElem? (i := 136) rfl))) (mvT hZ (hw _ (List.mem_of_getElem? (i := 135) rfl))) (by decide) (backOf (W := 0) (rmGE l Z a0 hw [] b25 (0 : Int32) (1 : Int32) re_29 ke_29 [(.int p5), (.int yb1), (.int yb2), (.int yb3)] p5 T48.heap n0 f50 P48_0 P48_5 P48_3 P48_7 (by decide) (by decide) ⟨by decide, by decide⟩ rfl) hZ (hw _ (List.mem_of_getElem? (i := 137) rfl)) (hw _ (List.mem_of_getElem? (i := 3) rfl)) (by decide) (by decide)) q51a q51c (g := (mkF m 295 #[.val (.int p0), .val (.int p1), .val (.int p2), .val (.int p3), .val (.int p4), .val (.int p5), .val (.ref b1), .val (.ref b8), .val (.ref b16), .val (.ref b25), sk, .val (.int (0 : Int32)), .val (.int (1 : Int32))] [(.int (0 : Int32)), (.ref b25)])) rfl (by rw [hml]; rfl) (Steps.refl _) (argsL := [(.int (0 : Int32))]) (rest := []) (lenOf own_pd7 rfl) rfl (by show 2 * 0 + _ ≤ _; exact Nat.le_of_eq rfl) (hb hby at_295) (fun _ _ => ⟨rfl, eq49, (by decide : 10 + 0 ≤ _), (by decide : 84 + 0 ≤ _)⟩)
    dsimp only [Pt.U, Pt.locs, Pt.cells, Pt.slots] at X51 l51 y51 z51 st51 hQ51
    subst l51 y51 z51
    obtain ⟨rfl, N51q, eq51⟩ := hQ51
    have N51 := Fr.app N49 N51q
    refine own_up (fun _ k => st51.trans k) ?_
    show own_Go p.tables e below _ (T51.setTop (mkF m 298 #[.val (.int p0), .val (.int p1), .val (.int p2), .val (.int p3), .val (.int p4), .val (.int p5), .val (.ref b1), .val (.ref b8), .val (.ref b16), .val (.ref b25), sk, .val (.int (0 : Int32)), .val (.int (1 : Int32))] [(.int p5)]))
    refine own_up (fun _ k => XS.iload X51.here hx rfl (hb hby at_298) rfl k) ?_
    show own_Go p.tables e below _ (T51.setTop (mkF m 300 #[.val (.int p0), .val (.int p1), .val (.int p2), .val (.int p3), .val (.int p4), .val (.int p5), .val (.ref b1), .val (.ref b8), .val (.ref b16), .val (.ref b25), sk, .val (.int (0 : Int32)), .val (.int (1 : Int32))] [(.int p5), (.int p5)]))
    refine own_up (fun _ k => XS.icmpNo X51.here hx rfl (hb hby at_300) rfl (teq rfl).2 k) ?_
    show own_Go p.tables e below _ (T51.setTop (mkF m 303 #[.val (.int p0), .val (.int p1), .val (.int p2), .val (.int p3), .val (.int p4), .val (.int p5), .val (.ref b1), .val (.ref b8), .val (.ref b16), .val (.ref b25), sk, .val (.int (0 : Int32)), .val (.int (1 : Int32))] []))
    refine own_up (fun _ k => XS.iconst X51.here hx rfl (hb hby at_303) k) ?_
    show own_Go p.tables e below _ (T51.setTop (mkF m 304 #[.val (.int p0), .val (.int p1), .val (.int p2), .val (.int p3), .val (.int p4), .val (.int p5), .val (.ref b1), .val (.ref b8), .val (.ref b16), .val (.ref b25), sk, .val (.int (0 : Int32)), .val (.int (1 : Int32))] [(.int (1 : Int32))]))
    refine own_up (fun _ k => XS.goto X51.here hx rfl (pc0 := 304) (pc' := 308) rfl (hb hby at_304) (by decide) (by decide) k) ?_
    show own_Go p.tables e below _ (T51.setTop (mkF m 308 #[.val (.int p0), .val (.int p1), .val (.int p2), .val (.int p3), .val (.int p4), .val (.int p5), .val (.ref b1), .val (.ref b8), .val (.ref b16), .val (.ref b25), sk, .val (.int (0 : Int32)), .val (.int (1 : Int32))] [(.int (1 : Int32))]))
    refine own_up (fun _ k => XS.istore X51.here hx rfl (hb hby at_308) rfl (l' := #[.val (.int p0), .val (.int p1), .val (.int p2), .val (.int p3), .val (.int p4), .val (.int p5), .val (.ref b1), .val (.ref b8), .val (.ref b16), .val (.ref b25), sk, .val (.int (0 : Int32)), .val (.int (1 : Int32))]) rfl k) ?_
    show own_Go p.tables e below _ (T51.setTop (mkF m 310 #[.val (.int p0), .val (.int p1), .val (.int p2), .val (.int p3), .val (.int p4), .val (.int p5), .val (.ref b1), .val (.ref b8), .val (.ref b16), .val (.ref b25), sk, .val (.int (0 : Int32)), .val (.int (1 : Int32))] []))
    refine own_up (fun _ k => XS.iload X51.here hx rfl (hb hby at_310) rfl k) ?_
    show own_Go p.tables e below _ (T51.setTop (mkF m 312 #[.val (.int p0), .val (.int p1), .val (.int p2), .val (.int p3), .val (.int p4), .val (.int p5), .val (.ref b1), .val (.ref b8), .val (.ref b16), .val (.ref b25), sk, .val (.int (0 : Int32)), .val (.int (1 : Int32))] [(.int (1 : Int32))]))
    exact own_end X51 hlk (v := some (.int (1 : Int32))) (fun h => by rw [Bd.returns] at h; cases h) (fun fs hr => retN X51 hx (z := (1 : Int32)) (t := .boolean) Bd.returns (by simp) (hb hby at_312) hr) eq51 ⟨rfl, N51⟩ (by decide) (by decide)
  have end1 : ∀ (Tt52 : State) (Lt52 : List Loc) (Xt52 : Stand p l e room_1 s m #[(.int p0), (.int p1), (.int p2), (.int p3), (.int p4), (.int p5)] below meth c Tt52 Lt52 10 84) (ht52 : Heap) (et52 : Tt52.heap = ht52) (Nt52 : Fr n0 Lt52) (sk : Slot) (ya1 : Int32) (ya2 : Int32) (ya3 : Int32) (yb1 : Int32) (yb2 : Int32) (yb3 : Int32) (yc1 : Int32) (yc2 : Int32) (yc3 : Int32) (s0 : Exa Z ht52 b25 "com/example/hintikka/hintikka/domain/ConstraintNetwork") (s1 : Fld Z ht52 b25 "com/example/hintikka/hintikka/domain/ConstraintNetwork" "constants" "Ljava/util/List;" (.ref al_29)) (s2 : Fld Z ht52 b25 "com/example/hintikka/hintikka/domain/ConstraintNetwork" "lefts" "[I" (.ref la_29)) (s3 : Fld Z ht52 b25 "com/example/hintikka/hintikka/domain/ConstraintNetwork" "relations" "[I" (.ref re_29)) (s4 : Fld Z ht52 b25 "com/example/hintikka/hintikka/domain/ConstraintNetwork" "rights" "[I" (.ref ri_29)) (s5 : Exa Z ht52 al_29 "java/util/ArrayList") (s6 : Fld Z ht52 al_29 "java/util/ArrayList" "size" "I" (.int (2 : Int32))) (q0 : Arv Z ht52 b1 k1 .int (3 : Int32) [(.int (0 : Int32)), (.int (1 : Int32)), (.int (1 : Int32))] (.int (0 : Int32))) (q1 : Arv Z ht52 b8 k8 .int (3 : Int32) [(.int (1 : Int32)), (.int (0 : Int32)), (.int (1 : Int32))] (.int (0 : Int32))) (q2 : Arv Z ht52 b16 k16 .int (3 : Int32) [(.int p2), (.int p3), (.int p4)] (.int (0 : Int32))) (sq : Fld Z ht52 b25 "com/example/hintikka/hintikka/domain/ConstraintNetwork" "size" "I" (.int (1 : Int32))) (z0 : Arv Z ht52 la_29 ka_29 .int (16 : Int32) [(.int (0 : Int32)), (.int ya1), (.int ya2), (.int ya3)] (.int (0 : Int32))) (z1 : Arv Z ht52 re_29 ke_29 .int (16 : Int32) [(.int p2), (.int yb1), (.int yb2), (.int yb3)] (.int (0 : Int32))) (z2 : Arv Z ht52 ri_29 ki_29 .int (16 : Int32) [(.int (1 : Int32)), (.int yc1), (.int yc2), (.int yc3)] (.int (0 : Int32))) (Zt52 : n0 ≤ ht52.size) (Ot52 : Old Z n0 ht52), own_Go p.tables e below (fun u o => ∃ v L, o = .returned v ∧ Q_rm0 Z p0 p1 p2 p3 p4 p5 de kd h0 n0 v u.heap L ∧ FrameEnd s o u L room_1.cells room_1.slots) (Tt52.setTop (mkF m 164 #[.val (.int p0), .val (.int p1), .val (.int p2), .val (.int p3), .val (.int p4), .val (.int p5), .val (.ref b1), .val (.ref b8), .val (.ref b16), .val (.ref b25), sk, .val (.int (1 : Int32)), .unset] [])) := by
    intro Tt52 Lt52 Xt52 ht52 et52 Nt52 sk ya1 ya2 ya3 yb1 yb2 yb3 yc1 yc2 yc3 s0 s1 s2 s3 s4 s5 s6 q0 q1 q2 sq z0 z1 z2 Zt52 Ot52
    refine own_up (fun _ k => XS.aload Xt52.here hx rfl (hb hby at_164) rfl rfl k) ?_
    show own_Go p.tables e below _ (Tt52.setTop (mkF m 166 #[.val (.int p0), .val (.int p1), .val (.int p2), .val (.int p3), .val (.int p4), .val (.int p5), .val (.ref b1), .val (.ref b8), .val (.ref b16), .val (.ref b25), sk, .val (.int (1 : Int32)), .unset] [(.ref b25)]))
    obtain ⟨cq53, kq53, q53a, q53b, q53c⟩ := isOf hZ et52 s0
    obtain ⟨_, _, ⟨T53, L53, k53, n53⟩, -, X53, ⟨Lc53, hQ53, l53, y53, z53⟩, st53⟩ := Xt52.virtualBack hx (y := (⟨"com/example/hintikka/hintikka/domain/ConstraintNetwork", "size", "()I"⟩ : MethodName)) (z := (⟨"com/example/hintikka/hintikka/domain/ConstraintNetwork", "size", "()I"⟩ : MethodName)) hown (mvT hZ (hw _ (List.mem_of_getElem? (i := 114) rfl))) (mvT hZ (hw _ (List.mem_of_getElem? (i := 115) rfl))) (notFace_of_selects (args := #[]) (mvT hZ (hw _ (List.mem_of_getElem? (i := 117) rfl)))) (mvT hZ (hw _ (List.mem_of_getElem? (i := 117) rfl))) (mvT hZ (hw _ (List.mem_of_getElem? (i := 116) rfl))) (by decide) (backOf (W := 0) (rmQ l Z a0 hw [] b25 (1 : Int32) ht52 n0 Zt52 sq) hZ (hw _ (List.mem_of_getElem? (i := 118) rfl)) (hw _ (List.mem_of_getElem? (i := 3) rfl)) (by decide) (by decide)) q53a q53c (g := (mkF m 166 #[.val (.int p0), .val (.int p1), .val (.int p2), .val (.int p3), .val (.int p4), .val (.int p5), .val (.ref b1), .val (.ref b8), .val (.ref b16), .val (.ref b25), sk, .val (.int (1 : Int32)), .unset] [(.ref b25)])) rfl (by rw [hml]; rfl) (Steps.refl _) (argsL := []) (rest := []) (lenOf own_pd6 rfl) rfl (by show 2 * 0 + _ ≤ _; exact Nat.le_of_eq rfl) (hb hby at_166) (fun _ _ => ⟨rfl, et52, (by decide : 10 + 0 ≤ _), (by decide : 84 + 0 ≤ _)⟩)
    dsimp only [Pt.U, Pt.locs, Pt.cells, Pt.slots] at X53 l53 y53 z53 st53 hQ53
    subst l53 y53 z53
    obtain ⟨rfl, N53q, eq53⟩ := hQ53
    have N53 := Fr.app Nt52 N53q
    refine own_up (fun _ k => st53.trans k) ?_
    show own_Go p.tables e below _ (T53.setTop (mkF m 169 #[.val (.int p0), .val (.int p1), .val (.int p2), .val (.int p3), .val (.int p4), .val (.int p5), .val (.ref b1), .val (.ref b8), .val (.ref b16), .val (.ref b25), sk, .val (.int (1 : Int32)), .unset] [(.int (1 : Int32))]))
    refine own_up (fun _ k => XS.iload X53.here hx rfl (hb hby at_169) rfl k) ?_
    show own_Go p.tables e below _ (T53.setTop (mkF m 171 #[.val (.int p0), .val (.int p1), .val (.int p2), .val (.int p3), .val (.int p4), .val (.int p5), .val (.ref b1), .val (.ref b8), .val (.ref b16), .val (.ref b25), sk, .val (.int (1 : Int32)), .unset] [(.int (1 : Int32)), (.int (1 : Int32))]))
    refine own_up (fun _ k => XS.icmpNo X53.here hx rfl (hb hby at_171) rfl (teq rfl).2 k) ?_
    show own_Go p.tables e below _ (T53.setTop (mkF m 174 #[.val (.int p0), .val (.int p1), .val (.int p2), .val (.int p3), .val (.int p4), .val (.int p5), .val (.ref b1), .val (.ref b8), .val (.ref b16), .val (.ref b25), sk, .val (.int (1 : Int32)), .unset] []))
    refine own_up (fun _ k => XS.aload X53.here hx rfl (hb hby at_174) rfl rfl k) ?_
    show own_Go p.tables e below _ (T53.setTop (mkF m 176 #[.val (.int p0), .val (.int p1), .val (.int p2), .val (.int p3), .val (.int p4), .val (.int p5), .val (.ref b1), .val (.ref b8), .val (.ref b16), .val (.ref b25), sk, .val (.int (1 : Int32)), .unset] [(.ref b25)]))
    obtain ⟨cq54, kq54, q54a, q54b, q54c⟩ := isOf hZ eq53 s0
    obtain ⟨_, _, ⟨T54, L54, k54, n54⟩, -, X54, ⟨Lc54, hQ54, l54, y54, z54⟩, st54⟩ := X53.virtualBack hx (y := (⟨"com/example/hintikka/hintikka/domain/ConstraintNetwork", "getVariableCount", "()I"⟩ : MethodName)) (z := (⟨"com/example/hintikka/hintikka/domain/ConstraintNetwork", "getVariableCount", "()I"⟩ : MethodName)) hown (mvT hZ (hw _ (List.mem_of_getElem? (i := 119) rfl))) (mvT hZ (hw _ (List.mem_of_getElem? (i := 120) rfl))) (notFace_of_selects (args := #[]) (mvT hZ (hw _ (List.mem_of_getElem? (i := 122) rfl)))) (mvT hZ (hw _ (List.mem_of_getElem? (i := 122) rfl))) (mvT hZ (hw _ (List.mem_of_getElem? (i := 121) rfl))) (by decide) (backOf (W := 0) (rmVC l Z a0 hw [] b25 al_29 ht52 n0 Zt52 s1 s5 s6) hZ (hw _ (List.mem_of_getElem? (i := 123) rfl)) (hw _ (List.mem_of_getElem? (i := 3) rfl)) (by decide) (by decide)) q54a q54c (g := (mkF m 176 #[.val (.int p0), .val (.int p1), .val (.int p2), .val (.int p3), .val (.int p4), .val (.int p5), .val (.ref b1), .val (.ref b8), .val (.ref b16), .val (.ref b25), sk, .val (.int (1 : Int32)), .unset] [(.ref b25)])) rfl (by rw [hml]; rfl) (Steps.refl _) (argsL := []) (rest := []) (lenOf own_pd6 rfl) rfl (by show 2 * 0 + _ ≤ _; exact Nat.le_of_eq rfl) (hb hby at_176) (fun _ _ => ⟨rfl, eq53, (by decide : 10 + 0 ≤ _), (by decide : 84 + 0 ≤ _)⟩)
    dsimp only [Pt.U, Pt.locs, Pt.cells, Pt.slots] at X54 l54 y54 z54 st54 hQ54
    subst l54 y54 z54
    obtain ⟨rfl, N54q, eq54⟩ := hQ54
    have N54 := Fr.app N53 N54q
    refine own_up (fun _ k => st54.trans k) ?_
    show own_Go p.tables e below _ (T54.setTop (mkF m 179 #[.val (.int p0), .val (.int p1), .val (.int p2), .val (.int p3), .val (.int p4), .val (.int p5), .val (.ref b1), .val (.ref b8), .val (.ref b16), .val (.ref b25), sk, .val (.int (1 : Int32)), .unset] [(.int (2 : Int32))]))
    refine own_up (fun _ k => XS.iconst X54.here hx rfl (hb hby at_179) k) ?_
    show own_Go p.tables e below _ (T54.setTop (mkF m 180 #[.val (.int p0), .val (.int p1), .val (.int p2), .val (.int p3), .val (.int p4), .val (.int p5), .val (.ref b1), .val (.ref b8), .val (.ref b16), .val (.ref b25), sk, .val (.int (1 : Int32)), .unset] [(.int (2 : Int32)), (.int (2 : Int32))]))
    refine own_up (fun _ k => XS.icmpNo X54.here hx rfl (hb hby at_180) rfl (teq rfl).2 k) ?_
    show own_Go p.tables e below _ (T54.setTop (mkF m 183 #[.val (.int p0), .val (.int p1), .val (.int p2), .val (.int p3), .val (.int p4), .val (.int p5), .val (.ref b1), .val (.ref b8), .val (.ref b16), .val (.ref b25), sk, .val (.int (1 : Int32)), .unset] []))
    refine own_up (fun _ k => XS.iconst X54.here hx rfl (hb hby at_183) k) ?_
    show own_Go p.tables e below _ (T54.setTop (mkF m 184 #[.val (.int p0), .val (.int p1), .val (.int p2), .val (.int p3), .val (.int p4), .val (.int p5), .val (.ref b1), .val (.ref b8), .val (.ref b16), .val (.ref b25), sk, .val (.int (1 : Int32)), .unset] [(.int (1 : Int32))]))
    refine own_up (fun _ k => XS.goto X54.here hx rfl (pc0 := 184) (pc' := 188) rfl (hb hby at_184) (by decide) (by decide) k) ?_
    show own_Go p.tables e below _ (T54.setTop (mkF m 188 #[.val (.int p0), .val (.int p1), .val (.int p2), .val (.int p3), .val (.int p4), .val (.int p5), .val (.ref b1), .val (.ref b8), .val (.ref b16), .val (.ref b25), sk, .val (.int (1 : Int32)), .unset] [(.int (1 : Int32))]))
    refine own_up (fun _ k => XS.istore X54.here hx rfl (hb hby at_188) rfl (l' := #[.val (.int p0), .val (.int p1), .val (.int p2), .val (.int p3), .val (.int p4), .val (.int p5), .val (.ref b1), .val (.ref b8), .val (.ref b16), .val (.ref b25), sk, .val (.int (1 : Int32)), .val (.int (1 : Int32))]) rfl k) ?_
    show own_Go p.tables e below _ (T54.setTop (mkF m 190 #[.val (.int p0), .val (.int p1), .val (.int p2), .val (.int p3), .val (.int p4), .val (.int p5), .val (.ref b1), .val (.ref b8), .val (.ref b16), .val (.ref b25), sk, .val (.int (1 : Int32)), .val (.int (1 : Int32))] []))
    refine own_up (fun _ k => XS.iload X54.here hx rfl (hb hby at_190) rfl k) ?_
    show own_Go p.tables e below _ (T54.setTop (mkF m 192 #[.val (.int p0), .val (.int p1), .val (.int p2), .val (.int p3), .val (.int p4), .val (.int p5), .val (.ref b1), .val (.ref b8), .val (.ref b16), .val (.ref b25), sk, .val (.int (1 : Int32)), .val (.int (1 : Int32))] [(.int (1 : Int32))]))
    refine own_up (fun _ k => XS.iconst X54.here hx rfl (hb hby at_192) k) ?_
    show own_Go p.tables e below _ (T54.setTop (mkF m 193 #[.val (.int p0), .val (.int p1), .val (.int p2), .val (.int p3), .val (.int p4), .val (.int p5), .val (.ref b1), .val (.ref b8), .val (.ref b16), .val (.ref b25), sk, .val (.int (1 : Int32)), .val (.int (1 : Int32))] [(.int (1 : Int32)), (.int (1 : Int32))]))
    refine own_up (fun _ k => XS.icmpNo X54.here hx rfl (hb hby at_193) rfl (flt (by decide)).1 k) ?_
    show own_Go p.tables e below _ (T54.setTop (mkF m 196 #[.val (.int p0), .val (.int p1), .val (.int p2), .val (.int p3), .val (.int p4), .val (.int p5), .val (.ref b1), .val (.ref b8), .val (.ref b16), .val (.ref b25), sk, .val (.int (1 : Int32)), .val (.int (1 : Int32))] []))
    refine own_up (fun _ k => XS.iload X54.here hx rfl (hb hby at_196) rfl k) ?_
    show own_Go p.tables e below _ (T54.setTop (mkF m 198 #[.val (.int p0), .val (.int p1), .val (.int p2), .val (.int p3), .val (.int p4), .val (.int p5), .val (.ref b1), .val (.ref b8), .val (.ref b16), .val (.ref b25), sk, .val (.int (1 : Int32)), .val (.int (1 : Int32))] [(.int (1 : Int32))]))
    refine own_up (fun _ k => XS.ifNo X54.here hx rfl (hb hby at_198) rfl ((if0 _ _).trans (feq (by decide)).1) k) ?_
    show own_Go p.tables e below _ (T54.setTop (mkF m 201 #[.val (.int p0), .val (.int p1), .val (.int p2), .val (.int p3), .val (.int p4), .val (.int p5), .val (.ref b1), .val (.ref b8), .val (.ref b16), .val (.ref b25), sk, .val (.int (1 : Int32)), .val (.int (1 : Int32))] []))
    refine own_up (fun _ k => XS.aload X54.here hx rfl (hb hby at_201) rfl rfl k) ?_
    show own_Go p.tables e below _ (T54.setTop (mkF m 203 #[.val (.int p0), .val (.int p1), .val (.int p2), .val (.int p3), .val (.int p4), .val (.int p5), .val (.ref b1), .val (.ref b8), .val (.ref b16), .val (.ref b25), sk, .val (.int (1 : Int32)), .val (.int (1 : Int32))] [(.ref b25)]))
    refine own_up (fun _ k => XS.iload X54.here hx rfl (hb hby at_203) rfl k) ?_
    show own_Go p.tables e below _ (T54.setTop (mkF m 205 #[.val (.int p0), .val (.int p1), .val (.int p2), .val (.int p3), .val (.int p4), .val (.int p5), .val (.ref b1), .val (.ref b8), .val (.ref b16), .val (.ref b25), sk, .val (.int (1 : Int32)), .val (.int (1 : Int32))] [(.int (1 : Int32)), (.ref b25)]))
    refine own_up (fun _ k => XS.iconst X54.here hx rfl (hb hby at_205) k) ?_
    show own_Go p.tables e below _ (T54.setTop (mkF m 206 #[.val (.int p0), .val (.int p1), .val (.int p2), .val (.int p3), .val (.int p4), .val (.int p5), .val (.ref b1), .val (.ref b8), .val (.ref b16), .val (.ref b25), sk, .val (.int (1 : Int32)), .val (.int (1 : Int32))] [(.int (1 : Int32)), (.int (1 : Int32)), (.ref b25)]))
    refine own_up (fun _ k => XS.isub X54.here hx rfl (hb hby at_206) rfl k) ?_
    show own_Go p.tables e below _ (T54.setTop (mkF m 207 #[.val (.int p0), .val (.int p1), .val (.int p2), .val (.int p3), .val (.int p4), .val (.int p5), .val (.ref b1), .val (.ref b8), .val (.ref b16), .val (.ref b25), sk, .val (.int (1 : Int32)), .val (.int (1 : Int32))] [(.int (0 : Int32)), (.ref b25)]))
    obtain ⟨cq55, kq55, q55a, q55b, q55c⟩ := isOf hZ eq54 s0
    obtain ⟨_, _, ⟨T55, L55, k55, n55⟩, -, X55, ⟨Lc55, hQ55, l55, y55, z55⟩, st55⟩ := X54.virtualBack hx (y := (⟨"com/example/hintikka/hintikka/domain/ConstraintNetwork", "getLeft", "(I)I"⟩ : MethodName)) (z := (⟨"com/example/hintikka/hintikka/domain/ConstraintNetwork", "getLeft", "(I)I"⟩ : MethodName)) hown (mvT hZ (hw _ (List.mem_of_getElem? (i := 142) rfl))) (mvT hZ (hw _ (List.mem_of_getElem? (i := 143) rfl))) (notFace_of_selects (args := #[]) (mvT hZ (hw _ (List.mem_of_getElem? (i := 145) rfl)))) (mvT hZ (hw _ (List.mem_of_getElem? (i := 145) rfl))) (mvT hZ (hw _ (List.mem_of_getElem? (i := 144) rfl))) (by decide) (backOf (W := 0) (rmGL l Z a0 hw [] b25 (0 : Int32) (1 : Int32) la_29 ka_29 [(.int (0 : Int32)), (.int ya1), (.int ya2), (.int ya3)] (0 : Int32) ht52 n0 Zt52 s0 sq s2 z0 (by decide) (by decide) ⟨by decide, by decide⟩ rfl) hZ (hw _ (List.mem_of_getElem? (i := 146) rfl)) (hw _ (List.mem_of_getElem? (i := 3) rfl)) (by decide) (by decide)) q55a q55c (g := (mkF m 207 #[.val (.int p0), .val (.int p1), .val (.int p2), .val (.int p3), .val (.int p4), .val (.int p5), .val (.ref b1), .val (.ref b8), .val (.ref b16), .val (.ref b25), sk, .val (.int (1 : Int32)), .val (.int (1 : Int32))] [(.int (0 : Int32)), (.ref b25)])) rfl (by rw [hml]; rfl) (Steps.refl _) (argsL := [(.int (0 : Int32))]) (rest := []) (lenOf own_pd7 rfl) rfl (by show 2 * 0 + _ ≤ _; exact Nat.le_of_eq rfl) (hb hby at_207) (fun _ _ => ⟨rfl, eq54, (by decide : 10 + 0 ≤ _), (by decide : 84 + 0 ≤ _)⟩)
    dsimp only [Pt.U, Pt.locs, Pt.cells, Pt.slots] at X55 l55 y55 z55 st55 hQ55
    subst l55 y55 z55
    obtain ⟨rfl, N55q, eq55⟩ := hQ55
    have N55 := Fr.app N54 N55q
    refine own_up (fun _ k => st55.trans k) ?_
    show own_Go p.tables e below _ (T55.setTop (mkF m 210 #[.val (.int p0), .val (.int p1), .val (.int p2), .val (.int p3), .val (.int p4), .val (.int p5), .val (.ref b1), .val (.ref b8), .val (.ref b16), .val (.ref b25), sk, .val (.int (1 : Int32)), .val (.int (1 : Int32))] [(.int (0 : Int32))]))
    refine own_up (fun _ k => XS.aload X55.here hx rfl (hb hby at_210) rfl rfl k) ?_
    show own_Go p.tables e below _ (T55.setTop (mkF m 212 #[.val (.int p0), .val (.int p1), .val (.int p2), .val (.int p3), .val (.int p4), .val (.int p5), .val (.ref b1), .val (.ref b8), .val (.ref b16), .val (.ref b25), sk, .val (.int (1 : Int32)), .val (.int (1 : Int32))] [(.ref b1), (.int (0 : Int32))]))
    refine own_up (fun _ k => XS.iload X55.here hx rfl (hb hby at_212) rfl k) ?_
    show own_Go p.tables e below _ (T55.setTop (mkF m 214 #[.val (.int p0), .val (.int p1), .val (.int p2), .val (.int p3), .val (.int p4), .val (.int p5), .val (.ref b1), .val (.ref b8), .val (.ref b16), .val (.ref b25), sk, .val (.int (1 : Int32)), .val (.int (1 : Int32))] [(.int (1 : Int32)), (.ref b1), (.int (0 : Int32))]))
    refine own_up (fun _ k => XS.iconst X55.here hx rfl (hb hby at_214) k) ?_
    show own_Go p.tables e below _ (T55.setTop (mkF m 215 #[.val (.int p0), .val (.int p1), .val (.int p2), .val (.int p3), .val (.int p4), .val (.int p5), .val (.ref b1), .val (.ref b8), .val (.ref b16), .val (.ref b25), sk, .val (.int (1 : Int32)), .val (.int (1 : Int32))] [(.int (1 : Int32)), (.int (1 : Int32)), (.ref b1), (.int (0 : Int32))]))
    refine own_up (fun _ k => XS.isub X55.here hx rfl (hb hby at_215) rfl k) ?_
    show own_Go p.tables e below _ (T55.setTop (mkF m 216 #[.val (.int p0), .val (.int p1), .val (.int p2), .val (.int p3), .val (.int p4), .val (.int p5), .val (.ref b1), .val (.ref b8), .val (.ref b16), .val (.ref b25), sk, .val (.int (1 : Int32)), .val (.int (1 : Int32))] [(.int (0 : Int32)), (.ref b1), (.int (0 : Int32))]))
    obtain ⟨cl56_, Ar56, q56, S56, M56, Hs56, G56⟩ := id (q0)
    have hin57 : ¬ ((0 : Int32) < 0 ∨ cl56_.slots.size ≤ ((0 : Int32)).toNatClampNeg) := inb_of S56 ⟨by decide, by decide⟩
    have hat57 : cl56_.slots[((0 : Int32)).toNatClampNeg]? = some (.int (0 : Int32)) := Has.at Hs56 hin57 rfl
    refine own_up (fun _ k => X55.iaload hx (j := (0 : Int32)) (v := (.int (0 : Int32))) (by rw [eq55]; exact Ar56.1) (State.isArrayOf_alike hZ.alike Ar56.2.1) Ar56.2.2 hin57 hat57 (g := (mkF m 216 #[.val (.int p0), .val (.int p1), .val (.int p2), .val (.int p3), .val (.int p4), .val (.int p5), .val (.ref b1), .val (.ref b8), .val (.ref b16), .val (.ref b25), sk, .val (.int (1 : Int32)), .val (.int (1 : Int32))] [(.int (0 : Int32)), (.ref b1), (.int (0 : Int32))])) rfl rfl (hb hby at_216) _ k) ?_
    show own_Go p.tables e below _ (T55.setTop (mkF m 217 #[.val (.int p0), .val (.int p1), .val (.int p2), .val (.int p3), .val (.int p4), .val (.int p5), .val (.ref b1), .val (.ref b8), .val (.ref b16), .val (.ref b25), sk, .val (.int (1 : Int32)), .val (.int (1 : Int32))] [(.int (0 : Int32)), (.int (0 : Int32))]))
    refine own_up (fun _ k => XS.icmpNo X55.here hx rfl (hb hby at_217) rfl (teq rfl).2 k) ?_
    show own_Go p.tables e below _ (T55.setTop (mkF m 220 #[.val (.int p0), .val (.int p1), .val (.int p2), .val (.int p3), .val (.int p4), .val (.int p5), .val (.ref b1), .val (.ref b8), .val (.ref b16), .val (.ref b25), sk, .val (.int (1 : Int32)), .val (.int (1 : Int32))] []))
    refine own_up (fun _ k => XS.aload X55.here hx rfl (hb hby at_220) rfl rfl k) ?_
    show own_Go p.tables e below _ (T55.setTop (mkF m 222 #[.val (.int p0), .val (.int p1), .val (.int p2), .val (.int p3), .val (.int p4), .val (.int p5), .val (.ref b1), .val (.ref b8), .val (.ref b16), .val (.ref b25), sk, .val (.int (1 : Int32)), .val (.int (1 : Int32))] [(.ref b25)]))
    refine own_up (fun _ k => XS.iload X55.here hx rfl (hb hby at_222) rfl k) ?_
    show own_Go p.tables e below _ (T55.setTop (mkF m 224 #[.val (.int p0), .val (.int p1), .val (.int p2), .val (.int p3), .val (.int p4), .val (.int p5), .val (.ref b1), .val (.ref b8), .val (.ref b16), .val (.ref b25), sk, .val (.int (1 : Int32)), .val (.int (1 : Int32))] [(.int (1 : Int32)), (.ref b25)]))
    refine own_up (fun _ k => XS.iconst X55.here hx rfl (hb hby at_224) k) ?_
    show own_Go p.tables e below _ (T55.setTop (mkF m 225 #[.val (.int p0), .val (.int p1), .val (.int p2), .val (.int p3), .val (.int p4), .val (.int p5), .val (.ref b1), .val (.ref b8), .val (.ref b16), .val (.ref b25), sk, .val (.int (1 : Int32)), .val (.int (1 : Int32))] [(.int (1 : Int32)), (.int (1 : Int32)), (.ref b25)]))
    refine own_up (fun _ k => XS.isub X55.here hx rfl (hb hby at_225) rfl k) ?_
    show own_Go p.tables e below _ (T55.setTop (mkF m 226 #[.val (.int p0), .val (.int p1), .val (.int p2), .val (.int p3), .val (.int p4), .val (.int p5), .val (.ref b1), .val (.ref b8), .val (.ref b16), .val (.ref b25), sk, .val (.int (1 : Int32)), .val (.int (1 : Int32))] [(.int (0 : Int32)), (.ref b25)]))
    obtain ⟨cq58, kq58, q58a, q58b, q58c⟩ := isOf hZ eq55 s0
    obtain ⟨_, _, ⟨T58, L58, k58, n58⟩, -, X58, ⟨Lc58, hQ58, l58, y58, z58⟩, st58⟩ := X55.virtualBack hx (y := (⟨"com/example/hintikka/hintikka/domain/ConstraintNetwork", "getRelations", "(I)I"⟩ : MethodName)) (z := (⟨"com/example/hintikka/hintikka/domain/ConstraintNetwork", "getRelations", "(I)I"⟩ : MethodName)) hown (mvT hZ (hw _ (List.mem_of_getElem? (i := 133) rfl))) (mvT hZ (hw _ (List.mem_of_getElem? (i := 134) rfl))) (notFace_of_selects (args := #[]) (mvT hZ (hw _ (List.mem_of_getElem? (i := 136) rfl)))) (mvT hZ (hw _ (List.mem_of_getElem? (i := 136) rfl))) (mvT hZ (hw _ (List.mem_of_getElem? (i := 135) rfl))) (by decide) (backOf (W := 0) (rmGE l Z a0 hw [] b25 (0 : Int32) (1 : Int32) re_29 ke_29 [(.int p2), (.int yb1), (.int yb2), (.int yb3)] p2 ht52 n0 Zt52 s0 sq s3 z1 (by decide) (by decide) ⟨by decide, by decide⟩ rfl) hZ (hw _ (List.mem_of_getElem? (i := 137) rfl)) (hw _ (List.mem_of_getElem? (i := 3) rfl)) (by decide) (by decide)) q58a q58c (g := (mkF m 226 #[.val (.int p0), .val (.int p1), .val (.int p2), .val (.int p3), .val (.int p4), .val (.int p5), .val (.ref b1), .val (.ref b8), .val (.ref b16), .val (.ref b25), sk, .val (.int (1 : Int32)), .val (.int (1 : Int32))] [(.int (0 : Int32)), (.ref b25)])) rfl (by rw [hml]; rfl) (Steps.refl _) (argsL := [(.int (0 : Int32))]) (rest := []) (lenOf own_pd7 rfl) rfl (by show 2 * 0 + _ ≤ _; exact Nat.le_of_eq rfl) (hb hby at_226) (fun _ _ => ⟨rfl, eq55, (by decide : 10 + 0 ≤ _), (by decide : 84 + 0 ≤ _)⟩)
    dsimp only [Pt.U, Pt.locs, Pt.cells, Pt.slots] at X58 l58 y58 z58 st58 hQ58
    subst l58 y58 z58
    obtain ⟨rfl, N58q, eq58⟩ := hQ58
    have N58 := Fr.app N55 N58q
    refine own_up (fun _ k => st58.trans k) ?_
    show own_Go p.tables e below _ (T58.setTop (mkF m 229 #[.val (.int p0), .val (.int p1), .val (.int p2), .val (.int p3), .val (.int p4), .val (.int p5), .val (.ref b1), .val (.ref b8), .val (.ref b16), .val (.ref b25), sk, .val (.int (1 : Int32)), .val (.int (1 : Int32))] [(.int p2)]))
    refine own_up (fun _ k => XS.aload X58.here hx rfl (hb hby at_229) rfl rfl k) ?_
    show own_Go p.tables e below _ (T58.setTop (mkF m 231 #[.val (.int p0), .val (.int p1), .val (.int p2), .val (.int p3), .val (.int p4), .val (.int p5), .val (.ref b1), .val (.ref b8), .val (.ref b16), .val (.ref b25), sk, .val (.int (1 : Int32)), .val (.int (1 : Int32))] [(.ref b16), (.int p2)]))
    refine own_up (fun _ k => XS.iload X58.here hx rfl (hb hby at_231) rfl k) ?_
    show own_Go p.tables e below _ (T58.setTop (mkF m 233 #[.val (.int p0), .val (.int p1), .val (.int p2), .val (.int p3), .val (.int p4), .val (.int p5), .val (.ref b1), .val (.ref b8), .val (.ref b16), .val (.ref b25), sk, .val (.int (1 : Int32)), .val (.int (1 : Int32))] [(.int (1 : Int32)), (.ref b16), (.int p2)]))
    refine own_up (fun _ k => XS.iconst X58.here hx rfl (hb hby at_233) k) ?_
    show own_Go p.tables e below _ (T58.setTop (mkF m 234 #[.val (.int p0), .val (.int p1), .val (.int p2), .val (.int p3), .val (.int p4), .val (.int p5), .val (.ref b1), .val (.ref b8), .val (.ref b16), .val (.ref b25), sk, .val (.int (1 : Int32)), .val (.int (1 : Int32))] [(.int (1 : Int32)), (.int (1 : Int32)), (.ref b16), (.int p2)]))
    refine own_up (fun _ k => XS.isub X58.here hx rfl (hb hby at_234) rfl k) ?_
    show own_Go p.tables e below _ (T58.setTop (mkF m 235 #[.val (.int p0), .val (.int p1), .val (.int p2), .val (.int p3), .val (.int p4), .val (.int p5), .val (.ref b1), .val (.ref b8), .val (.ref b16), .val (.ref b25), sk, .val (.int (1 : Int32)), .val (.int (1 : Int32))] [(.int (0 : Int32)), (.ref b16), (.int p2)]))
    obtain ⟨cl59_, Ar59, q59, S59, M59, Hs59, G59⟩ := id (q2)
    have hin60 : ¬ ((0 : Int32) < 0 ∨ cl59_.slots.size ≤ ((0 : Int32)).toNatClampNeg) := inb_of S59 ⟨by decide, by decide⟩
    have hat60 : cl59_.slots[((0 : Int32)).toNatClampNeg]? = some (.int p2) := Has.at Hs59 hin60 rfl
    refine own_up (fun _ k => X58.iaload hx (j := (0 : Int32)) (v := (.int p2)) (by rw [eq58]; exact Ar59.1) (State.isArrayOf_alike hZ.alike Ar59.2.1) Ar59.2.2 hin60 hat60 (g := (mkF m 235 #[.val (.int p0), .val (.int p1), .val (.int p2), .val (.int p3), .val (.int p4), .val (.int p5), .val (.ref b1), .val (.ref b8), .val (.ref b16), .val (.ref b25), sk, .val (.int (1 : Int32)), .val (.int (1 : Int32))] [(.int (0 : Int32)), (.ref b16), (.int p2)])) rfl rfl (hb hby at_235) _ k) ?_
    show own_Go p.tables e below _ (T58.setTop (mkF m 236 #[.val (.int p0), .val (.int p1), .val (.int p2), .val (.int p3), .val (.int p4), .val (.int p5), .val (.ref b1), .val (.ref b8), .val (.ref b16), .val (.ref b25), sk, .val (.int (1 : Int32)), .val (.int (1 : Int32))] [(.int p2), (.int p2)]))
    refine own_up (fun _ k => XS.icmpNo X58.here hx rfl (hb hby at_236) rfl (teq rfl).2 k) ?_
    show own_Go p.tables e below _ (T58.setTop (mkF m 239 #[.val (.int p0), .val (.int p1), .val (.int p2), .val (.int p3), .val (.int p4), .val (.int p5), .val (.ref b1), .val (.ref b8), .val (.ref b16), .val (.ref b25), sk, .val (.int (1 : Int32)), .val (.int (1 : Int32))] []))
    refine own_up (fun _ k => XS.aload X58.here hx rfl (hb hby at_239) rfl rfl k) ?_
    show own_Go p.tables e below _ (T58.setTop (mkF m 241 #[.val (.int p0), .val (.int p1), .val (.int p2), .val (.int p3), .val (.int p4), .val (.int p5), .val (.ref b1), .val (.ref b8), .val (.ref b16), .val (.ref b25), sk, .val (.int (1 : Int32)), .val (.int (1 : Int32))] [(.ref b25)]))
    refine own_up (fun _ k => XS.iload X58.here hx rfl (hb hby at_241) rfl k) ?_
    show own_Go p.tables e below _ (T58.setTop (mkF m 243 #[.val (.int p0), .val (.int p1), .val (.int p2), .val (.int p3), .val (.int p4), .val (.int p5), .val (.ref b1), .val (.ref b8), .val (.ref b16), .val (.ref b25), sk, .val (.int (1 : Int32)), .val (.int (1 : Int32))] [(.int (1 : Int32)), (.ref b25)]))
    refine own_up (fun _ k => XS.iconst X58.here hx rfl (hb hby at_243) k) ?_
    show own_Go p.tables e below _ (T58.setTop (mkF m 244 #[.val (.int p0), .val (.int p1), .val (.int p2), .val (.int p3), .val (.int p4), .val (.int p5), .val (.ref b1), .val (.ref b8), .val (.ref b16), .val (.ref b25), sk, .val (.int (1 : Int32)), .val (.int (1 : Int32))] [(.int (1 : Int32)), (.int (1 : Int32)), (.ref b25)]))
    refine own_up (fun _ k => XS.isub X58.here hx rfl (hb hby at_244) rfl k) ?_
    show own_Go p.tables e below _ (T58.setTop (mkF m 245 #[.val (.int p0), .val (.int p1), .val (.int p2), .val (.int p3), .val (.int p4), .val (.int p5), .val (.ref b1), .val (.ref b8), .val (.ref b16), .val (.ref b25), sk, .val (.int (1 : Int32)), .val (.int (1 : Int32))] [(.int (0 : Int32)), (.ref b25)]))
    obtain ⟨cq61, kq61, q61a, q61b, q61c⟩ := isOf hZ eq58 s0
    obtain ⟨_, _, ⟨T61, L61, k61, n61⟩, -, X61, ⟨Lc61, hQ61, l61, y61, z61⟩, st61⟩ := X58.virtualBack hx (y := (⟨"com/example/hintikka/hintikka/domain/ConstraintNetwork", "getRight", "(I)I"⟩ : MethodName)) (z := (⟨"com/example/hintikka/hintikka/domain/ConstraintNetwork", "getRight", "(I)I"⟩ : MethodName)) hown (mvT hZ (hw _ (List.mem_of_getElem? (i := 147) rfl))) (mvT hZ (hw _ (List.mem_of_getElem? (i := 148) rfl))) (notFace_of_selects (args := #[]) (mvT hZ (hw _ (List.mem_of_getElem? (i := 150) rfl)))) (mvT hZ (hw _ (List.mem_of_getElem? (i := 150) rfl))) (mvT hZ (hw _ (List.mem_of_getElem? (i := 149) rfl))) (by decide) (backOf (W := 0) (rmGR l Z a0 hw [] b25 (0 : Int32) (1 : Int32) ri_29 ki_29 [(.int (1 : Int32)), (.int yc1), (.int yc2), (.int yc3)] (1 : Int32) ht52 n0 Zt52 s0 sq s4 z2 (by decide) (by decide) ⟨by decide, by decide⟩ rfl) hZ (hw _ (List.mem_of_getElem? (i := 151) rfl)) (hw _ (List.mem_of_getElem? (i := 3) rfl)) (by decide) (by decide)) q61a q61c (g := (mkF m 245 #[.val (.int p0), .val (.int p1), .val (.int p2), .val (.int p3), .val (.int p4), .val (.int p5), .val (.ref b1), .val (.ref b8), .val (.ref b16), .val (.ref b25), sk, .val (.int (1 : Int32)), .val (.int (1 : Int32))] [(.int (0 : Int32)), (.ref b25)])) rfl (by rw [hml]; rfl) (Steps.refl _) (argsL := [(.int (0 : Int32))]) (rest := []) (lenOf own_pd7 rfl) rfl (by show 2 * 0 + _ ≤ _; exact Nat.le_of_eq rfl) (hb hby at_245) (fun _ _ => ⟨rfl, eq58, (by decide : 10 + 0 ≤ _), (by decide : 84 + 0 ≤ _)⟩)
    dsimp only [Pt.U, Pt.locs, Pt.cells, Pt.slots] at X61 l61 y61 z61 st61 hQ61
    subst l61 y61 z61
    obtain ⟨rfl, N61q, eq61⟩ := hQ61
    have N61 := Fr.app N58 N61q
    refine own_up (fun _ k => st61.trans k) ?_
    show own_Go p.tables e below _ (T61.setTop (mkF m 248 #[.val (.int p0), .val (.int p1), .val (.int p2), .val (.int p3), .val (.int p4), .val (.int p5), .val (.ref b1), .val (.ref b8), .val (.ref b16), .val (.ref b25), sk, .val (.int (1 : Int32)), .val (.int (1 : Int32))] [(.int (1 : Int32))]))
    refine own_up (fun _ k => XS.aload X61.here hx rfl (hb hby at_248) rfl rfl k) ?_
    show own_Go p.tables e below _ (T61.setTop (mkF m 250 #[.val (.int p0), .val (.int p1), .val (.int p2), .val (.int p3), .val (.int p4), .val (.int p5), .val (.ref b1), .val (.ref b8), .val (.ref b16), .val (.ref b25), sk, .val (.int (1 : Int32)), .val (.int (1 : Int32))] [(.ref b8), (.int (1 : Int32))]))
    refine own_up (fun _ k => XS.iload X61.here hx rfl (hb hby at_250) rfl k) ?_
    show own_Go p.tables e below _ (T61.setTop (mkF m 252 #[.val (.int p0), .val (.int p1), .val (.int p2), .val (.int p3), .val (.int p4), .val (.int p5), .val (.ref b1), .val (.ref b8), .val (.ref b16), .val (.ref b25), sk, .val (.int (1 : Int32)), .val (.int (1 : Int32))] [(.int (1 : Int32)), (.ref b8), (.int (1 : Int32))]))
    refine own_up (fun _ k => XS.iconst X61.here hx rfl (hb hby at_252) k) ?_
    show own_Go p.tables e below _ (T61.setTop (mkF m 253 #[.val (.int p0), .val (.int p1), .val (.int p2), .val (.int p3), .val (.int p4), .val (.int p5), .val (.ref b1), .val (.ref b8), .val (.ref b16), .val (.ref b25), sk, .val (.int (1 : Int32)), .val (.int (1 : Int32))] [(.int (1 : Int32)), (.int (1 : Int32)), (.ref b8), (.int (1 : Int32))]))
    refine own_up (fun _ k => XS.isub X61.here hx rfl (hb hby at_253) rfl k) ?_
    show own_Go p.tables e below _ (T61.setTop (mkF m 254 #[.val (.int p0), .val (.int p1), .val (.int p2), .val (.int p3), .val (.int p4), .val (.int p5), .val (.ref b1), .val (.ref b8), .val (.ref b16), .val (.ref b25), sk, .val (.int (1 : Int32)), .val (.int (1 : Int32))] [(.int (0 : Int32)), (.ref b8), (.int (1 : Int32))]))
    obtain ⟨cl62_, Ar62, q62, S62, M62, Hs62, G62⟩ := id (q1)
    have hin63 : ¬ ((0 : Int32) < 0 ∨ cl62_.slots.size ≤ ((0 : Int32)).toNatClampNeg) := inb_of S62 ⟨by decide, by decide⟩
    have hat63 : cl62_.slots[((0 : Int32)).toNatClampNeg]? = some (.int (1 : Int32)) := Has.at Hs62 hin63 rfl
    refine own_up (fun _ k => X61.iaload hx (j := (0 : Int32)) (v := (.int (1 : Int32))) (by rw [eq61]; exact Ar62.1) (State.isArrayOf_alike hZ.alike Ar62.2.1) Ar62.2.2 hin63 hat63 (g := (mkF m 254 #[.val (.int p0), .val (.int p1), .val (.int p2), .val (.int p3), .val (.int p4), .val (.int p5), .val (.ref b1), .val (.ref b8), .val (.ref b16), .val (.ref b25), sk, .val (.int (1 : Int32)), .val (.int (1 : Int32))] [(.int (0 : Int32)), (.ref b8), (.int (1 : Int32))])) rfl rfl (hb hby at_254) _ k) ?_
    show own_Go p.tables e below _ (T61.setTop (mkF m 255 #[.val (.int p0), .val (.int p1), .val (.int p2), .val (.int p3), .val (.int p4), .val (.int p5), .val (.ref b1), .val (.ref b8), .val (.ref b16), .val (.ref b25), sk, .val (.int (1 : Int32)), .val (.int (1 : Int32))] [(.int (1 : Int32)), (.int (1 : Int32))]))
    refine own_up (fun _ k => XS.icmpNo X61.here hx rfl (hb hby at_255) rfl (teq rfl).2 k) ?_
    show own_Go p.tables e below _ (T61.setTop (mkF m 258 #[.val (.int p0), .val (.int p1), .val (.int p2), .val (.int p3), .val (.int p4), .val (.int p5), .val (.ref b1), .val (.ref b8), .val (.ref b16), .val (.ref b25), sk, .val (.int (1 : Int32)), .val (.int (1 : Int32))] []))
    refine own_up (fun _ k => XS.iconst X61.here hx rfl (hb hby at_258) k) ?_
    show own_Go p.tables e below _ (T61.setTop (mkF m 259 #[.val (.int p0), .val (.int p1), .val (.int p2), .val (.int p3), .val (.int p4), .val (.int p5), .val (.ref b1), .val (.ref b8), .val (.ref b16), .val (.ref b25), sk, .val (.int (1 : Int32)), .val (.int (1 : Int32))] [(.int (1 : Int32))]))
    refine own_up (fun _ k => XS.goto X61.here hx rfl (pc0 := 259) (pc' := 263) rfl (hb hby at_259) (by decide) (by decide) k) ?_
    show own_Go p.tables e below _ (T61.setTop (mkF m 263 #[.val (.int p0), .val (.int p1), .val (.int p2), .val (.int p3), .val (.int p4), .val (.int p5), .val (.ref b1), .val (.ref b8), .val (.ref b16), .val (.ref b25), sk, .val (.int (1 : Int32)), .val (.int (1 : Int32))] [(.int (1 : Int32))]))
    refine own_up (fun _ k => XS.istore X61.here hx rfl (hb hby at_263) rfl (l' := #[.val (.int p0), .val (.int p1), .val (.int p2), .val (.int p3), .val (.int p4), .val (.int p5), .val (.ref b1), .val (.ref b8), .val (.ref b16), .val (.ref b25), sk, .val (.int (1 : Int32)), .val (.int (1 : Int32))]) rfl k) ?_
    show own_Go p.tables e below _ (T61.setTop (mkF m 265 #[.val (.int p0), .val (.int p1), .val (.int p2), .val (.int p3), .val (.int p4), .val (.int p5), .val (.ref b1), .val (.ref b8), .val (.ref b16), .val (.ref b25), sk, .val (.int (1 : Int32)), .val (.int (1 : Int32))] []))
    refine own_up (fun _ k => XS.aload X61.here hx rfl (hb hby at_265) rfl rfl k) ?_
    show own_Go p.tables e below _ (T61.setTop (mkF m 267 #[.val (.int p0), .val (.int p1), .val (.int p2), .val (.int p3), .val (.int p4), .val (.int p5), .val (.ref b1), .val (.ref b8), .val (.ref b16), .val (.ref b25), sk, .val (.int (1 : Int32)), .val (.int (1 : Int32))] [(.ref b25)]))
    refine own_up (fun _ k => XS.iconst X61.here hx rfl (hb hby at_267) k) ?_
    show own_Go p.tables e below _ (T61.setTop (mkF m 268 #[.val (.int p0), .val (.int p1), .val (.int p2), .val (.int p3), .val (.int p4), .val (.int p5), .val (.ref b1), .val (.ref b8), .val (.ref b16), .val (.ref b25), sk, .val (.int (1 : Int32)), .val (.int (1 : Int32))] [(.int (0 : Int32)), (.ref b25)]))
    refine own_up (fun _ k => XS.iload X61.here hx rfl (hb hby at_268) rfl k) ?_
    show own_Go p.tables e below _ (T61.setTop (mkF m 270 #[.val (.int p0), .val (.int p1), .val (.int p2), .val (.int p3), .val (.int p4), .val (.int p5), .val (.ref b1), .val (.ref b8), .val (.ref b16), .val (.ref b25), sk, .val (.int (1 : Int32)), .val (.int (1 : Int32))] [(.int p5), (.int (0 : Int32)), (.ref b25)]))
    refine own_up (fun _ k => XS.iconst X61.here hx rfl (hb hby at_270) k) ?_
    show own_Go p.tables e below _ (T61.setTop (mkF m 271 #[.val (.int p0), .val (.int p1), .val (.int p2), .val (.int p3), .val (.int p4), .val (.int p5), .val (.ref b1), .val (.ref b8), .val (.ref b16), .val (.ref b25), sk, .val (.int (1 : Int32)), .val (.int (1 : Int32))] [(.int (0 : Int32)), (.int p5), (.int (0 : Int32)), (.ref b25)]))
    obtain ⟨cq64, kq64, q64a, q64b, q64c⟩ := isOf hZ eq61 s0
    obtain ⟨_, _, ⟨T64, L64, k64, n64⟩, -, X64, ⟨Lc64, hQ64, l64, y64, z64⟩, st64⟩ := X61.virtualBack hx (y := (⟨"com/example/hintikka/hintikka/domain/ConstraintNetwork", "add", "(III)V"⟩ : MethodName)) (z := (⟨"com/example/hintikka/hintikka/domain/ConstraintNetwork", "add", "(III)V"⟩ : MethodName)) hown (mvT hZ (hw _ (List.mem_of_getElem? (i := 124) rfl))) (mvT hZ (hw _ (List.mem_of_getElem? (i := 125) rfl))) (notFace_of_selects (args := #[]) (mvT hZ (hw _ (List.mem_of_getElem? (i := 127) rfl)))) (mvT hZ (hw _ (List.mem_of_getElem? (i := 127) rfl))) (mvT hZ (hw _ (List.mem_of_getElem? (i := 126) rfl))) (by decide) (backOf (W := 0) (rmAd1 l Z a0 hw [] b25 (0 : Int32) p5 (0 : Int32) al_29 la_29 re_29 ri_29 ka_29 ke_29 ki_29 (0 : Int32) ya1 ya2 ya3 p2 yb1 yb2 yb3 (1 : Int32) yc1 yc2 yc3 ht52 n0 Zt52 s0 s1 s2 s3 s4 s5 s6 sq z0 z1 z2 ge25 P29_5 P29_6 P29_7 P29_8 P29_9 P29_10 P29_11 P29_12 P29_13 P29_14 P29_15 P29_16 P29_17 (by decide) (by decide) (by decide) (by decide)) hZ (hw _ (List.mem_of_getElem? (i := 128) rfl)) (hw _ (List.mem_of_getElem? (i := 3) rfl)) (by decide) (by decide)) q64a q64c (g := (mkF m 271 #[.val (.int p0), .val (.int p1), .val (.int p2), .val (.int p3), .val (.int p4), .val (.int p5), .val (.ref b1), .val (.ref b8), .val (.ref b16), .val (.ref b25), sk, .val (.int (1 : Int32)), .val (.int (1 : Int32))] [(.int (0 : Int32)), (.int p5), (.int (0 : Int32)), (.ref b25)])) rfl (by rw [hml]; rfl) (Steps.refl _) (argsL := [(.int (0 : Int32)), (.int p5), (.int (0 : Int32))]) (rest := []) (lenOf own_pd8 rfl) rfl (by show 2 * 0 + _ ≤ _; exact Nat.le_of_eq rfl) (hb hby at_271) (fun _ _ => ⟨rfl, eq61, (by decide : 10 + 0 ≤ _), (by decide : 84 + 0 ≤ _)⟩)
    dsimp only [Pt.U, Pt.locs, Pt.cells, Pt.slots] at X64 l64 y64 z64 st64 hQ64
    subst l64 y64 z64
    obtain ⟨rfl, N64q, K64, P64_0, P64_1, P64_2, P64_3, P64_4, P64_5, P64_6, P64_7, P64_8⟩ := hQ64
    have N64 := Fr.app N61 N64q
    refine own_up (fun _ k => st64.trans k) ?_
    show own_Go p.tables e below _ (T64.setTop (mkF m 274 #[.val (.int p0), .val (.int p1), .val (.int p2), .val (.int p3), .val (.int p4), .val (.int p5), .val (.ref b1), .val (.ref b8), .val (.ref b16), .val (.ref b25), sk, .val (.int (1 : Int32)), .val (.int (1 : Int32))] []))
    refine own_up (fun _ k => XS.iload X64.here hx rfl (hb hby at_274) rfl k) ?_
    show own_Go p.tables e below _ (T64.setTop (mkF m 276 #[.val (.int p0), .val (.int p1), .val (.int p2), .val (.int p3), .val (.int p4), .val (.int p5), .val (.ref b1), .val (.ref b8), .val (.ref b16), .val (.ref b25), sk, .val (.int (1 : Int32)), .val (.int (1 : Int32))] [(.int (1 : Int32))]))
    refine own_up (fun _ k => XS.ifNo X64.here hx rfl (hb hby at_276) rfl ((if0 _ _).trans (feq (by decide)).1) k) ?_
    show own_Go p.tables e below _ (T64.setTop (mkF m 279 #[.val (.int p0), .val (.int p1), .val (.int p2), .val (.int p3), .val (.int p4), .val (.int p5), .val (.ref b1), .val (.ref b8), .val (.ref b16), .val (.ref b25), sk, .val (.int (1 : Int32)), .val (.int (1 : Int32))] []))
    refine own_up (fun _ k => XS.aload X64.here hx rfl (hb hby at_279) rfl rfl k) ?_
    show own_Go p.tables e below _ (T64.setTop (mkF m 281 #[.val (.int p0), .val (.int p1), .val (.int p2), .val (.int p3), .val (.int p4), .val (.int p5), .val (.ref b1), .val (.ref b8), .val (.ref b16), .val (.ref b25), sk, .val (.int (1 : Int32)), .val (.int (1 : Int32))] [(.ref b25)]))
    have f66 : n0 ≤ T64.heap.size := (Nat.le_trans Zt52 K64.1)
    obtain ⟨cq65, kq65, q65a, q65b, q65c⟩ := isOf hZ rfl P64_0
    obtain ⟨_, _, ⟨T65, L65, k65, n65⟩, -, X65, ⟨Lc65, hQ65, l65, y65, z65⟩, st65⟩ := X64.virtualBack hx (y := (⟨"com/example/hintikka/hintikka/domain/ConstraintNetwork", "size", "()I"⟩ : MethodName)) (z := (⟨"com/example/hintikka/hintikka/domain/ConstraintNetwork", "size", "()I"⟩ : MethodName)) hown (mvT hZ (hw _ (List.mem_of_getElem? (i := 114) rfl))) (mvT hZ (hw _ (List.mem_of_getElem? (i := 115) rfl))) (notFace_of_selects (args := #[]) (mvT hZ (hw _ (List.mem_of_getElem? (i := 117) rfl)))) (mvT hZ (hw _ (List.mem_of_getElem? (i := 117) rfl))) (mvT hZ (hw _ (List.mem_of_getElem? (i := 116) rfl))) (by decide) (backOf (W := 0) (rmQ l Z a0 hw [] b25 (2 : Int32) T64.heap n0 f66 P64_5) hZ (hw _ (List.mem_of_getElem? (i := 118) rfl)) (hw _ (List.mem_of_getElem? (i := 3) rfl)) (by decide) (by decide)) q65a q65c (g := (mkF m 281 #[.val (.int p0), .val (.int p1), .val (.int p2), .val (.int p3), .val (.int p4), .val (.int p5), .val (.ref b1), .val (.ref b8), .val (.ref b16), .val (.ref b25), sk, .val (.int (1 : Int32)), .val (.int (1 : Int32))] [(.ref b25)])) rfl (by rw [hml]; rfl) (Steps.refl _) (argsL := []) (rest := []) (lenOf own_pd6 rfl) rfl (by show 2 * 0 + _ ≤ _; exact Nat.le_of_eq rfl) (hb hby at_281) (fun _ _ => ⟨rfl, rfl, (by decide : 10 + 0 ≤ _), (by decide : 84 + 0 ≤ _)⟩)
    dsimp only [Pt.U, Pt.locs, Pt.cells, Pt.slots] at X65 l65 y65 z65 st65 hQ65
    subst l65 y65 z65
    obtain ⟨rfl, N65q, eq65⟩ := hQ65
    have N65 := Fr.app N64 N65q
    refine own_up (fun _ k => st65.trans k) ?_
    show own_Go p.tables e below _ (T65.setTop (mkF m 284 #[.val (.int p0), .val (.int p1), .val (.int p2), .val (.int p3), .val (.int p4), .val (.int p5), .val (.ref b1), .val (.ref b8), .val (.ref b16), .val (.ref b25), sk, .val (.int (1 : Int32)), .val (.int (1 : Int32))] [(.int (2 : Int32))]))
    refine own_up (fun _ k => XS.iload X65.here hx rfl (hb hby at_284) rfl k) ?_
    show own_Go p.tables e below _ (T65.setTop (mkF m 286 #[.val (.int p0), .val (.int p1), .val (.int p2), .val (.int p3), .val (.int p4), .val (.int p5), .val (.ref b1), .val (.ref b8), .val (.ref b16), .val (.ref b25), sk, .val (.int (1 : Int32)), .val (.int (1 : Int32))] [(.int (1 : Int32)), (.int (2 : Int32))]))
    refine own_up (fun _ k => XS.iconst X65.here hx rfl (hb hby at_286) k) ?_
    show own_Go p.tables e below _ (T65.setTop (mkF m 287 #[.val (.int p0), .val (.int p1), .val (.int p2), .val (.int p3), .val (.int p4), .val (.int p5), .val (.ref b1), .val (.ref b8), .val (.ref b16), .val (.ref b25), sk, .val (.int (1 : Int32)), .val (.int (1 : Int32))] [(.int (1 : Int32)), (.int (1 : Int32)), (.int (2 : Int32))]))
    refine own_up (fun _ k => XS.iadd X65.here hx rfl (hb hby at_287) rfl k) ?_
    show own_Go p.tables e below _ (T65.setTop (mkF m 288 #[.val (.int p0), .val (.int p1), .val (.int p2), .val (.int p3), .val (.int p4), .val (.int p5), .val (.ref b1), .val (.ref b8), .val (.ref b16), .val (.ref b25), sk, .val (.int (1 : Int32)), .val (.int (1 : Int32))] [(.int (2 : Int32)), (.int (2 : Int32))]))
    refine own_up (fun _ k => XS.icmpNo X65.here hx rfl (hb hby at_288) rfl (teq rfl).2 k) ?_
    show own_Go p.tables e below _ (T65.setTop (mkF m 291 #[.val (.int p0), .val (.int p1), .val (.int p2), .val (.int p3), .val (.int p4), .val (.int p5), .val (.ref b1), .val (.ref b8), .val (.ref b16), .val (.ref b25), sk, .val (.int (1 : Int32)), .val (.int (1 : Int32))] []))
    refine own_up (fun _ k => XS.aload X65.here hx rfl (hb hby at_291) rfl rfl k) ?_
    show own_Go p.tables e below _ (T65.setTop (mkF m 293 #[.val (.int p0), .val (.int p1), .val (.int p2), .val (.int p3), .val (.int p4), .val (.int p5), .val (.ref b1), .val (.ref b8), .val (.ref b16), .val (.ref b25), sk, .val (.int (1 : Int32)), .val (.int (1 : Int32))] [(.ref b25)]))
    refine own_up (fun _ k => XS.iload X65.here hx rfl (hb hby at_293) rfl k) ?_
    show own_Go p.tables e below _ (T65.setTop (mkF m 295 #[.val (.int p0), .val (.int p1), .val (.int p2), .val (.int p3), .val (.int p4), .val (.int p5), .val (.ref b1), .val (.ref b8), .val (.ref b16), .val (.ref b25), sk, .val (.int (1 : Int32)), .val (.int (1 : Int32))] [(.int (1 : Int32)), (.ref b25)]))
    obtain ⟨cq67, kq67, q67a, q67b, q67c⟩ := isOf hZ eq65 P64_0
    obtain ⟨_, _, ⟨T67, L67, k67, n67⟩, -, X67, ⟨Lc67, hQ67, l67, y67, z67⟩, st67⟩ := X65.virtualBack hx (y := (⟨"com/example/hintikka/hintikka/domain/ConstraintNetwork", "getRelations", "(I)I"⟩ : MethodName)) (z := (⟨"com/example/hintikka/hintikka/domain/ConstraintNetwork", "getRelations", "(I)I"⟩ : MethodName)) hown (mvT hZ (hw _ (List.mem_of_getElem? (i := 133) rfl))) (mvT hZ (hw _ (List.mem_of_getElem? (i := 134) rfl))) (notFace_of_selects (args := #[]) (mvT hZ (hw _ (List.mem_of_getElem? (i := 136) rfl)))) (mvT hZ (hw _ (List.mem_of_getElem? (i := 136) rfl))) (mvT hZ (hw _ (List.mem_of_getElem? (i := 135) rfl))) (by decide) (backOf (W := 0) (rmGE l Z a0 hw [] b25 (1 : Int32) (2 : Int32) re_29 ke_29 [(.int p2), (.int p5), (.int yb2), (.int yb3)] p5 T64.heap n0 f66 P64_0 P64_5 P64_3 P64_7 (by decide) (by decide) ⟨by decide, by decide⟩ rfl) hZ (hw _ (List.mem_of_getElem? (i := 137) rfl)) (hw _ (List.mem_of_getElem? (i := 3) rfl)) (by decide) (by decide)) q67a q67c (g := (mkF m 295 #[.val (.int p0), .val (.int p1), .val (.int p2), .val (.int p3), .val (.int p4), .val (.int p5), .val (.ref b1), .val (.ref b8), .val (.ref b16), .val (.ref b25), sk, .val (.int (1 : Int32)), .val (.int (1 : Int32))] [(.int (1 : Int32)), (.ref b25)])) rfl (by rw [hml]; rfl) (Steps.refl _) (argsL := [(.int (1 : Int32))]) (rest := []) (lenOf own_pd7 rfl) rfl (by show 2 * 0 + _ ≤ _; exact Nat.le_of_eq rfl) (hb hby at_295) (fun _ _ => ⟨rfl, eq65, (by decide : 10 + 0 ≤ _), (by decide : 84 + 0 ≤ _)⟩)
    dsimp only [Pt.U, Pt.locs, Pt.cells, Pt.slots] at X67 l67 y67 z67 st67 hQ67
    subst l67 y67 z67
    obtain ⟨rfl, N67q, eq67⟩ := hQ67
    have N67 := Fr.app N65 N67q
    refine own_up (fun _ k => st67.trans k) ?_
    show own_Go p.tables e below _ (T67.setTop (mkF m 298 #[.val (.int p0), .val (.int p1), .val (.int p2), .val (.int p3), .val (.int p4), .val (.int p5), .val (.ref b1), .val (.ref b8), .val (.ref b16), .val (.ref b25), sk, .val (.int (1 : Int32)), .val (.int (1 : Int32))] [(.int p5)]))
    refine own_up (fun _ k => XS.iload X67.here hx rfl (hb hby at_298) rfl k) ?_
    show own_Go p.tables e below _ (T67.setTop (mkF m 300 #[.val (.int p0), .val (.int p1), .val (.int p2), .val (.int p3), .val (.int p4), .val (.int p5), .val (.ref b1), .val (.ref b8), .val (.ref b16), .val (.ref b25), sk, .val (.int (1 : Int32)), .val (.int (1 : Int32))] [(.int p5), (.int p5)]))
    refine own_up (fun _ k => XS.icmpNo X67.here hx rfl (hb hby at_300) rfl (teq rfl).2 k) ?_
    show own_Go p.tables e below _ (T67.setTop (mkF m 303 #[.val (.int p0), .val (.int p1), .val (.int p2), .val (.int p3), .val (.int p4), .val (.int p5), .val (.ref b1), .val (.ref b8), .val (.ref b16), .val (.ref b25), sk, .val (.int (1 : Int32)), .val (.int (1 : Int32))] []))
    refine own_up (fun _ k => XS.iconst X67.here hx rfl (hb hby at_303) k) ?_
    show own_Go p.tables e below _ (T67.setTop (mkF m 304 #[.val (.int p0), .val (.int p1), .val (.int p2), .val (.int p3), .val (.int p4), .val (.int p5), .val (.ref b1), .val (.ref b8), .val (.ref b16), .val (.ref b25), sk, .val (.int (1 : Int32)), .val (.int (1 : Int32))] [(.int (1 : Int32))]))
    refine own_up (fun _ k => XS.goto X67.here hx rfl (pc0 := 304) (pc' := 308) rfl (hb hby at_304) (by decide) (by decide) k) ?_
    show own_Go p.tables e below _ (T67.setTop (mkF m 308 #[.val (.int p0), .val (.int p1), .val (.int p2), .val (.int p3), .val (.int p4), .val (.int p5), .val (.ref b1), .val (.ref b8), .val (.ref b16), .val (.ref b25), sk, .val (.int (1 : Int32)), .val (.int (1 : Int32))] [(.int (1 : Int32))]))
    refine own_up (fun _ k => XS.istore X67.here hx rfl (hb hby at_308) rfl (l' := #[.val (.int p0), .val (.int p1), .val (.int p2), .val (.int p3), .val (.int p4), .val (.int p5), .val (.ref b1), .val (.ref b8), .val (.ref b16), .val (.ref b25), sk, .val (.int (1 : Int32)), .val (.int (1 : Int32))]) rfl k) ?_
    show own_Go p.tables e below _ (T67.setTop (mkF m 310 #[.val (.int p0), .val (.int p1), .val (.int p2), .val (.int p3), .val (.int p4), .val (.int p5), .val (.ref b1), .val (.ref b8), .val (.ref b16), .val (.ref b25), sk, .val (.int (1 : Int32)), .val (.int (1 : Int32))] []))
    refine own_up (fun _ k => XS.iload X67.here hx rfl (hb hby at_310) rfl k) ?_
    show own_Go p.tables e below _ (T67.setTop (mkF m 312 #[.val (.int p0), .val (.int p1), .val (.int p2), .val (.int p3), .val (.int p4), .val (.int p5), .val (.ref b1), .val (.ref b8), .val (.ref b16), .val (.ref b25), sk, .val (.int (1 : Int32)), .val (.int (1 : Int32))] [(.int (1 : Int32))]))
    exact own_end X67 hlk (v := some (.int (1 : Int32))) (fun h => by rw [Bd.returns] at h; cases h) (fun fs hr => retN X67 hx (z := (1 : Int32)) (t := .boolean) Bd.returns (by simp) (hb hby at_312) hr) eq67 ⟨rfl, N67⟩ (by decide) (by decide)
  have end2 : ∀ (Tt68 : State) (Lt68 : List Loc) (Xt68 : Stand p l e room_1 s m #[(.int p0), (.int p1), (.int p2), (.int p3), (.int p4), (.int p5)] below meth c Tt68 Lt68 10 84) (ht68 : Heap) (et68 : Tt68.heap = ht68) (Nt68 : Fr n0 Lt68) (sk : Slot) (ya2 : Int32) (ya3 : Int32) (yb2 : Int32) (yb3 : Int32) (yc2 : Int32) (yc3 : Int32) (s0 : Exa Z ht68 b25 "com/example/hintikka/hintikka/domain/ConstraintNetwork") (s1 : Fld Z ht68 b25 "com/example/hintikka/hintikka/domain/ConstraintNetwork" "constants" "Ljava/util/List;" (.ref al_29)) (s2 : Fld Z ht68 b25 "com/example/hintikka/hintikka/domain/ConstraintNetwork" "lefts" "[I" (.ref la_29)) (s3 : Fld Z ht68 b25 "com/example/hintikka/hintikka/domain/ConstraintNetwork" "relations" "[I" (.ref re_29)) (s4 : Fld Z ht68 b25 "com/example/hintikka/hintikka/domain/ConstraintNetwork" "rights" "[I" (.ref ri_29)) (s5 : Exa Z ht68 al_29 "java/util/ArrayList") (s6 : Fld Z ht68 al_29 "java/util/ArrayList" "size" "I" (.int (2 : Int32))) (q0 : Arv Z ht68 b1 k1 .int (3 : Int32) [(.int (0 : Int32)), (.int (1 : Int32)), (.int (1 : Int32))] (.int (0 : Int32))) (q1 : Arv Z ht68 b8 k8 .int (3 : Int32) [(.int (1 : Int32)), (.int (0 : Int32)), (.int (1 : Int32))] (.int (0 : Int32))) (q2 : Arv Z ht68 b16 k16 .int (3 : Int32) [(.int p2), (.int p3), (.int p4)] (.int (0 : Int32))) (sq : Fld Z ht68 b25 "com/example/hintikka/hintikka/domain/ConstraintNetwork" "size" "I" (.int (2 : Int32))) (z0 : Arv Z ht68 la_29 ka_29 .int (16 : Int32) [(.int (0 : Int32)), (.int (1 : Int32)), (.int ya2), (.int ya3)] (.int (0 : Int32))) (z1 : Arv Z ht68 re_29 ke_29 .int (16 : Int32) [(.int p2), (.int p3), (.int yb2), (.int yb3)] (.int (0 : Int32))) (z2 : Arv Z ht68 ri_29 ki_29 .int (16 : Int32) [(.int (1 : Int32)), (.int (0 : Int32)), (.int yc2), (.int yc3)] (.int (0 : Int32))) (Zt68 : n0 ≤ ht68.size) (Ot68 : Old Z n0 ht68), own_Go p.tables e below (fun u o => ∃ v L, o = .returned v ∧ Q_rm0 Z p0 p1 p2 p3 p4 p5 de kd h0 n0 v u.heap L ∧ FrameEnd s o u L room_1.cells room_1.slots) (Tt68.setTop (mkF m 164 #[.val (.int p0), .val (.int p1), .val (.int p2), .val (.int p3), .val (.int p4), .val (.int p5), .val (.ref b1), .val (.ref b8), .val (.ref b16), .val (.ref b25), sk, .val (.int (2 : Int32)), .unset] [])) := by
    intro Tt68 Lt68 Xt68 ht68 et68 Nt68 sk ya2 ya3 yb2 yb3 yc2 yc3 s0 s1 s2 s3 s4 s5 s6 q0 q1 q2 sq z0 z1 z2 Zt68 Ot68
    refine own_up (fun _ k => XS.aload Xt68.here hx rfl (hb hby at_164) rfl rfl k) ?_
    show own_Go p.tables e below _ (Tt68.setTop (mkF m 166 #[.val (.int p0), .val (.int p1), .val (.int p2), .val (.int p3), .val (.int p4), .val (.int p5), .val (.ref b1), .val (.ref b8), .val (.ref b16), .val (.ref b25), sk, .val (.int (2 : Int32)), .unset] [(.ref b25)]))
    obtain ⟨cq69, kq69, q69a, q69b, q69c⟩ := isOf hZ et68 s0
    obtain ⟨_, _, ⟨T69, L69, k69, n69⟩, -, X69, ⟨Lc69, hQ69, l69, y69, z69⟩, st69⟩ := Xt68.virtualBack hx (y := (⟨"com/example/hintikka/hintikka/domain/ConstraintNetwork", "size", "()I"⟩ : MethodName)) (z := (⟨"com/example/hintikka/hintikka/domain/ConstraintNetwork", "size", "()I"⟩ : MethodName)) hown (mvT hZ (hw _ (List.mem_of_getElem? (i := 114) rfl))) (mvT hZ (hw _ (List.mem_of_getElem? (i := 115) rfl))) (notFace_of_selects (args := #[]) (mvT hZ (hw _ (List.mem_of_getElem? (i := 117) rfl)))) (mvT hZ (hw _ (List.mem_of_getElem? (i := 117) rfl))) (mvT hZ (hw _ (List.mem_of_getElem? (i := 116) rfl))) (by decide) (backOf (W := 0) (rmQ l Z a0 hw [] b25 (2 : Int32) ht68 n0 Zt68 sq) hZ (hw _ (List.mem_of_getElem? (i := 118) rfl)) (hw _ (List.mem_of_getElem? (i := 3) rfl)) (by decide) (by decide)) q69a q69c (g := (mkF m 166 #[.val (.int p0), .val (.int p1), .val (.int p2), .val (.int p3), .val (.int p4), .val (.int p5), .val (.ref b1), .val (.ref b8), .val (.ref b16), .val (.ref b25), sk, .val (.int (2 : Int32)), .unset] [(.ref b25)])) rfl (by rw [hml]; rfl) (Steps.refl _) (argsL := []) (rest := []) (lenOf own_pd6 rfl) rfl (by show 2 * 0 + _ ≤ _; exact Nat.le_of_eq rfl) (hb hby at_166) (fun _ _ => ⟨rfl, et68, (by decide : 10 + 0 ≤ _), (by decide : 84 + 0 ≤ _)⟩)
    dsimp only [Pt.U, Pt.locs, Pt.cells, Pt.slots] at X69 l69 y69 z69 st69 hQ69
    subst l69 y69 z69
    obtain ⟨rfl, N69q, eq69⟩ := hQ69
    have N69 := Fr.app Nt68 N69q
    refine own_up (fun _ k => st69.trans k) ?_
    show own_Go p.tables e below _ (T69.setTop (mkF m 169 #[.val (.int p0), .val (.int p1), .val (.int p2), .val (.int p3), .val (.int p4), .val (.int p5), .val (.ref b1), .val (.ref b8), .val (.ref b16), .val (.ref b25), sk, .val (.int (2 : Int32)), .unset] [(.int (2 : Int32))]))
    refine own_up (fun _ k => XS.iload X69.here hx rfl (hb hby at_169) rfl k) ?_
    show own_Go p.tables e below _ (T69.setTop (mkF m 171 #[.val (.int p0), .val (.int p1), .val (.int p2), .val (.int p3), .val (.int p4), .val (.int p5), .val (.ref b1), .val (.ref b8), .val (.ref b16), .val (.ref b25), sk, .val (.int (2 : Int32)), .unset] [(.int (2 : Int32)), (.int (2 : Int32))]))
    refine own_up (fun _ k => XS.icmpNo X69.here hx rfl (hb hby at_171) rfl (teq rfl).2 k) ?_
    show own_Go p.tables e below _ (T69.setTop (mkF m 174 #[.val (.int p0), .val (.int p1), .val (.int p2), .val (.int p3), .val (.int p4), .val (.int p5), .val (.ref b1), .val (.ref b8), .val (.ref b16), .val (.ref b25), sk, .val (.int (2 : Int32)), .unset] []))
    refine own_up (fun _ k => XS.aload X69.here hx rfl (hb hby at_174) rfl rfl k) ?_
    show own_Go p.tables e below _ (T69.setTop (mkF m 176 #[.val (.int p0), .val (.int p1), .val (.int p2), .val (.int p3), .val (.int p4), .val (.int p5), .val (.ref b1), .val (.ref b8), .val (.ref b16), .val (.ref b25), sk, .val (.int (2 : Int32)), .unset] [(.ref b25)]))
    obtain ⟨cq70, kq70, q70a, q70b, q70c⟩ := isOf hZ eq69 s0
    obtain ⟨_, _, ⟨T70, L70, k70, n70⟩, -, X70, ⟨Lc70, hQ70, l70, y70, z70⟩, st70⟩ := X69.virtualBack hx (y := (⟨"com/example/hintikka/hintikka/domain/ConstraintNetwork", "getVariableCount", "()I"⟩ : MethodName)) (z := (⟨"com/example/hintikka/hintikka/domain/ConstraintNetwork", "getVariableCount", "()I"⟩ : MethodName)) hown (mvT hZ (hw _ (List.mem_of_getElem? (i := 119) rfl))) (mvT hZ (hw _ (List.mem_of_getElem? (i := 120) rfl))) (notFace_of_selects (args := #[]) (mvT hZ (hw _ (List.mem_of_getElem? (i := 122) rfl)))) (mvT hZ (hw _ (List.mem_of_getElem? (i := 122) rfl))) (mvT hZ (hw _ (List.mem_of_getElem? (i := 121) rfl))) (by decide) (backOf (W := 0) (rmVC l Z a0 hw [] b25 al_29 ht68 n0 Zt68 s1 s5 s6) hZ (hw _ (List.mem_of_getElem? (i := 123) rfl)) (hw _ (List.mem_of_getElem? (i := 3) rfl)) (by decide) (by decide)) q70a q70c (g := (mkF m 176 #[.val (.int p0), .val (.int p1), .val (.int p2), .val (.int p3), .val (.int p4), .val (.int p5), .val (.ref b1), .val (.ref b8), .val (.ref b16), .val (.ref b25), sk, .val (.int (2 : Int32)), .unset] [(.ref b25)])) rfl (by rw [hml]; rfl) (Steps.refl _) (argsL := []) (rest := []) (lenOf own_pd6 rfl) rfl (by show 2 * 0 + _ ≤ _; exact Nat.le_of_eq rfl) (hb hby at_176) (fun _ _ => ⟨rfl, eq69, (by decide : 10 + 0 ≤ _), (by decide : 84 + 0 ≤ _)⟩)
    dsimp only [Pt.U, Pt.locs, Pt.cells, Pt.slots] at X70 l70 y70 z70 st70 hQ70
    subst l70 y70 z70
    obtain ⟨rfl, N70q, eq70⟩ := hQ70
    have N70 := Fr.app N69 N70q
    refine own_up (fun _ k => st70.trans k) ?_
    show own_Go p.tables e below _ (T70.setTop (mkF m 179 #[.val (.int p0), .val (.int p1), .val (.int p2), .val (.int p3), .val (.int p4), .val (.int p5), .val (.ref b1), .val (.ref b8), .val (.ref b16), .val (.ref b25), sk, .val (.int (2 : Int32)), .unset] [(.int (2 : Int32))]))
    refine own_up (fun _ k => XS.iconst X70.here hx rfl (hb hby at_179) k) ?_
    show own_Go p.tables e below _ (T70.setTop (mkF m 180 #[.val (.int p0), .val (.int p1), .val (.int p2), .val (.int p3), .val (.int p4), .val (.int p5), .val (.ref b1), .val (.ref b8), .val (.ref b16), .val (.ref b25), sk, .val (.int (2 : Int32)), .unset] [(.int (2 : Int32)), (.int (2 : Int32))]))
    refine own_up (fun _ k => XS.icmpNo X70.here hx rfl (hb hby at_180) rfl (teq rfl).2 k) ?_
    show own_Go p.tables e below _ (T70.setTop (mkF m 183 #[.val (.int p0), .val (.int p1), .val (.int p2), .val (.int p3), .val (.int p4), .val (.int p5), .val (.ref b1), .val (.ref b8), .val (.ref b16), .val (.ref b25), sk, .val (.int (2 : Int32)), .unset] []))
    refine own_up (fun _ k => XS.iconst X70.here hx rfl (hb hby at_183) k) ?_
    show own_Go p.tables e below _ (T70.setTop (mkF m 184 #[.val (.int p0), .val (.int p1), .val (.int p2), .val (.int p3), .val (.int p4), .val (.int p5), .val (.ref b1), .val (.ref b8), .val (.ref b16), .val (.ref b25), sk, .val (.int (2 : Int32)), .unset] [(.int (1 : Int32))]))
    refine own_up (fun _ k => XS.goto X70.here hx rfl (pc0 := 184) (pc' := 188) rfl (hb hby at_184) (by decide) (by decide) k) ?_
    show own_Go p.tables e below _ (T70.setTop (mkF m 188 #[.val (.int p0), .val (.int p1), .val (.int p2), .val (.int p3), .val (.int p4), .val (.int p5), .val (.ref b1), .val (.ref b8), .val (.ref b16), .val (.ref b25), sk, .val (.int (2 : Int32)), .unset] [(.int (1 : Int32))]))
    refine own_up (fun _ k => XS.istore X70.here hx rfl (hb hby at_188) rfl (l' := #[.val (.int p0), .val (.int p1), .val (.int p2), .val (.int p3), .val (.int p4), .val (.int p5), .val (.ref b1), .val (.ref b8), .val (.ref b16), .val (.ref b25), sk, .val (.int (2 : Int32)), .val (.int (1 : Int32))]) rfl k) ?_
    show own_Go p.tables e below _ (T70.setTop (mkF m 190 #[.val (.int p0), .val (.int p1), .val (.int p2), .val (.int p3), .val (.int p4), .val (.int p5), .val (.ref b1), .val (.ref b8), .val (.ref b16), .val (.ref b25), sk, .val (.int (2 : Int32)), .val (.int (1 : Int32))] []))
    refine own_up (fun _ k => XS.iload X70.here hx rfl (hb hby at_190) rfl k) ?_
    show own_Go p.tables e below _ (T70.setTop (mkF m 192 #[.val (.int p0), .val (.int p1), .val (.int p2), .val (.int p3), .val (.int p4), .val (.int p5), .val (.ref b1), .val (.ref b8), .val (.ref b16), .val (.ref b25), sk, .val (.int (2 : Int32)), .val (.int (1 : Int32))] [(.int (2 : Int32))]))
    refine own_up (fun _ k => XS.iconst X70.here hx rfl (hb hby at_192) k) ?_
    show own_Go p.tables e below _ (T70.setTop (mkF m 193 #[.val (.int p0), .val (.int p1), .val (.int p2), .val (.int p3), .val (.int p4), .val (.int p5), .val (.ref b1), .val (.ref b8), .val (.ref b16), .val (.ref b25), sk, .val (.int (2 : Int32)), .val (.int (1 : Int32))] [(.int (1 : Int32)), (.int (2 : Int32))]))
    refine own_up (fun _ k => XS.icmpNo X70.here hx rfl (hb hby at_193) rfl (flt (by decide)).1 k) ?_
    show own_Go p.tables e below _ (T70.setTop (mkF m 196 #[.val (.int p0), .val (.int p1), .val (.int p2), .val (.int p3), .val (.int p4), .val (.int p5), .val (.ref b1), .val (.ref b8), .val (.ref b16), .val (.ref b25), sk, .val (.int (2 : Int32)), .val (.int (1 : Int32))] []))
    refine own_up (fun _ k => XS.iload X70.here hx rfl (hb hby at_196) rfl k) ?_
    show own_Go p.tables e below _ (T70.setTop (mkF m 198 #[.val (.int p0), .val (.int p1), .val (.int p2), .val (.int p3), .val (.int p4), .val (.int p5), .val (.ref b1), .val (.ref b8), .val (.ref b16), .val (.ref b25), sk, .val (.int (2 : Int32)), .val (.int (1 : Int32))] [(.int (1 : Int32))]))
    refine own_up (fun _ k => XS.ifNo X70.here hx rfl (hb hby at_198) rfl ((if0 _ _).trans (feq (by decide)).1) k) ?_
    show own_Go p.tables e below _ (T70.setTop (mkF m 201 #[.val (.int p0), .val (.int p1), .val (.int p2), .val (.int p3), .val (.int p4), .val (.int p5), .val (.ref b1), .val (.ref b8), .val (.ref b16), .val (.ref b25), sk, .val (.int (2 : Int32)), .val (.int (1 : Int32))] []))
    refine own_up (fun _ k => XS.aload X70.here hx rfl (hb hby at_201) rfl rfl k) ?_
    show own_Go p.tables e below _ (T70.setTop (mkF m 203 #[.val (.int p0), .val (.int p1), .val (.int p2), .val (.int p3), .val (.int p4), .val (.int p5), .val (.ref b1), .val (.ref b8), .val (.ref b16), .val (.ref b25), sk, .val (.int (2 : Int32)), .val (.int (1 : Int32))] [(.ref b25)]))
    refine own_up (fun _ k => XS.iload X70.here hx rfl (hb hby at_203) rfl k) ?_
    show own_Go p.tables e below _ (T70.setTop (mkF m 205 #[.val (.int p0), .val (.int p1), .val (.int p2), .val (.int p3), .val (.int p4), .val (.int p5), .val (.ref b1), .val (.ref b8), .val (.ref b16), .val (.ref b25), sk, .val (.int (2 : Int32)), .val (.int (1 : Int32))] [(.int (2 : Int32)), (.ref b25)]))
    refine own_up (fun _ k => XS.iconst X70.here hx rfl (hb hby at_205) k) ?_
    show own_Go p.tables e below _ (T70.setTop (mkF m 206 #[.val (.int p0), .val (.int p1), .val (.int p2), .val (.int p3), .val (.int p4), .val (.int p5), .val (.ref b1), .val (.ref b8), .val (.ref b16), .val (.ref b25), sk, .val (.int (2 : Int32)), .val (.int (1 : Int32))] [(.int (1 : Int32)), (.int (2 : Int32)), (.ref b25)]))
    refine own_up (fun _ k => XS.isub X70.here hx rfl (hb hby at_206) rfl k) ?_
    show own_Go p.tables e below _ (T70.setTop (mkF m 207 #[.val (.int p0), .val (.int p1), .val (.int p2), .val (.int p3), .val (.int p4), .val (.int p5), .val (.ref b1), .val (.ref b8), .val (.ref b16), .val (.ref b25), sk, .val (.int (2 : Int32)), .val (.int (1 : Int32))] [(.int (1 : Int32)), (.ref b25)]))
    obtain ⟨cq71, kq71, q71a, q71b, q71c⟩ := isOf hZ eq70 s0
    obtain ⟨_, _, ⟨T71, L71, k71, n71⟩, -, X71, ⟨Lc71, hQ71, l71, y71, z71⟩, st71⟩ := X70.virtualBack hx (y := (⟨"com/example/hintikka/hintikka/domain/ConstraintNetwork", "getLeft", "(I)I"⟩ : MethodName)) (z := (⟨"com/example/hintikka/hintikka/domain/ConstraintNetwork", "getLeft", "(I)I"⟩ : MethodName)) hown (mvT hZ (hw _ (List.mem_of_getElem? (i := 142) rfl))) (mvT hZ (hw _ (List.mem_of_getElem? (i := 143) rfl))) (notFace_of_selects (args := #[]) (mvT hZ (hw _ (List.mem_of_getElem? (i := 145) rfl)))) (mvT hZ (hw _ (List.mem_of_getElem? (i := 145) rfl))) (mvT hZ (hw _ (List.mem_of_getElem? (i := 144) rfl))) (by decide) (backOf (W := 0) (rmGL l Z a0 hw [] b25 (1 : Int32) (2 : Int32) la_29 ka_29 [(.int (0 : Int32)), (.int (1 : Int32)), (.int ya2), (.int ya3)] (1 : Int32) ht68 n0 Zt68 s0 sq s2 z0 (by decide) (by decide) ⟨by decide, by decide⟩ rfl) hZ (hw _ (List.mem_of_getElem? (i := 146) rfl)) (hw _ (List.mem_of_getElem? (i := 3) rfl)) (by decide) (by decide)) q71a q71c (g := (mkF m 207 #[.val (.int p0), .val (.int p1), .val (.int p2), .val (.int p3), .val (.int p4), .val (.int p5), .val (.ref b1), .val (.ref b8), .val (.ref b16), .val (.ref b25), sk, .val (.int (2 : Int32)), .val (.int (1 : Int32))] [(.int (1 : Int32)), (.ref b25)])) rfl (by rw [hml]; rfl) (Steps.refl _) (argsL := [(.int (1 : Int32))]) (rest := []) (lenOf own_pd7 rfl) rfl (by show 2 * 0 + _ ≤ _; exact Nat.le_of_eq rfl) (hb hby at_207) (fun _ _ => ⟨rfl, eq70, (by decide : 10 + 0 ≤ _), (by decide : 84 + 0 ≤ _)⟩)
    dsimp only [Pt.U, Pt.locs, Pt.cells, Pt.slots] at X71 l71 y71 z71 st71 hQ71
    subst l71 y71 z71
    obtain ⟨rfl, N71q, eq71⟩ := hQ71
    have N71 := Fr.app N70 N71q
    refine own_up (fun _ k => st71.trans k) ?_
    show own_Go p.tables e below _ (T71.setTop (mkF m 210 #[.val (.int p0), .val (.int p1), .val (.int p2), .val (.int p3), .val (.int p4), .val (.int p5), .val (.ref b1), .val (.ref b8), .val (.ref b16), .val (.ref b25), sk, .val (.int (2 : Int32)), .val (.int (1 : Int32))] [(.int (1 : Int32))]))
    refine own_up (fun _ k => XS.aload X71.here hx rfl (hb hby at_210) rfl rfl k) ?_
    show own_Go p.tables e below _ (T71.setTop (mkF m 212 #[.val (.int p0), .val (.int p1), .val (.int p2), .val (.int p3), .val (.int p4), .val (.int p5), .val (.ref b1), .val (.ref b8), .val (.ref b16), .val (.ref b25), sk, .val (.int (2 : Int32)), .val (.int (1 : Int32))] [(.ref b1), (.int (1 : Int32))]))
    refine own_up (fun _ k => XS.iload X71.here hx rfl (hb hby at_212) rfl k) ?_
    show own_Go p.tables e below _ (T71.setTop (mkF m 214 #[.val (.int p0), .val (.int p1), .val (.int p2), .val (.int p3), .val (.int p4), .val (.int p5), .val (.ref b1), .val (.ref b8), .val (.ref b16), .val (.ref b25), sk, .val (.int (2 : Int32)), .val (.int (1 : Int32))] [(.int (2 : Int32)), (.ref b1), (.int (1 : Int32))]))
    refine own_up (fun _ k => XS.iconst X71.here hx rfl (hb hby at_214) k) ?_
    show own_Go p.tables e below _ (T71.setTop (mkF m 215 #[.val (.int p0), .val (.int p1), .val (.int p2), .val (.int p3), .val (.int p4), .val (.int p5), .val (.ref b1), .val (.ref b8), .val (.ref b16), .val (.ref b25), sk, .val (.int (2 : Int32)), .val (.int (1 : Int32))] [(.int (1 : Int32)), (.int (2 : Int32)), (.ref b1), (.int (1 : Int32))]))
    refine own_up (fun _ k => XS.isub X71.here hx rfl (hb hby at_215) rfl k) ?_
    show own_Go p.tables e below _ (T71.setTop (mkF m 216 #[.val (.int p0), .val (.int p1), .val (.int p2), .val (.int p3), .val (.int p4), .val (.int p5), .val (.ref b1), .val (.ref b8), .val (.ref b16), .val (.ref b25), sk, .val (.int (2 : Int32)), .val (.int (1 : Int32))] [(.int (1 : Int32)), (.ref b1), (.int (1 : Int32))]))
    obtain ⟨cl72_, Ar72, q72, S72, M72, Hs72, G72⟩ := id (q0)
    have hin73 : ¬ ((1 : Int32) < 0 ∨ cl72_.slots.size ≤ ((1 : Int32)).toNatClampNeg) := inb_of S72 ⟨by decide, by decide⟩
    have hat73 : cl72_.slots[((1 : Int32)).toNatClampNeg]? = some (.int (1 : Int32)) := Has.at Hs72 hin73 rfl
    refine own_up (fun _ k => X71.iaload hx (j := (1 : Int32)) (v := (.int (1 : Int32))) (by rw [eq71]; exact Ar72.1) (State.isArrayOf_alike hZ.alike Ar72.2.1) Ar72.2.2 hin73 hat73 (g := (mkF m 216 #[.val (.int p0), .val (.int p1), .val (.int p2), .val (.int p3), .val (.int p4), .val (.int p5), .val (.ref b1), .val (.ref b8), .val (.ref b16), .val (.ref b25), sk, .val (.int (2 : Int32)), .val (.int (1 : Int32))] [(.int (1 : Int32)), (.ref b1), (.int (1 : Int32))])) rfl rfl (hb hby at_216) _ k) ?_
    show own_Go p.tables e below _ (T71.setTop (mkF m 217 #[.val (.int p0), .val (.int p1), .val (.int p2), .val (.int p3), .val (.int p4), .val (.int p5), .val (.ref b1), .val (.ref b8), .val (.ref b16), .val (.ref b25), sk, .val (.int (2 : Int32)), .val (.int (1 : Int32))] [(.int (1 : Int32)), (.int (1 : Int32))]))
    refine own_up (fun _ k => XS.icmpNo X71.here hx rfl (hb hby at_217) rfl (teq rfl).2 k) ?_
    show own_Go p.tables e below _ (T71.setTop (mkF m 220 #[.val (.int p0), .val (.int p1), .val (.int p2), .val (.int p3), .val (.int p4), .val (.int p5), .val (.ref b1), .val (.ref b8), .val (.ref b16), .val (.ref b25), sk, .val (.int (2 : Int32)), .val (.int (1 : Int32))] []))
    refine own_up (fun _ k => XS.aload X71.here hx rfl (hb hby at_220) rfl rfl k) ?_
    show own_Go p.tables e below _ (T71.setTop (mkF m 222 #[.val (.int p0), .val (.int p1), .val (.int p2), .val (.int p3), .val (.int p4), .val (.int p5), .val (.ref b1), .val (.ref b8), .val (.ref b16), .val (.ref b25), sk, .val (.int (2 : Int32)), .val (.int (1 : Int32))] [(.ref b25)]))
    refine own_up (fun _ k => XS.iload X71.here hx rfl (hb hby at_222) rfl k) ?_
    show own_Go p.tables e below _ (T71.setTop (mkF m 224 #[.val (.int p0), .val (.int p1), .val (.int p2), .val (.int p3), .val (.int p4), .val (.int p5), .val (.ref b1), .val (.ref b8), .val (.ref b16), .val (.ref b25), sk, .val (.int (2 : Int32)), .val (.int (1 : Int32))] [(.int (2 : Int32)), (.ref b25)]))
    refine own_up (fun _ k => XS.iconst X71.here hx rfl (hb hby at_224) k) ?_
    show own_Go p.tables e below _ (T71.setTop (mkF m 225 #[.val (.int p0), .val (.int p1), .val (.int p2), .val (.int p3), .val (.int p4), .val (.int p5), .val (.ref b1), .val (.ref b8), .val (.ref b16), .val (.ref b25), sk, .val (.int (2 : Int32)), .val (.int (1 : Int32))] [(.int (1 : Int32)), (.int (2 : Int32)), (.ref b25)]))
    refine own_up (fun _ k => XS.isub X71.here hx rfl (hb hby at_225) rfl k) ?_
    show own_Go p.tables e below _ (T71.setTop (mkF m 226 #[.val (.int p0), .val (.int p1), .val (.int p2), .val (.int p3), .val (.int p4), .val (.int p5), .val (.ref b1), .val (.ref b8), .val (.ref b16), .val (.ref b25), sk, .val (.int (2 : Int32)), .val (.int (1 : Int32))] [(.int (1 : Int32)), (.ref b25)]))
    obtain ⟨cq74, kq74, q74a, q74b, q74c⟩ := isOf hZ eq71 s0
    obtain ⟨_, _, ⟨T74, L74, k74, n74⟩, -, X74, ⟨Lc74, hQ74, l74, y74, z74⟩, st74⟩ := X71.virtualBack hx (y := (⟨"com/example/hintikka/hintikka/domain/ConstraintNetwork", "getRelations", "(I)I"⟩ : MethodName)) (z := (⟨"com/example/hintikka/hintikka/domain/ConstraintNetwork", "getRelations", "(I)I"⟩ : MethodName)) hown (mvT hZ (hw _ (List.mem_of_getElem? (i := 133) rfl))) (mvT hZ (hw _ (List.mem_of_getElem? (i := 134) rfl))) (notFace_of_selects (args := #[]) (mvT hZ (hw _ (List.mem_of_getElem? (i := 136) rfl)))) (mvT hZ (hw _ (List.mem_of_getElem? (i := 136) rfl))) (mvT hZ (hw _ (List.mem_of_getElem? (i := 135) rfl))) (by decide) (backOf (W := 0) (rmGE l Z a0 hw [] b25 (1 : Int32) (2 : Int32) re_29 ke_29 [(.int p2), (.int p3), (.int yb2), (.int yb3)] p3 ht68 n0 Zt68 s0 sq s3 z1 (by decide) (by decide) ⟨by decide, by decide⟩ rfl) hZ (hw _ (List.mem_of_getElem? (i := 137) rfl)) (hw _ (List.mem_of_getElem? (i := 3) rfl)) (by decide) (by decide)) q74a q74c (g := (mkF m 226 #[.val (.int p0), .val (.int p1), .val (.int p2), .val (.int p3), .val (.int p4), .val (.int p5), .val (.ref b1), .val (.ref b8), .val (.ref b16), .val (.ref b25), sk, .val (.int (2 : Int32)), .val (.int (1 : Int32))] [(.int (1 : Int32)), (.ref b25)])) rfl (by rw [hml]; rfl) (Steps.refl _) (argsL := [(.int (1 : Int32))]) (rest := []) (lenOf own_pd7 rfl) rfl (by show 2 * 0 + _ ≤ _; exact Nat.le_of_eq rfl) (hb hby at_226) (fun _ _ => ⟨rfl, eq71, (by decide : 10 + 0 ≤ _), (by decide : 84 + 0 ≤ _)⟩)
    dsimp only [Pt.U, Pt.locs, Pt.cells, Pt.slots] at X74 l74 y74 z74 st74 hQ74
    subst l74 y74 z74
    obtain ⟨rfl, N74q, eq74⟩ := hQ74
    have N74 := Fr.app N71 N74q
    refine own_up (fun _ k => st74.trans k) ?_
    show own_Go p.tables e below _ (T74.setTop (mkF m 229 #[.val (.int p0), .val (.int p1), .val (.int p2), .val (.int p3), .val (.int p4), .val (.int p5), .val (.ref b1), .val (.ref b8), .val (.ref b16), .val (.ref b25), sk, .val (.int (2 : Int32)), .val (.int (1 : Int32))] [(.int p3)]))
    refine own_up (fun _ k => XS.aload X74.here hx rfl (hb hby at_229) rfl rfl k) ?_
    show own_Go p.tables e below _ (T74.setTop (mkF m 231 #[.val (.int p0), .val (.int p1), .val (.int p2), .val (.int p3), .val (.int p4), .val (.int p5), .val (.ref b1), .val (.ref b8), .val (.ref b16), .val (.ref b25), sk, .val (.int (2 : Int32)), .val (.int (1 : Int32))] [(.ref b16), (.int p3)]))
    refine own_up (fun _ k => XS.iload X74.here hx rfl (hb hby at_231) rfl k) ?_
    show own_Go p.tables e below _ (T74.setTop (mkF m 233 #[.val (.int p0), .val (.int p1), .val (.int p2), .val (.int p3), .val (.int p4), .val (.int p5), .val (.ref b1), .val (.ref b8), .val (.ref b16), .val (.ref b25), sk, .val (.int (2 : Int32)), .val (.int (1 : Int32))] [(.int (2 : Int32)), (.ref b16), (.int p3)]))
    refine own_up (fun _ k => XS.iconst X74.here hx rfl (hb hby at_233) k) ?_
    show own_Go p.tables e below _ (T74.setTop (mkF m 234 #[.val (.int p0), .val (.int p1), .val (.int p2), .val (.int p3), .val (.int p4), .val (.int p5), .val (.ref b1), .val (.ref b8), .val (.ref b16), .val (.ref b25), sk, .val (.int (2 : Int32)), .val (.int (1 : Int32))] [(.int (1 : Int32)), (.int (2 : Int32)), (.ref b16), (.int p3)]))
    refine own_up (fun _ k => XS.isub X74.here hx rfl (hb hby at_234) rfl k) ?_
    show own_Go p.tables e below _ (T74.setTop (mkF m 235 #[.val (.int p0), .val (.int p1), .val (.int p2), .val (.int p3), .val (.int p4), .val (.int p5), .val (.ref b1), .val (.ref b8), .val (.ref b16), .val (.ref b25), sk, .val (.int (2 : Int32)), .val (.int (1 : Int32))] [(.int (1 : Int32)), (.ref b16), (.int p3)]))
    obtain ⟨cl75_, Ar75, q75, S75, M75, Hs75, G75⟩ := id (q2)
    have hin76 : ¬ ((1 : Int32) < 0 ∨ cl75_.slots.size ≤ ((1 : Int32)).toNatClampNeg) := inb_of S75 ⟨by decide, by decide⟩
    have hat76 : cl75_.slots[((1 : Int32)).toNatClampNeg]? = some (.int p3) := Has.at Hs75 hin76 rfl
    refine own_up (fun _ k => X74.iaload hx (j := (1 : Int32)) (v := (.int p3)) (by rw [eq74]; exact Ar75.1) (State.isArrayOf_alike hZ.alike Ar75.2.1) Ar75.2.2 hin76 hat76 (g := (mkF m 235 #[.val (.int p0), .val (.int p1), .val (.int p2), .val (.int p3), .val (.int p4), .val (.int p5), .val (.ref b1), .val (.ref b8), .val (.ref b16), .val (.ref b25), sk, .val (.int (2 : Int32)), .val (.int (1 : Int32))] [(.int (1 : Int32)), (.ref b16), (.int p3)])) rfl rfl (hb hby at_235) _ k) ?_
    show own_Go p.tables e below _ (T74.setTop (mkF m 236 #[.val (.int p0), .val (.int p1), .val (.int p2), .val (.int p3), .val (.int p4), .val (.int p5), .val (.ref b1), .val (.ref b8), .val (.ref b16), .val (.ref b25), sk, .val (.int (2 : Int32)), .val (.int (1 : Int32))] [(.int p3), (.int p3)]))
    refine own_up (fun _ k => XS.icmpNo X74.here hx rfl (hb hby at_236) rfl (teq rfl).2 k) ?_
    show own_Go p.tables e below _ (T74.setTop (mkF m 239 #[.val (.int p0), .val (.int p1), .val (.int p2), .val (.int p3), .val (.int p4), .val (.int p5), .val (.ref b1), .val (.ref b8), .val (.ref b16), .val (.ref b25), sk, .val (.int (2 : Int32)), .val (.int (1 : Int32))] []))
    refine own_up (fun _ k => XS.aload X74.here hx rfl (hb hby at_239) rfl rfl k) ?_
    show own_Go p.tables e below _ (T74.setTop (mkF m 241 #[.val (.int p0), .val (.int p1), .val (.int p2), .val (.int p3), .val (.int p4), .val (.int p5), .val (.ref b1), .val (.ref b8), .val (.ref b16), .val (.ref b25), sk, .val (.int (2 : Int32)), .val (.int (1 : Int32))] [(.ref b25)]))
    refine own_up (fun _ k => XS.iload X74.here hx rfl (hb hby at_241) rfl k) ?_
    show own_Go p.tables e below _ (T74.setTop (mkF m 243 #[.val (.int p0), .val (.int p1), .val (.int p2), .val (.int p3), .val (.int p4), .val (.int p5), .val (.ref b1), .val (.ref b8), .val (.ref b16), .val (.ref b25), sk, .val (.int (2 : Int32)), .val (.int (1 : Int32))] [(.int (2 : Int32)), (.ref b25)]))
    refine own_up (fun _ k => XS.iconst X74.here hx rfl (hb hby at_243) k) ?_
    show own_Go p.tables e below _ (T74.setTop (mkF m 244 #[.val (.int p0), .val (.int p1), .val (.int p2), .val (.int p3), .val (.int p4), .val (.int p5), .val (.ref b1), .val (.ref b8), .val (.ref b16), .val (.ref b25), sk, .val (.int (2 : Int32)), .val (.int (1 : Int32))] [(.int (1 : Int32)), (.int (2 : Int32)), (.ref b25)]))
    refine own_up (fun _ k => XS.isub X74.here hx rfl (hb hby at_244) rfl k) ?_
    show own_Go p.tables e below _ (T74.setTop (mkF m 245 #[.val (.int p0), .val (.int p1), .val (.int p2), .val (.int p3), .val (.int p4), .val (.int p5), .val (.ref b1), .val (.ref b8), .val (.ref b16), .val (.ref b25), sk, .val (.int (2 : Int32)), .val (.int (1 : Int32))] [(.int (1 : Int32)), (.ref b25)]))
    obtain ⟨cq77, kq77, q77a, q77b, q77c⟩ := isOf hZ eq74 s0
    obtain ⟨_, _, ⟨T77, L77, k77, n77⟩, -, X77, ⟨Lc77, hQ77, l77, y77, z77⟩, st77⟩ := X74.virtualBack hx (y := (⟨"com/example/hintikka/hintikka/domain/ConstraintNetwork", "getRight", "(I)I"⟩ : MethodName)) (z := (⟨"com/example/hintikka/hintikka/domain/ConstraintNetwork", "getRight", "(I)I"⟩ : MethodName)) hown (mvT hZ (hw _ (List.mem_of_getElem? (i := 147) rfl))) (mvT hZ (hw _ (List.mem_of_getElem? (i := 148) rfl))) (notFace_of_selects (args := #[]) (mvT hZ (hw _ (List.mem_of_getElem? (i := 150) rfl)))) (mvT hZ (hw _ (List.mem_of_getElem? (i := 150) rfl))) (mvT hZ (hw _ (List.mem_of_getElem? (i := 149) rfl))) (by decide) (backOf (W := 0) (rmGR l Z a0 hw [] b25 (1 : Int32) (2 : Int32) ri_29 ki_29 [(.int (1 : Int32)), (.int (0 : Int32)), (.int yc2), (.int yc3)] (0 : Int32) ht68 n0 Zt68 s0 sq s4 z2 (by decide) (by decide) ⟨by decide, by decide⟩ rfl) hZ (hw _ (List.mem_of_getElem? (i := 151) rfl)) (hw _ (List.mem_of_getElem? (i := 3) rfl)) (by decide) (by decide)) q77a q77c (g := (mkF m 245 #[.val (.int p0), .val (.int p1), .val (.int p2), .val (.int p3), .val (.int p4), .val (.int p5), .val (.ref b1), .val (.ref b8), .val (.ref b16), .val (.ref b25), sk, .val (.int (2 : Int32)), .val (.int (1 : Int32))] [(.int (1 : Int32)), (.ref b25)])) rfl (by rw [hml]; rfl) (Steps.refl _) (argsL := [(.int (1 : Int32))]) (rest := []) (lenOf own_pd7 rfl) rfl (by show 2 * 0 + _ ≤ _; exact Nat.le_of_eq rfl) (hb hby at_245) (fun _ _ => ⟨rfl, eq74, (by decide : 10 + 0 ≤ _), (by decide : 84 + 0 ≤ _)⟩)
    dsimp only [Pt.U, Pt.locs, Pt.cells, Pt.slots] at X77 l77 y77 z77 st77 hQ77
    subst l77 y77 z77
    obtain ⟨rfl, N77q, eq77⟩ := hQ77
    have N77 := Fr.app N74 N77q
    refine own_up (fun _ k => st77.trans k) ?_
    show own_Go p.tables e below _ (T77.setTop (mkF m 248 #[.val (.int p0), .val (.int p1), .val (.int p2), .val (.int p3), .val (.int p4), .val (.int p5), .val (.ref b1), .val (.ref b8), .val (.ref b16), .val (.ref b25), sk, .val (.int (2 : Int32)), .val (.int (1 : Int32))] [(.int (0 : Int32))]))
    refine own_up (fun _ k => XS.aload X77.here hx rfl (hb hby at_248) rfl rfl k) ?_
    show own_Go p.tables e below _ (T77.setTop (mkF m 250 #[.val (.int p0), .val (.int p1), .val (.int p2), .val (.int p3), .val (.int p4), .val (.int p5), .val (.ref b1), .val (.ref b8), .val (.ref b16), .val (.ref b25), sk, .val (.int (2 : Int32)), .val (.int (1 : Int32))] [(.ref b8), (.int (0 : Int32))]))
    refine own_up (fun _ k => XS.iload X77.here hx rfl (hb hby at_250) rfl k) ?_
    show own_Go p.tables e below _ (T77.setTop (mkF m 252 #[.val (.int p0), .val (.int p1), .val (.int p2), .val (.int p3), .val (.int p4), .val (.int p5), .val (.ref b1), .val (.ref b8), .val (.ref b16), .val (.ref b25), sk, .val (.int (2 : Int32)), .val (.int (1 : Int32))] [(.int (2 : Int32)), (.ref b8), (.int (0 : Int32))]))
    refine own_up (fun _ k => XS.iconst X77.here hx rfl (hb hby at_252) k) ?_
    show own_Go p.tables e below _ (T77.setTop (mkF m 253 #[.val (.int p0), .val (.int p1), .val (.int p2), .val (.int p3), .val (.int p4), .val (.int p5), .val (.ref b1), .val (.ref b8), .val (.ref b16), .val (.ref b25), sk, .val (.int (2 : Int32)), .val (.int (1 : Int32))] [(.int (1 : Int32)), (.int (2 : Int32)), (.ref b8), (.int (0 : Int32))]))
    refine own_up (fun _ k => XS.isub X77.here hx rfl (hb hby at_253) rfl k) ?_
    show own_Go p.tables e below _ (T77.setTop (mkF m 254 #[.val (.int p0), .val (.int p1), .val (.int p2), .val (.int p3), .val (.int p4), .val (.int p5), .val (.ref b1), .val (.ref b8), .val (.ref b16), .val (.ref b25), sk, .val (.int (2 : Int32)), .val (.int (1 : Int32))] [(.int (1 : Int32)), (.ref b8), (.int (0 : Int32))]))
    obtain ⟨cl78_, Ar78, q78, S78, M78, Hs78, G78⟩ := id (q1)
    have hin79 : ¬ ((1 : Int32) < 0 ∨ cl78_.slots.size ≤ ((1 : Int32)).toNatClampNeg) := inb_of S78 ⟨by decide, by decide⟩
    have hat79 : cl78_.slots[((1 : Int32)).toNatClampNeg]? = some (.int (0 : Int32)) := Has.at Hs78 hin79 rfl
    refine own_up (fun _ k => X77.iaload hx (j := (1 : Int32)) (v := (.int (0 : Int32))) (by rw [eq77]; exact Ar78.1) (State.isArrayOf_alike hZ.alike Ar78.2.1) Ar78.2.2 hin79 hat79 (g := (mkF m 254 #[.val (.int p0), .val (.int p1), .val (.int p2), .val (.int p3), .val (.int p4), .val (.int p5), .val (.ref b1), .val (.ref b8), .val (.ref b16), .val (.ref b25), sk, .val (.int (2 : Int32)), .val (.int (1 : Int32))] [(.int (1 : Int32)), (.ref b8), (.int (0 : Int32))])) rfl rfl (hb hby at_254) _ k) ?_
    show own_Go p.tables e below _ (T77.setTop (mkF m 255 #[.val (.int p0), .val (.int p1), .val (.int p2), .val (.int p3), .val (.int p4), .val (.int p5), .val (.ref b1), .val (.ref b8), .val (.ref b16), .val (.ref b25), sk, .val (.int (2 : Int32)), .val (.int (1 : Int32))] [(.int (0 : Int32)), (.int (0 : Int32))]))
    refine own_up (fun _ k => XS.icmpNo X77.here hx rfl (hb hby at_255) rfl (teq rfl).2 k) ?_
    show own_Go p.tables e below _ (T77.setTop (mkF m 258 #[.val (.int p0), .val (.int p1), .val (.int p2), .val (.int p3), .val (.int p4), .val (.int p5), .val (.ref b1), .val (.ref b8), .val (.ref b16), .val (.ref b25), sk, .val (.int (2 : Int32)), .val (.int (1 : Int32))] []))
    refine own_up (fun _ k => XS.iconst X77.here hx rfl (hb hby at_258) k) ?_
    show own_Go p.tables e below _ (T77.setTop (mkF m 259 #[.val (.int p0), .val (.int p1), .val (.int p2), .val (.int p3), .val (.int p4), .val (.int p5), .val (.ref b1), .val (.ref b8), .val (.ref b16), .val (.ref b25), sk, .val (.int (2 : Int32)), .val (.int (1 : Int32))] [(.int (1 : Int32))]))
    refine own_up (fun _ k => XS.goto X77.here hx rfl (pc0 := 259) (pc' := 263) rfl (hb hby at_259) (by decide) (by decide) k) ?_
    show own_Go p.tables e below _ (T77.setTop (mkF m 263 #[.val (.int p0), .val (.int p1), .val (.int p2), .val (.int p3), .val (.int p4), .val (.int p5), .val (.ref b1), .val (.ref b8), .val (.ref b16), .val (.ref b25), sk, .val (.int (2 : Int32)), .val (.int (1 : Int32))] [(.int (1 : Int32))]))
    refine own_up (fun _ k => XS.istore X77.here hx rfl (hb hby at_263) rfl (l' := #[.val (.int p0), .val (.int p1), .val (.int p2), .val (.int p3), .val (.int p4), .val (.int p5), .val (.ref b1), .val (.ref b8), .val (.ref b16), .val (.ref b25), sk, .val (.int (2 : Int32)), .val (.int (1 : Int32))]) rfl k) ?_
    show own_Go p.tables e below _ (T77.setTop (mkF m 265 #[.val (.int p0), .val (.int p1), .val (.int p2), .val (.int p3), .val (.int p4), .val (.int p5), .val (.ref b1), .val (.ref b8), .val (.ref b16), .val (.ref b25), sk, .val (.int (2 : Int32)), .val (.int (1 : Int32))] []))
    refine own_up (fun _ k => XS.aload X77.here hx rfl (hb hby at_265) rfl rfl k) ?_
    show own_Go p.tables e below _ (T77.setTop (mkF m 267 #[.val (.int p0), .val (.int p1), .val (.int p2), .val (.int p3), .val (.int p4), .val (.int p5), .val (.ref b1), .val (.ref b8), .val (.ref b16), .val (.ref b25), sk, .val (.int (2 : Int32)), .val (.int (1 : Int32))] [(.ref b25)]))
    refine own_up (fun _ k => XS.iconst X77.here hx rfl (hb hby at_267) k) ?_
    show own_Go p.tables e below _ (T77.setTop (mkF m 268 #[.val (.int p0), .val (.int p1), .val (.int p2), .val (.int p3), .val (.int p4), .val (.int p5), .val (.ref b1), .val (.ref b8), .val (.ref b16), .val (.ref b25), sk, .val (.int (2 : Int32)), .val (.int (1 : Int32))] [(.int (0 : Int32)), (.ref b25)]))
    refine own_up (fun _ k => XS.iload X77.here hx rfl (hb hby at_268) rfl k) ?_
    show own_Go p.tables e below _ (T77.setTop (mkF m 270 #[.val (.int p0), .val (.int p1), .val (.int p2), .val (.int p3), .val (.int p4), .val (.int p5), .val (.ref b1), .val (.ref b8), .val (.ref b16), .val (.ref b25), sk, .val (.int (2 : Int32)), .val (.int (1 : Int32))] [(.int p5), (.int (0 : Int32)), (.ref b25)]))
    refine own_up (fun _ k => XS.iconst X77.here hx rfl (hb hby at_270) k) ?_
    show own_Go p.tables e below _ (T77.setTop (mkF m 271 #[.val (.int p0), .val (.int p1), .val (.int p2), .val (.int p3), .val (.int p4), .val (.int p5), .val (.ref b1), .val (.ref b8), .val (.ref b16), .val (.ref b25), sk, .val (.int (2 : Int32)), .val (.int (1 : Int32))] [(.int (0 : Int32)), (.int p5), (.int (0 : Int32)), (.ref b25)]))
    obtain ⟨cq80, kq80, q80a, q80b, q80c⟩ := isOf hZ eq77 s0
    obtain ⟨_, _, ⟨T80, L80, k80, n80⟩, -, X80, ⟨Lc80, hQ80, l80, y80, z80⟩, st80⟩ := X77.virtualBack hx (y := (⟨"com/example/hintikka/hintikka/domain/ConstraintNetwork", "add", "(III)V"⟩ : MethodName)) (z := (⟨"com/example/hintikka/hintikka/domain/ConstraintNetwork", "add", "(III)V"⟩ : MethodName)) hown (mvT hZ (hw _ (List.mem_of_getElem? (i := 124) rfl))) (mvT hZ (hw _ (List.mem_of_getElem? (i := 125) rfl))) (notFace_of_selects (args := #[]) (mvT hZ (hw _ (List.mem_of_getElem? (i := 127) rfl)))) (mvT hZ (hw _ (List.mem_of_getElem? (i := 127) rfl))) (mvT hZ (hw _ (List.mem_of_getElem? (i := 126) rfl))) (by decide) (backOf (W := 0) (rmAd2 l Z a0 hw [] b25 (0 : Int32) p5 (0 : Int32) al_29 la_29 re_29 ri_29 ka_29 ke_29 ki_29 (0 : Int32) (1 : Int32) ya2 ya3 p2 p3 yb2 yb3 (1 : Int32) (0 : Int32) yc2 yc3 ht68 n0 Zt68 s0 s1 s2 s3 s4 s5 s6 sq z0 z1 z2 ge25 P29_5 P29_6 P29_7 P29_8 P29_9 P29_10 P29_11 P29_12 P29_13 P29_14 P29_15 P29_16 P29_17 (by decide) (by decide) (by decide) (by decide)) hZ (hw _ (List.mem_of_getElem? (i := 128) rfl)) (hw _ (List.mem_of_getElem? (i := 3) rfl)) (by decide) (by decide)) q80a q80c (g := (mkF m 271 #[.val (.int p0), .val (.int p1), .val (.int p2), .val (.int p3), .val (.int p4), .val (.int p5), .val (.ref b1), .val (.ref b8), .val (.ref b16), .val (.ref b25), sk, .val (.int (2 : Int32)), .val (.int (1 : Int32))] [(.int (0 : Int32)), (.int p5), (.int (0 : Int32)), (.ref b25)])) rfl (by rw [hml]; rfl) (Steps.refl _) (argsL := [(.int (0 : Int32)), (.int p5), (.int (0 : Int32))]) (rest := []) (lenOf own_pd8 rfl) rfl (by show 2 * 0 + _ ≤ _; exact Nat.le_of_eq rfl) (hb hby at_271) (fun _ _ => ⟨rfl, eq77, (by decide : 10 + 0 ≤ _), (by decide : 84 + 0 ≤ _)⟩)
    dsimp only [Pt.U, Pt.locs, Pt.cells, Pt.slots] at X80 l80 y80 z80 st80 hQ80
    subst l80 y80 z80
    obtain ⟨rfl, N80q, K80, P80_0, P80_1, P80_2, P80_3, P80_4, P80_5, P80_6, P80_7, P80_8⟩ := hQ80
    have N80 := Fr.app N77 N80q
    refine own_up (fun _ k => st80.trans k) ?_
    show own_Go p.tables e below _ (T80.setTop (mkF m 274 #[.val (.int p0), .val (.int p1), .val (.int p2), .val (.int p3), .val (.int p4), .val (.int p5), .val (.ref b1), .val (.ref b8), .val (.ref b16), .val (.ref b25), sk, .val (.int (2 : Int32)), .val (.int (1 : Int32))] []))
    refine own_up (fun _ k => XS.iload X80.here hx rfl (hb hby at_274) rfl k) ?_
    show own_Go p.tables e below _ (T80.setTop (mkF m 276 #[.val (.int p0), .val (.int p1), .val (.int p2), .val (.int p3), .val (.int p4), .val (.int p5), .val (.ref b1), .val (.ref b8), .val (.ref b16), .val (.ref b25), sk, .val (.int (2 : Int32)), .val (.int (1 : Int32))] [(.int (1 : Int32))]))
    refine own_up (fun _ k => XS.ifNo X80.here hx rfl (hb hby at_276) rfl ((if0 _ _).trans (feq (by decide)).1) k) ?_
    show own_Go p.tables e below _ (T80.setTop (mkF m 279 #[.val (.int p0), .val (.int p1), .val (.int p2), .val (.int p3), .val (.int p4), .val (.int p5), .val (.ref b1), .val (.ref b8), .val (.ref b16), .val (.ref b25), sk, .val (.int (2 : Int32)), .val (.int (1 : Int32))] []))
    refine own_up (fun _ k => XS.aload X80.here hx rfl (hb hby at_279) rfl rfl k) ?_
    show own_Go p.tables e below _ (T80.setTop (mkF m 281 #[.val (.int p0), .val (.int p1), .val (.int p2), .val (.int p3), .val (.int p4), .val (.int p5), .val (.ref b1), .val (.ref b8), .val (.ref b16), .val (.ref b25), sk, .val (.int (2 : Int32)), .val (.int (1 : Int32))] [(.ref b25)]))
    have f82 : n0 ≤ T80.heap.size := (Nat.le_trans Zt68 K80.1)
    obtain ⟨cq81, kq81, q81a, q81b, q81c⟩ := isOf hZ rfl P80_0
    obtain ⟨_, _, ⟨T81, L81, k81, n81⟩, -, X81, ⟨Lc81, hQ81, l81, y81, z81⟩, st81⟩ := X80.virtualBack hx (y := (⟨"com/example/hintikka/hintikka/domain/ConstraintNetwork", "size", "()I"⟩ : MethodName)) (z := (⟨"com/example/hintikka/hintikka/domain/ConstraintNetwork", "size", "()I"⟩ : MethodName)) hown (mvT hZ (hw _ (List.mem_of_getElem? (i := 114) rfl))) (mvT hZ (hw _ (List.mem_of_getElem? (i := 115) rfl))) (notFace_of_selects (args := #[]) (mvT hZ (hw _ (List.mem_of_getElem? (i := 117) rfl)))) (mvT hZ (hw _ (List.mem_of_getElem? (i := 117) rfl))) (mvT hZ (hw _ (List.mem_of_getElem? (i := 116) rfl))) (by decide) (backOf (W := 0) (rmQ l Z a0 hw [] b25 (3 : Int32) T80.heap n0 f82 P80_5) hZ (hw _ (List.mem_of_getElem? (i := 118) rfl)) (hw _ (List.mem_of_getElem? (i := 3) rfl)) (by decide) (by decide)) q81a q81c (g := (mkF m 281 #[.val (.int p0), .val (.int p1), .val (.int p2), .val (.int p3), .val (.int p4), .val (.int p5), .val (.ref b1), .val (.ref b8), .val (.ref b16), .val (.ref b25), sk, .val (.int (2 : Int32)), .val (.int (1 : Int32))] [(.ref b25)])) rfl (by rw [hml]; rfl) (Steps.refl _) (argsL := []) (rest := []) (lenOf own_pd6 rfl) rfl (by show 2 * 0 + _ ≤ _; exact Nat.le_of_eq rfl) (hb hby at_281) (fun _ _ => ⟨rfl, rfl, (by decide : 10 + 0 ≤ _), (by decide : 84 + 0 ≤ _)⟩)
    dsimp only [Pt.U, Pt.locs, Pt.cells, Pt.slots] at X81 l81 y81 z81 st81 hQ81
    subst l81 y81 z81
    obtain ⟨rfl, N81q, eq81⟩ := hQ81
    have N81 := Fr.app N80 N81q
    refine own_up (fun _ k => st81.trans k) ?_
    show own_Go p.tables e below _ (T81.setTop (mkF m 284 #[.val (.int p0), .val (.int p1), .val (.int p2), .val (.int p3), .val (.int p4), .val (.int p5), .val (.ref b1), .val (.ref b8), .val (.ref b16), .val (.ref b25), sk, .val (.int (2 : Int32)), .val (.int (1 : Int32))] [(.int (3 : Int32))]))
    refine own_up (fun _ k => XS.iload X81.here hx rfl (hb hby at_284) rfl k) ?_
    show own_Go p.tables e below _ (T81.setTop (mkF m 286 #[.val (.int p0), .val (.int p1), .val (.int p2), .val (.int p3), .val (.int p4), .val (.int p5), .val (.ref b1), .val (.ref b8), .val (.ref b16), .val (.ref b25), sk, .val (.int (2 : Int32)), .val (.int (1 : Int32))] [(.int (2 : Int32)), (.int (3 : Int32))]))
    refine own_up (fun _ k => XS.iconst X81.here hx rfl (hb hby at_286) k) ?_
    show own_Go p.tables e below _ (T81.setTop (mkF m 287 #[.val (.int p0), .val (.int p1), .val (.int p2), .val (.int p3), .val (.int p4), .val (.int p5), .val (.ref b1), .val (.ref b8), .val (.ref b16), .val (.ref b25), sk, .val (.int (2 : Int32)), .val (.int (1 : Int32))] [(.int (1 : Int32)), (.int (2 : Int32)), (.int (3 : Int32))]))
    refine own_up (fun _ k => XS.iadd X81.here hx rfl (hb hby at_287) rfl k) ?_
    show own_Go p.tables e below _ (T81.setTop (mkF m 288 #[.val (.int p0), .val (.int p1), .val (.int p2), .val (.int p3), .val (.int p4), .val (.int p5), .val (.ref b1), .val (.ref b8), .val (.ref b16), .val (.ref b25), sk, .val (.int (2 : Int32)), .val (.int (1 : Int32))] [(.int (3 : Int32)), (.int (3 : Int32))]))
    refine own_up (fun _ k => XS.icmpNo X81.here hx rfl (hb hby at_288) rfl (teq rfl).2 k) ?_
    show own_Go p.tables e below _ (T81.setTop (mkF m 291 #[.val (.int p0), .val (.int p1), .val (.int p2), .val (.int p3), .val (.int p4), .val (.int p5), .val (.ref b1), .val (.ref b8), .val (.ref b16), .val (.ref b25), sk, .val (.int (2 : Int32)), .val (.int (1 : Int32))] []))
    refine own_up (fun _ k => XS.aload X81.here hx rfl (hb hby at_291) rfl rfl k) ?_
    show own_Go p.tables e below _ (T81.setTop (mkF m 293 #[.val (.int p0), .val (.int p1), .val (.int p2), .val (.int p3), .val (.int p4), .val (.int p5), .val (.ref b1), .val (.ref b8), .val (.ref b16), .val (.ref b25), sk, .val (.int (2 : Int32)), .val (.int (1 : Int32))] [(.ref b25)]))
    refine own_up (fun _ k => XS.iload X81.here hx rfl (hb hby at_293) rfl k) ?_
    show own_Go p.tables e below _ (T81.setTop (mkF m 295 #[.val (.int p0), .val (.int p1), .val (.int p2), .val (.int p3), .val (.int p4), .val (.int p5), .val (.ref b1), .val (.ref b8), .val (.ref b16), .val (.ref b25), sk, .val (.int (2 : Int32)), .val (.int (1 : Int32))] [(.int (2 : Int32)), (.ref b25)]))
    obtain ⟨cq83, kq83, q83a, q83b, q83c⟩ := isOf hZ eq81 P80_0
    obtain ⟨_, _, ⟨T83, L83, k83, n83⟩, -, X83, ⟨Lc83, hQ83, l83, y83, z83⟩, st83⟩ := X81.virtualBack hx (y := (⟨"com/example/hintikka/hintikka/domain/ConstraintNetwork", "getRelations", "(I)I"⟩ : MethodName)) (z := (⟨"com/example/hintikka/hintikka/domain/ConstraintNetwork", "getRelations", "(I)I"⟩ : MethodName)) hown (mvT hZ (hw _ (List.mem_of_getElem? (i := 133) rfl))) (mvT hZ (hw _ (List.mem_of_getElem? (i := 134) rfl))) (notFace_of_selects (args := #[]) (mvT hZ (hw _ (List.mem_of_getElem? (i := 136) rfl)))) (mvT hZ (hw _ (List.mem_of_getElem? (i := 136) rfl))) (mvT hZ (hw _ (List.mem_of_getElem? (i := 135) rfl))) (by decide) (backOf (W := 0) (rmGE l Z a0 hw [] b25 (2 : Int32) (3 : Int32) re_29 ke_29 [(.int p2), (.int p3), (.int p5), (.int yb3)] p5 T80.heap n0 f82 P80_0 P80_5 P80_3 P80_7 (by decide) (by decide) ⟨by decide, by decide⟩ rfl) hZ (hw _ (List.mem_of_getElem? (i := 137) rfl)) (hw _ (List.mem_of_getElem? (i := 3) rfl)) (by decide) (by decide)) q83a q83c (g := (mkF m 295 #[.val (.int p0), .val (.int p1), .val (.int p2), .val (.int p3), .val (.int p4), .val (.int p5), .val (.ref b1), .val (.ref b8), .val (.ref b16), .val (.ref b25), sk, .val (.int (2 : Int32)), .val (.int (1 : Int32))] [(.int (2 : Int32)), (.ref b25)])) rfl (by rw [hml]; rfl) (Steps.refl _) (argsL := [(.int (2 : Int32))]) (rest := []) (lenOf own_pd7 rfl) rfl (by show 2 * 0 + _ ≤ _; exact Nat.le_of_eq rfl) (hb hby at_295) (fun _ _ => ⟨rfl, eq81, (by decide : 10 + 0 ≤ _), (by decide : 84 + 0 ≤ _)⟩)
    dsimp only [Pt.U, Pt.locs, Pt.cells, Pt.slots] at X83 l83 y83 z83 st83 hQ83
    subst l83 y83 z83
    obtain ⟨rfl, N83q, eq83⟩ := hQ83
    have N83 := Fr.app N81 N83q
    refine own_up (fun _ k => st83.trans k) ?_
    show own_Go p.tables e below _ (T83.setTop (mkF m 298 #[.val (.int p0), .val (.int p1), .val (.int p2), .val (.int p3), .val (.int p4), .val (.int p5), .val (.ref b1), .val (.ref b8), .val (.ref b16), .val (.ref b25), sk, .val (.int (2 : Int32)), .val (.int (1 : Int32))] [(.int p5)]))
    refine own_up (fun _ k => XS.iload X83.here hx rfl (hb hby at_298) rfl k) ?_
    show own_Go p.tables e below _ (T83.setTop (mkF m 300 #[.val (.int p0), .val (.int p1), .val (.int p2), .val (.int p3), .val (.int p4), .val (.int p5), .val (.ref b1), .val (.ref b8), .val (.ref b16), .val (.ref b25), sk, .val (.int (2 : Int32)), .val (.int (1 : Int32))] [(.int p5), (.int p5)]))
    refine own_up (fun _ k => XS.icmpNo X83.here hx rfl (hb hby at_300) rfl (teq rfl).2 k) ?_
    show own_Go p.tables e below _ (T83.setTop (mkF m 303 #[.val (.int p0), .val (.int p1), .val (.int p2), .val (.int p3), .val (.int p4), .val (.int p5), .val (.ref b1), .val (.ref b8), .val (.ref b16), .val (.ref b25), sk, .val (.int (2 : Int32)), .val (.int (1 : Int32))] []))
    refine own_up (fun _ k => XS.iconst X83.here hx rfl (hb hby at_303) k) ?_
    show own_Go p.tables e below _ (T83.setTop (mkF m 304 #[.val (.int p0), .val (.int p1), .val (.int p2), .val (.int p3), .val (.int p4), .val (.int p5), .val (.ref b1), .val (.ref b8), .val (.ref b16), .val (.ref b25), sk, .val (.int (2 : Int32)), .val (.int (1 : Int32))] [(.int (1 : Int32))]))
    refine own_up (fun _ k => XS.goto X83.here hx rfl (pc0 := 304) (pc' := 308) rfl (hb hby at_304) (by decide) (by decide) k) ?_
    show own_Go p.tables e below _ (T83.setTop (mkF m 308 #[.val (.int p0), .val (.int p1), .val (.int p2), .val (.int p3), .val (.int p4), .val (.int p5), .val (.ref b1), .val (.ref b8), .val (.ref b16), .val (.ref b25), sk, .val (.int (2 : Int32)), .val (.int (1 : Int32))] [(.int (1 : Int32))]))
    refine own_up (fun _ k => XS.istore X83.here hx rfl (hb hby at_308) rfl (l' := #[.val (.int p0), .val (.int p1), .val (.int p2), .val (.int p3), .val (.int p4), .val (.int p5), .val (.ref b1), .val (.ref b8), .val (.ref b16), .val (.ref b25), sk, .val (.int (2 : Int32)), .val (.int (1 : Int32))]) rfl k) ?_
    show own_Go p.tables e below _ (T83.setTop (mkF m 310 #[.val (.int p0), .val (.int p1), .val (.int p2), .val (.int p3), .val (.int p4), .val (.int p5), .val (.ref b1), .val (.ref b8), .val (.ref b16), .val (.ref b25), sk, .val (.int (2 : Int32)), .val (.int (1 : Int32))] []))
    refine own_up (fun _ k => XS.iload X83.here hx rfl (hb hby at_310) rfl k) ?_
    show own_Go p.tables e below _ (T83.setTop (mkF m 312 #[.val (.int p0), .val (.int p1), .val (.int p2), .val (.int p3), .val (.int p4), .val (.int p5), .val (.ref b1), .val (.ref b8), .val (.ref b16), .val (.ref b25), sk, .val (.int (2 : Int32)), .val (.int (1 : Int32))] [(.int (1 : Int32))]))
    exact own_end X83 hlk (v := some (.int (1 : Int32))) (fun h => by rw [Bd.returns] at h; cases h) (fun fs hr => retN X83 hx (z := (1 : Int32)) (t := .boolean) Bd.returns (by simp) (hb hby at_312) hr) eq83 ⟨rfl, N83⟩ (by decide) (by decide)
  have end3 : ∀ (Tt84 : State) (Lt84 : List Loc) (Xt84 : Stand p l e room_1 s m #[(.int p0), (.int p1), (.int p2), (.int p3), (.int p4), (.int p5)] below meth c Tt84 Lt84 10 84) (ht84 : Heap) (et84 : Tt84.heap = ht84) (Nt84 : Fr n0 Lt84) (sk : Slot) (ya3 : Int32) (yb3 : Int32) (yc3 : Int32) (s0 : Exa Z ht84 b25 "com/example/hintikka/hintikka/domain/ConstraintNetwork") (s1 : Fld Z ht84 b25 "com/example/hintikka/hintikka/domain/ConstraintNetwork" "constants" "Ljava/util/List;" (.ref al_29)) (s2 : Fld Z ht84 b25 "com/example/hintikka/hintikka/domain/ConstraintNetwork" "lefts" "[I" (.ref la_29)) (s3 : Fld Z ht84 b25 "com/example/hintikka/hintikka/domain/ConstraintNetwork" "relations" "[I" (.ref re_29)) (s4 : Fld Z ht84 b25 "com/example/hintikka/hintikka/domain/ConstraintNetwork" "rights" "[I" (.ref ri_29)) (s5 : Exa Z ht84 al_29 "java/util/ArrayList") (s6 : Fld Z ht84 al_29 "java/util/ArrayList" "size" "I" (.int (2 : Int32))) (q0 : Arv Z ht84 b1 k1 .int (3 : Int32) [(.int (0 : Int32)), (.int (1 : Int32)), (.int (1 : Int32))] (.int (0 : Int32))) (q1 : Arv Z ht84 b8 k8 .int (3 : Int32) [(.int (1 : Int32)), (.int (0 : Int32)), (.int (1 : Int32))] (.int (0 : Int32))) (q2 : Arv Z ht84 b16 k16 .int (3 : Int32) [(.int p2), (.int p3), (.int p4)] (.int (0 : Int32))) (sq : Fld Z ht84 b25 "com/example/hintikka/hintikka/domain/ConstraintNetwork" "size" "I" (.int (3 : Int32))) (z0 : Arv Z ht84 la_29 ka_29 .int (16 : Int32) [(.int (0 : Int32)), (.int (1 : Int32)), (.int (1 : Int32)), (.int ya3)] (.int (0 : Int32))) (z1 : Arv Z ht84 re_29 ke_29 .int (16 : Int32) [(.int p2), (.int p3), (.int p4), (.int yb3)] (.int (0 : Int32))) (z2 : Arv Z ht84 ri_29 ki_29 .int (16 : Int32) [(.int (1 : Int32)), (.int (0 : Int32)), (.int (1 : Int32)), (.int yc3)] (.int (0 : Int32))) (Zt84 : n0 ≤ ht84.size) (Ot84 : Old Z n0 ht84), own_Go p.tables e below (fun u o => ∃ v L, o = .returned v ∧ Q_rm0 Z p0 p1 p2 p3 p4 p5 de kd h0 n0 v u.heap L ∧ FrameEnd s o u L room_1.cells room_1.slots) (Tt84.setTop (mkF m 164 #[.val (.int p0), .val (.int p1), .val (.int p2), .val (.int p3), .val (.int p4), .val (.int p5), .val (.ref b1), .val (.ref b8), .val (.ref b16), .val (.ref b25), sk, .val (.int (3 : Int32)), .unset] [])) := by
    intro Tt84 Lt84 Xt84 ht84 et84 Nt84 sk ya3 yb3 yc3 s0 s1 s2 s3 s4 s5 s6 q0 q1 q2 sq z0 z1 z2 Zt84 Ot84
    refine own_up (fun _ k => XS.aload Xt84.here hx rfl (hb hby at_164) rfl rfl k) ?_
    show own_Go p.tables e below _ (Tt84.setTop (mkF m 166 #[.val (.int p0), .val (.int p1), .val (.int p2), .val (.int p3), .val (.int p4), .val (.int p5), .val (.ref b1), .val (.ref b8), .val (.ref b16), .val (.ref b25), sk, .val (.int (3 : Int32)), .unset] [(.ref b25)]))
    obtain ⟨cq85, kq85, q85a, q85b, q85c⟩ := isOf hZ et84 s0
    obtain ⟨_, _, ⟨T85, L85, k85, n85⟩, -, X85, ⟨Lc85, hQ85, l85, y85, z85⟩, st85⟩ := Xt84.virtualBack hx (y := (⟨"com/example/hintikka/hintikka/domain/ConstraintNetwork", "size", "()I"⟩ : MethodName)) (z := (⟨"com/example/hintikka/hintikka/domain/ConstraintNetwork", "size", "()I"⟩ : MethodName)) hown (mvT hZ (hw _ (List.mem_of_getElem? (i := 114) rfl))) (mvT hZ (hw _ (List.mem_of_getElem? (i := 115) rfl))) (notFace_of_selects (args := #[]) (mvT hZ (hw _ (List.mem_of_getElem? (i := 117) rfl)))) (mvT hZ (hw _ (List.mem_of_getElem? (i := 117) rfl))) (mvT hZ (hw _ (List.mem_of_getElem? (i := 116) rfl))) (by decide) (backOf (W := 0) (rmQ l Z a0 hw [] b25 (3 : Int32) ht84 n0 Zt84 sq) hZ (hw _ (List.mem_of_getElem? (i := 118) rfl)) (hw _ (List.mem_of_getElem? (i := 3) rfl)) (by decide) (by decide)) q85a q85c (g := (mkF m 166 #[.val (.int p0), .val (.int p1), .val (.int p2), .val (.int p3), .val (.int p4), .val (.int p5), .val (.ref b1), .val (.ref b8), .val (.ref b16), .val (.ref b25), sk, .val (.int (3 : Int32)), .unset] [(.ref b25)])) rfl (by rw [hml]; rfl) (Steps.refl _) (argsL := []) (rest := []) (lenOf own_pd6 rfl) rfl (by show 2 * 0 + _ ≤ _; exact Nat.le_of_eq rfl) (hb hby at_166) (fun _ _ => ⟨rfl, et84, (by decide : 10 + 0 ≤ _), (by decide : 84 + 0 ≤ _)⟩)
    dsimp only [Pt.U, Pt.locs, Pt.cells, Pt.slots] at X85 l85 y85 z85 st85 hQ85
    subst l85 y85 z85
    obtain ⟨rfl, N85q, eq85⟩ := hQ85
    have N85 := Fr.app Nt84 N85q
    refine own_up (fun _ k => st85.trans k) ?_
    show own_Go p.tables e below _ (T85.setTop (mkF m 169 #[.val (.int p0), .val (.int p1), .val (.int p2), .val (.int p3), .val (.int p4), .val (.int p5), .val (.ref b1), .val (.ref b8), .val (.ref b16), .val (.ref b25), sk, .val (.int (3 : Int32)), .unset] [(.int (3 : Int32))]))
    refine own_up (fun _ k => XS.iload X85.here hx rfl (hb hby at_169) rfl k) ?_
    show own_Go p.tables e below _ (T85.setTop (mkF m 171 #[.val (.int p0), .val (.int p1), .val (.int p2), .val (.int p3), .val (.int p4), .val (.int p5), .val (.ref b1), .val (.ref b8), .val (.ref b16), .val (.ref b25), sk, .val (.int (3 : Int32)), .unset] [(.int (3 : Int32)), (.int (3 : Int32))]))
    refine own_up (fun _ k => XS.icmpNo X85.here hx rfl (hb hby at_171) rfl (teq rfl).2 k) ?_
    show own_Go p.tables e below _ (T85.setTop (mkF m 174 #[.val (.int p0), .val (.int p1), .val (.int p2), .val (.int p3), .val (.int p4), .val (.int p5), .val (.ref b1), .val (.ref b8), .val (.ref b16), .val (.ref b25), sk, .val (.int (3 : Int32)), .unset] []))
    refine own_up (fun _ k => XS.aload X85.here hx rfl (hb hby at_174) rfl rfl k) ?_
    show own_Go p.tables e below _ (T85.setTop (mkF m 176 #[.val (.int p0), .val (.int p1), .val (.int p2), .val (.int p3), .val (.int p4), .val (.int p5), .val (.ref b1), .val (.ref b8), .val (.ref b16), .val (.ref b25), sk, .val (.int (3 : Int32)), .unset] [(.ref b25)]))
    obtain ⟨cq86, kq86, q86a, q86b, q86c⟩ := isOf hZ eq85 s0
    obtain ⟨_, _, ⟨T86, L86, k86, n86⟩, -, X86, ⟨Lc86, hQ86, l86, y86, z86⟩, st86⟩ := X85.virtualBack hx (y := (⟨"com/example/hintikka/hintikka/domain/ConstraintNetwork", "getVariableCount", "()I"⟩ : MethodName)) (z := (⟨"com/example/hintikka/hintikka/domain/ConstraintNetwork", "getVariableCount", "()I"⟩ : MethodName)) hown (mvT hZ (hw _ (List.mem_of_getElem? (i := 119) rfl))) (mvT hZ (hw _ (List.mem_of_getElem? (i := 120) rfl))) (notFace_of_selects (args := #[]) (mvT hZ (hw _ (List.mem_of_getElem? (i := 122) rfl)))) (mvT hZ (hw _ (List.mem_of_getElem? (i := 122) rfl))) (mvT hZ (hw _ (List.mem_of_getElem? (i := 121) rfl))) (by decide) (backOf (W := 0) (rmVC l Z a0 hw [] b25 al_29 ht84 n0 Zt84 s1 s5 s6) hZ (hw _ (List.mem_of_getElem? (i := 123) rfl)) (hw _ (List.mem_of_getElem? (i := 3) rfl)) (by decide) (by decide)) q86a q86c (g := (mkF m 176 #[.val (.int p0), .val (.int p1), .val (.int p2), .val (.int p3), .val (.int p4), .val (.int p5), .val (.ref b1), .val (.ref b8), .val (.ref b16), .val (.ref b25), sk, .val (.int (3 : Int32)), .unset] [(.ref b25)])) rfl (by rw [hml]; rfl) (Steps.refl _) (argsL := []) (rest := []) (lenOf own_pd6 rfl) rfl (by show 2 * 0 + _ ≤ _; exact Nat.le_of_eq rfl) (hb hby at_176) (fun _ _ => ⟨rfl, eq85, (by decide : 10 + 0 ≤ _), (by decide : 84 + 0 ≤ _)⟩)
    dsimp only [Pt.U, Pt.locs, Pt.cells, Pt.slots] at X86 l86 y86 z86 st86 hQ86
    subst l86 y86 z86
    obtain ⟨rfl, N86q, eq86⟩ := hQ86
    have N86 := Fr.app N85 N86q
    refine own_up (fun _ k => st86.trans k) ?_
    show own_Go p.tables e below _ (T86.setTop (mkF m 179 #[.val (.int p0), .val (.int p1), .val (.int p2), .val (.int p3), .val (.int p4), .val (.int p5), .val (.ref b1), .val (.ref b8), .val (.ref b16), .val (.ref b25), sk, .val (.int (3 : Int32)), .unset] [(.int (2 : Int32))]))
    refine own_up (fun _ k => XS.iconst X86.here hx rfl (hb hby at_179) k) ?_
    show own_Go p.tables e below _ (T86.setTop (mkF m 180 #[.val (.int p0), .val (.int p1), .val (.int p2), .val (.int p3), .val (.int p4), .val (.int p5), .val (.ref b1), .val (.ref b8), .val (.ref b16), .val (.ref b25), sk, .val (.int (3 : Int32)), .unset] [(.int (2 : Int32)), (.int (2 : Int32))]))
    refine own_up (fun _ k => XS.icmpNo X86.here hx rfl (hb hby at_180) rfl (teq rfl).2 k) ?_
    show own_Go p.tables e below _ (T86.setTop (mkF m 183 #[.val (.int p0), .val (.int p1), .val (.int p2), .val (.int p3), .val (.int p4), .val (.int p5), .val (.ref b1), .val (.ref b8), .val (.ref b16), .val (.ref b25), sk, .val (.int (3 : Int32)), .unset] []))
    refine own_up (fun _ k => XS.iconst X86.here hx rfl (hb hby at_183) k) ?_
    show own_Go p.tables e below _ (T86.setTop (mkF m 184 #[.val (.int p0), .val (.int p1), .val (.int p2), .val (.int p3), .val (.int p4), .val (.int p5), .val (.ref b1), .val (.ref b8), .val (.ref b16), .val (.ref b25), sk, .val (.int (3 : Int32)), .unset] [(.int (1 : Int32))]))
    refine own_up (fun _ k => XS.goto X86.here hx rfl (pc0 := 184) (pc' := 188) rfl (hb hby at_184) (by decide) (by decide) k) ?_
    show own_Go p.tables e below _ (T86.setTop (mkF m 188 #[.val (.int p0), .val (.int p1), .val (.int p2), .val (.int p3), .val (.int p4), .val (.int p5), .val (.ref b1), .val (.ref b8), .val (.ref b16), .val (.ref b25), sk, .val (.int (3 : Int32)), .unset] [(.int (1 : Int32))]))
    refine own_up (fun _ k => XS.istore X86.here hx rfl (hb hby at_188) rfl (l' := #[.val (.int p0), .val (.int p1), .val (.int p2), .val (.int p3), .val (.int p4), .val (.int p5), .val (.ref b1), .val (.ref b8), .val (.ref b16), .val (.ref b25), sk, .val (.int (3 : Int32)), .val (.int (1 : Int32))]) rfl k) ?_
    show own_Go p.tables e below _ (T86.setTop (mkF m 190 #[.val (.int p0), .val (.int p1), .val (.int p2), .val (.int p3), .val (.int p4), .val (.int p5), .val (.ref b1), .val (.ref b8), .val (.ref b16), .val (.ref b25), sk, .val (.int (3 : Int32)), .val (.int (1 : Int32))] []))
    refine own_up (fun _ k => XS.iload X86.here hx rfl (hb hby at_190) rfl k) ?_
    show own_Go p.tables e below _ (T86.setTop (mkF m 192 #[.val (.int p0), .val (.int p1), .val (.int p2), .val (.int p3), .val (.int p4), .val (.int p5), .val (.ref b1), .val (.ref b8), .val (.ref b16), .val (.ref b25), sk, .val (.int (3 : Int32)), .val (.int (1 : Int32))] [(.int (3 : Int32))]))
    refine own_up (fun _ k => XS.iconst X86.here hx rfl (hb hby at_192) k) ?_
    show own_Go p.tables e below _ (T86.setTop (mkF m 193 #[.val (.int p0), .val (.int p1), .val (.int p2), .val (.int p3), .val (.int p4), .val (.int p5), .val (.ref b1), .val (.ref b8), .val (.ref b16), .val (.ref b25), sk, .val (.int (3 : Int32)), .val (.int (1 : Int32))] [(.int (1 : Int32)), (.int (3 : Int32))]))
    refine own_up (fun _ k => XS.icmpNo X86.here hx rfl (hb hby at_193) rfl (flt (by decide)).1 k) ?_
    show own_Go p.tables e below _ (T86.setTop (mkF m 196 #[.val (.int p0), .val (.int p1), .val (.int p2), .val (.int p3), .val (.int p4), .val (.int p5), .val (.ref b1), .val (.ref b8), .val (.ref b16), .val (.ref b25), sk, .val (.int (3 : Int32)), .val (.int (1 : Int32))] []))
    refine own_up (fun _ k => XS.iload X86.here hx rfl (hb hby at_196) rfl k) ?_
    show own_Go p.tables e below _ (T86.setTop (mkF m 198 #[.val (.int p0), .val (.int p1), .val (.int p2), .val (.int p3), .val (.int p4), .val (.int p5), .val (.ref b1), .val (.ref b8), .val (.ref b16), .val (.ref b25), sk, .val (.int (3 : Int32)), .val (.int (1 : Int32))] [(.int (1 : Int32))]))
    refine own_up (fun _ k => XS.ifNo X86.here hx rfl (hb hby at_198) rfl ((if0 _ _).trans (feq (by decide)).1) k) ?_
    show own_Go p.tables e below _ (T86.setTop (mkF m 201 #[.val (.int p0), .val (.int p1), .val (.int p2), .val (.int p3), .val (.int p4), .val (.int p5), .val (.ref b1), .val (.ref b8), .val (.ref b16), .val (.ref b25), sk, .val (.int (3 : Int32)), .val (.int (1 : Int32))] []))
    refine own_up (fun _ k => XS.aload X86.here hx rfl (hb hby at_201) rfl rfl k) ?_
    show own_Go p.tables e below _ (T86.setTop (mkF m 203 #[.val (.int p0), .val (.int p1), .val (.int p2), .val (.int p3), .val (.int p4), .val (.int p5), .val (.ref b1), .val (.ref b8), .val (.ref b16), .val (.ref b25), sk, .val (.int (3 : Int32)), .val (.int (1 : Int32))] [(.ref b25)]))
    refine own_up (fun _ k => XS.iload X86.here hx rfl (hb hby at_203) rfl k) ?_
    show own_Go p.tables e below _ (T86.setTop (mkF m 205 #[.val (.int p0), .val (.int p1), .val (.int p2), .val (.int p3), .val (.int p4), .val (.int p5), .val (.ref b1), .val (.ref b8), .val (.ref b16), .val (.ref b25), sk, .val (.int (3 : Int32)), .val (.int (1 : Int32))] [(.int (3 : Int32)), (.ref b25)]))
    refine own_up (fun _ k => XS.iconst X86.here hx rfl (hb hby at_205) k) ?_
    show own_Go p.tables e below _ (T86.setTop (mkF m 206 #[.val (.int p0), .val (.int p1), .val (.int p2), .val (.int p3), .val (.int p4), .val (.int p5), .val (.ref b1), .val (.ref b8), .val (.ref b16), .val (.ref b25), sk, .val (.int (3 : Int32)), .val (.int (1 : Int32))] [(.int (1 : Int32)), (.int (3 : Int32)), (.ref b25)]))
    refine own_up (fun _ k => XS.isub X86.here hx rfl (hb hby at_206) rfl k) ?_
    show own_Go p.tables e below _ (T86.setTop (mkF m 207 #[.val (.int p0), .val (.int p1), .val (.int p2), .val (.int p3), .val (.int p4), .val (.int p5), .val (.ref b1), .val (.ref b8), .val (.ref b16), .val (.ref b25), sk, .val (.int (3 : Int32)), .val (.int (1 : Int32))] [(.int (2 : Int32)), (.ref b25)]))
    obtain ⟨cq87, kq87, q87a, q87b, q87c⟩ := isOf hZ eq86 s0
    obtain ⟨_, _, ⟨T87, L87, k87, n87⟩, -, X87, ⟨Lc87, hQ87, l87, y87, z87⟩, st87⟩ := X86.virtualBack hx (y := (⟨"com/example/hintikka/hintikka/domain/ConstraintNetwork", "getLeft", "(I)I"⟩ : MethodName)) (z := (⟨"com/example/hintikka/hintikka/domain/ConstraintNetwork", "getLeft", "(I)I"⟩ : MethodName)) hown (mvT hZ (hw _ (List.mem_of_getElem? (i := 142) rfl))) (mvT hZ (hw _ (List.mem_of_getElem? (i := 143) rfl))) (notFace_of_selects (args := #[]) (mvT hZ (hw _ (List.mem_of_getElem? (i := 145) rfl)))) (mvT hZ (hw _ (List.mem_of_getElem? (i := 145) rfl))) (mvT hZ (hw _ (List.mem_of_getElem? (i := 144) rfl))) (by decide) (backOf (W := 0) (rmGL l Z a0 hw [] b25 (2 : Int32) (3 : Int32) la_29 ka_29 [(.int (0 : Int32)), (.int (1 : Int32)), (.int (1 : Int32)), (.int ya3)] (1 : Int32) ht84 n0 Zt84 s0 sq s2 z0 (by decide) (by decide) ⟨by decide, by decide⟩ rfl) hZ (hw _ (List.mem_of_getElem? (i := 146) rfl)) (hw _ (List.mem_of_getElem? (i := 3) rfl)) (by decide) (by decide)) q87a q87c (g := (mkF m 207 #[.val (.int p0), .val (.int p1), .val (.int p2), .val (.int p3), .val (.int p4), .val (.int p5), .val (.ref b1), .val (.ref b8), .val (.ref b16), .val (.ref b25), sk, .val (.int (3 : Int32)), .val (.int (1 : Int32))] [(.int (2 : Int32)), (.ref b25)])) rfl (by rw [hml]; rfl) (Steps.refl _) (argsL := [(.int (2 : Int32))]) (rest := []) (lenOf own_pd7 rfl) rfl (by show 2 * 0 + _ ≤ _; exact Nat.le_of_eq rfl) (hb hby at_207) (fun _ _ => ⟨rfl, eq86, (by decide : 10 + 0 ≤ _), (by decide : 84 + 0 ≤ _)⟩)
    dsimp only [Pt.U, Pt.locs, Pt.cells, Pt.slots] at X87 l87 y87 z87 st87 hQ87
    subst l87 y87 z87
    obtain ⟨rfl, N87q, eq87⟩ := hQ87
    have N87 := Fr.app N86 N87q
    refine own_up (fun _ k => st87.trans k) ?_
    show own_Go p.tables e below _ (T87.setTop (mkF m 210 #[.val (.int p0), .val (.int p1), .val (.int p2), .val (.int p3), .val (.int p4), .val (.int p5), .val (.ref b1), .val (.ref b8), .val (.ref b16), .val (.ref b25), sk, .val (.int (3 : Int32)), .val (.int (1 : Int32))] [(.int (1 : Int32))]))
    refine own_up (fun _ k => XS.aload X87.here hx rfl (hb hby at_210) rfl rfl k) ?_
    show own_Go p.tables e below _ (T87.setTop (mkF m 212 #[.val (.int p0), .val (.int p1), .val (.int p2), .val (.int p3), .val (.int p4), .val (.int p5), .val (.ref b1), .val (.ref b8), .val (.ref b16), .val (.ref b25), sk, .val (.int (3 : Int32)), .val (.int (1 : Int32))] [(.ref b1), (.int (1 : Int32))]))
    refine own_up (fun _ k => XS.iload X87.here hx rfl (hb hby at_212) rfl k) ?_
    show own_Go p.tables e below _ (T87.setTop (mkF m 214 #[.val (.int p0), .val (.int p1), .val (.int p2), .val (.int p3), .val (.int p4), .val (.int p5), .val (.ref b1), .val (.ref b8), .val (.ref b16), .val (.ref b25), sk, .val (.int (3 : Int32)), .val (.int (1 : Int32))] [(.int (3 : Int32)), (.ref b1), (.int (1 : Int32))]))
    refine own_up (fun _ k => XS.iconst X87.here hx rfl (hb hby at_214) k) ?_
    show own_Go p.tables e below _ (T87.setTop (mkF m 215 #[.val (.int p0), .val (.int p1), .val (.int p2), .val (.int p3), .val (.int p4), .val (.int p5), .val (.ref b1), .val (.ref b8), .val (.ref b16), .val (.ref b25), sk, .val (.int (3 : Int32)), .val (.int (1 : Int32))] [(.int (1 : Int32)), (.int (3 : Int32)), (.ref b1), (.int (1 : Int32))]))
    refine own_up (fun _ k => XS.isub X87.here hx rfl (hb hby at_215) rfl k) ?_
    show own_Go p.tables e below _ (T87.setTop (mkF m 216 #[.val (.int p0), .val (.int p1), .val (.int p2), .val (.int p3), .val (.int p4), .val (.int p5), .val (.ref b1), .val (.ref b8), .val (.ref b16), .val (.ref b25), sk, .val (.int (3 : Int32)), .val (.int (1 : Int32))] [(.int (2 : Int32)), (.ref b1), (.int (1 : Int32))]))
    obtain ⟨cl88_, Ar88, q88, S88, M88, Hs88, G88⟩ := id (q0)
    have hin89 : ¬ ((2 : Int32) < 0 ∨ cl88_.slots.size ≤ ((2 : Int32)).toNatClampNeg) := inb_of S88 ⟨by decide, by decide⟩
    have hat89 : cl88_.slots[((2 : Int32)).toNatClampNeg]? = some (.int (1 : Int32)) := Has.at Hs88 hin89 rfl
    refine own_up (fun _ k => X87.iaload hx (j := (2 : Int32)) (v := (.int (1 : Int32))) (by rw [eq87]; exact Ar88.1) (State.isArrayOf_alike hZ.alike Ar88.2.1) Ar88.2.2 hin89 hat89 (g := (mkF m 216 #[.val (.int p0), .val (.int p1), .val (.int p2), .val (.int p3), .val (.int p4), .val (.int p5), .val (.ref b1), .val (.ref b8), .val (.ref b16), .val (.ref b25), sk, .val (.int (3 : Int32)), .val (.int (1 : Int32))] [(.int (2 : Int32)), (.ref b1), (.int (1 : Int32))])) rfl rfl (hb hby at_216) _ k) ?_
    show own_Go p.tables e below _ (T87.setTop (mkF m 217 #[.val (.int p0), .val (.int p1), .val (.int p2), .val (.int p3), .val (.int p4), .val (.int p5), .val (.ref b1), .val (.ref b8), .val (.ref b16), .val (.ref b25), sk, .val (.int (3 : Int32)), .val (.int (1 : Int32))] [(.int (1 : Int32)), (.int (1 : Int32))]))
    refine own_up (fun _ k => XS.icmpNo X87.here hx rfl (hb hby at_217) rfl (teq rfl).2 k) ?_
    show own_Go p.tables e below _ (T87.setTop (mkF m 220 #[.val (.int p0), .val (.int p1), .val (.int p2), .val (.int p3), .val (.int p4), .val (.int p5), .val (.ref b1), .val (.ref b8), .val (.ref b16), .val (.ref b25), sk, .val (.int (3 : Int32)), .val (.int (1 : Int32))] []))
    refine own_up (fun _ k => XS.aload X87.here hx rfl (hb hby at_220) rfl rfl k) ?_
    show own_Go p.tables e below _ (T87.setTop (mkF m 222 #[.val (.int p0), .val (.int p1), .val (.int p2), .val (.int p3), .val (.int p4), .val (.int p5), .val (.ref b1), .val (.ref b8), .val (.ref b16), .val (.ref b25), sk, .val (.int (3 : Int32)), .val (.int (1 : Int32))] [(.ref b25)]))
    refine own_up (fun _ k => XS.iload X87.here hx rfl (hb hby at_222) rfl k) ?_
    show own_Go p.tables e below _ (T87.setTop (mkF m 224 #[.val (.int p0), .val (.int p1), .val (.int p2), .val (.int p3), .val (.int p4), .val (.int p5), .val (.ref b1), .val (.ref b8), .val (.ref b16), .val (.ref b25), sk, .val (.int (3 : Int32)), .val (.int (1 : Int32))] [(.int (3 : Int32)), (.ref b25)]))
    refine own_up (fun _ k => XS.iconst X87.here hx rfl (hb hby at_224) k) ?_
    show own_Go p.tables e below _ (T87.setTop (mkF m 225 #[.val (.int p0), .val (.int p1), .val (.int p2), .val (.int p3), .val (.int p4), .val (.int p5), .val (.ref b1), .val (.ref b8), .val (.ref b16), .val (.ref b25), sk, .val (.int (3 : Int32)), .val (.int (1 : Int32))] [(.int (1 : Int32)), (.int (3 : Int32)), (.ref b25)]))
    refine own_up (fun _ k => XS.isub X87.here hx rfl (hb hby at_225) rfl k) ?_
    show own_Go p.tables e below _ (T87.setTop (mkF m 226 #[.val (.int p0), .val (.int p1), .val (.int p2), .val (.int p3), .val (.int p4), .val (.int p5), .val (.ref b1), .val (.ref b8), .val (.ref b16), .val (.ref b25), sk, .val (.int (3 : Int32)), .val (.int (1 : Int32))] [(.int (2 : Int32)), (.ref b25)]))
    obtain ⟨cq90, kq90, q90a, q90b, q90c⟩ := isOf hZ eq87 s0
    obtain ⟨_, _, ⟨T90, L90, k90, n90⟩, -, X90, ⟨Lc90, hQ90, l90, y90, z90⟩, st90⟩ := X87.virtualBack hx (y := (⟨"com/example/hintikka/hintikka/domain/ConstraintNetwork", "getRelations", "(I)I"⟩ : MethodName)) (z := (⟨"com/example/hintikka/hintikka/domain/ConstraintNetwork", "getRelations", "(I)I"⟩ : MethodName)) hown (mvT hZ (hw _ (List.mem_of_getElem? (i := 133) rfl))) (mvT hZ (hw _ (List.mem_of_getElem? (i := 134) rfl))) (notFace_of_selects (args := #[]) (mvT hZ (hw _ (List.mem_of_getElem? (i := 136) rfl)))) (mvT hZ (hw _ (List.mem_of_getElem? (i := 136) rfl))) (mvT hZ (hw _ (List.mem_of_getElem? (i := 135) rfl))) (by decide) (backOf (W := 0) (rmGE l Z a0 hw [] b25 (2 : Int32) (3 : Int32) re_29 ke_29 [(.int p2), (.int p3), (.int p4), (.int yb3)] p4 ht84 n0 Zt84 s0 sq s3 z1 (by decide) (by decide) ⟨by decide, by decide⟩ rfl) hZ (hw _ (List.mem_of_getElem? (i := 137) rfl)) (hw _ (List.mem_of_getElem? (i := 3) rfl)) (by decide) (by decide)) q90a q90c (g := (mkF m 226 #[.val (.int p0), .val (.int p1), .val (.int p2), .val (.int p3), .val (.int p4), .val (.int p5), .val (.ref b1), .val (.ref b8), .val (.ref b16), .val (.ref b25), sk, .val (.int (3 : Int32)), .val (.int (1 : Int32))] [(.int (2 : Int32)), (.ref b25)])) rfl (by rw [hml]; rfl) (Steps.refl _) (argsL := [(.int (2 : Int32))]) (rest := []) (lenOf own_pd7 rfl) rfl (by show 2 * 0 + _ ≤ _; exact Nat.le_of_eq rfl) (hb hby at_226) (fun _ _ => ⟨rfl, eq87, (by decide : 10 + 0 ≤ _), (by decide : 84 + 0 ≤ _)⟩)
    dsimp only [Pt.U, Pt.locs, Pt.cells, Pt.slots] at X90 l90 y90 z90 st90 hQ90
    subst l90 y90 z90
    obtain ⟨rfl, N90q, eq90⟩ := hQ90
    have N90 := Fr.app N87 N90q
    refine own_up (fun _ k => st90.trans k) ?_
    show own_Go p.tables e below _ (T90.setTop (mkF m 229 #[.val (.int p0), .val (.int p1), .val (.int p2), .val (.int p3), .val (.int p4), .val (.int p5), .val (.ref b1), .val (.ref b8), .val (.ref b16), .val (.ref b25), sk, .val (.int (3 : Int32)), .val (.int (1 : Int32))] [(.int p4)]))
    refine own_up (fun _ k => XS.aload X90.here hx rfl (hb hby at_229) rfl rfl k) ?_
    show own_Go p.tables e below _ (T90.setTop (mkF m 231 #[.val (.int p0), .val (.int p1), .val (.int p2), .val (.int p3), .val (.int p4), .val (.int p5), .val (.ref b1), .val (.ref b8), .val (.ref b16), .val (.ref b25), sk, .val (.int (3 : Int32)), .val (.int (1 : Int32))] [(.ref b16), (.int p4)]))
    refine own_up (fun _ k => XS.iload X90.here hx rfl (hb hby at_231) rfl k) ?_
    show own_Go p.tables e below _ (T90.setTop (mkF m 233 #[.val (.int p0), .val (.int p1), .val (.int p2), .val (.int p3), .val (.int p4), .val (.int p5), .val (.ref b1), .val (.ref b8), .val (.ref b16), .val (.ref b25), sk, .val (.int (3 : Int32)), .val (.int (1 : Int32))] [(.int (3 : Int32)), (.ref b16), (.int p4)]))
    refine own_up (fun _ k => XS.iconst X90.here hx rfl (hb hby at_233) k) ?_
    show own_Go p.tables e below _ (T90.setTop (mkF m 234 #[.val (.int p0), .val (.int p1), .val (.int p2), .val (.int p3), .val (.int p4), .val (.int p5), .val (.ref b1), .val (.ref b8), .val (.ref b16), .val (.ref b25), sk, .val (.int (3 : Int32)), .val (.int (1 : Int32))] [(.int (1 : Int32)), (.int (3 : Int32)), (.ref b16), (.int p4)]))
    refine own_up (fun _ k => XS.isub X90.here hx rfl (hb hby at_234) rfl k) ?_
    show own_Go p.tables e below _ (T90.setTop (mkF m 235 #[.val (.int p0), .val (.int p1), .val (.int p2), .val (.int p3), .val (.int p4), .val (.int p5), .val (.ref b1), .val (.ref b8), .val (.ref b16), .val (.ref b25), sk, .val (.int (3 : Int32)), .val (.int (1 : Int32))] [(.int (2 : Int32)), (.ref b16), (.int p4)]))
    obtain ⟨cl91_, Ar91, q91, S91, M91, Hs91, G91⟩ := id (q2)
    have hin92 : ¬ ((2 : Int32) < 0 ∨ cl91_.slots.size ≤ ((2 : Int32)).toNatClampNeg) := inb_of S91 ⟨by decide, by decide⟩
    have hat92 : cl91_.slots[((2 : Int32)).toNatClampNeg]? = some (.int p4) := Has.at Hs91 hin92 rfl
    refine own_up (fun _ k => X90.iaload hx (j := (2 : Int32)) (v := (.int p4)) (by rw [eq90]; exact Ar91.1) (State.isArrayOf_alike hZ.alike Ar91.2.1) Ar91.2.2 hin92 hat92 (g := (mkF m 235 #[.val (.int p0), .val (.int p1), .val (.int p2), .val (.int p3), .val (.int p4), .val (.int p5), .val (.ref b1), .val (.ref b8), .val (.ref b16), .val (.ref b25), sk, .val (.int (3 : Int32)), .val (.int (1 : Int32))] [(.int (2 : Int32)), (.ref b16), (.int p4)])) rfl rfl (hb hby at_235) _ k) ?_
    show own_Go p.tables e below _ (T90.setTop (mkF m 236 #[.val (.int p0), .val (.int p1), .val (.int p2), .val (.int p3), .val (.int p4), .val (.int p5), .val (.ref b1), .val (.ref b8), .val (.ref b16), .val (.ref b25), sk, .val (.int (3 : Int32)), .val (.int (1 : Int32))] [(.int p4), (.int p4)]))
    refine own_up (fun _ k => XS.icmpNo X90.here hx rfl (hb hby at_236) rfl (teq rfl).2 k) ?_
    show own_Go p.tables e below _ (T90.setTop (mkF m 239 #[.val (.int p0), .val (.int p1), .val (.int p2), .val (.int p3), .val (.int p4), .val (.int p5), .val (.ref b1), .val (.ref b8), .val (.ref b16), .val (.ref b25), sk, .val (.int (3 : Int32)), .val (.int (1 : Int32))] []))
    refine own_up (fun _ k => XS.aload X90.here hx rfl (hb hby at_239) rfl rfl k) ?_
    show own_Go p.tables e below _ (T90.setTop (mkF m 241 #[.val (.int p0), .val (.int p1), .val (.int p2), .val (.int p3), .val (.int p4), .val (.int p5), .val (.ref b1), .val (.ref b8), .val (.ref b16), .val (.ref b25), sk, .val (.int (3 : Int32)), .val (.int (1 : Int32))] [(.ref b25)]))
    refine own_up (fun _ k => XS.iload X90.here hx rfl (hb hby at_241) rfl k) ?_
    show own_Go p.tables e below _ (T90.setTop (mkF m 243 #[.val (.int p0), .val (.int p1), .val (.int p2), .val (.int p3), .val (.int p4), .val (.int p5), .val (.ref b1), .val (.ref b8), .val (.ref b16), .val (.ref b25), sk, .val (.int (3 : Int32)), .val (.int (1 : Int32))] [(.int (3 : Int32)), (.ref b25)]))
    refine own_up (fun _ k => XS.iconst X90.here hx rfl (hb hby at_243) k) ?_
    show own_Go p.tables e below _ (T90.setTop (mkF m 244 #[.val (.int p0), .val (.int p1), .val (.int p2), .val (.int p3), .val (.int p4), .val (.int p5), .val (.ref b1), .val (.ref b8), .val (.ref b16), .val (.ref b25), sk, .val (.int (3 : Int32)), .val (.int (1 : Int32))] [(.int (1 : Int32)), (.int (3 : Int32)), (.ref b25)]))
    refine own_up (fun _ k => XS.isub X90.here hx rfl (hb hby at_244) rfl k) ?_
    show own_Go p.tables e below _ (T90.setTop (mkF m 245 #[.val (.int p0), .val (.int p1), .val (.int p2), .val (.int p3), .val (.int p4), .val (.int p5), .val (.ref b1), .val (.ref b8), .val (.ref b16), .val (.ref b25), sk, .val (.int (3 : Int32)), .val (.int (1 : Int32))] [(.int (2 : Int32)), (.ref b25)]))
    obtain ⟨cq93, kq93, q93a, q93b, q93c⟩ := isOf hZ eq90 s0
    obtain ⟨_, _, ⟨T93, L93, k93, n93⟩, -, X93, ⟨Lc93, hQ93, l93, y93, z93⟩, st93⟩ := X90.virtualBack hx (y := (⟨"com/example/hintikka/hintikka/domain/ConstraintNetwork", "getRight", "(I)I"⟩ : MethodName)) (z := (⟨"com/example/hintikka/hintikka/domain/ConstraintNetwork", "getRight", "(I)I"⟩ : MethodName)) hown (mvT hZ (hw _ (List.mem_of_getElem? (i := 147) rfl))) (mvT hZ (hw _ (List.mem_of_getElem? (i := 148) rfl))) (notFace_of_selects (args := #[]) (mvT hZ (hw _ (List.mem_of_getElem? (i := 150) rfl)))) (mvT hZ (hw _ (List.mem_of_getElem? (i := 150) rfl))) (mvT hZ (hw _ (List.mem_of_getElem? (i := 149) rfl))) (by decide) (backOf (W := 0) (rmGR l Z a0 hw [] b25 (2 : Int32) (3 : Int32) ri_29 ki_29 [(.int (1 : Int32)), (.int (0 : Int32)), (.int (1 : Int32)), (.int yc3)] (1 : Int32) ht84 n0 Zt84 s0 sq s4 z2 (by decide) (by decide) ⟨by decide, by decide⟩ rfl) hZ (hw _ (List.mem_of_getElem? (i := 151) rfl)) (hw _ (List.mem_of_getElem? (i := 3) rfl)) (by decide) (by decide)) q93a q93c (g := (mkF m 245 #[.val (.int p0), .val (.int p1), .val (.int p2), .val (.int p3), .val (.int p4), .val (.int p5), .val (.ref b1), .val (.ref b8), .val (.ref b16), .val (.ref b25), sk, .val (.int (3 : Int32)), .val (.int (1 : Int32))] [(.int (2 : Int32)), (.ref b25)])) rfl (by rw [hml]; rfl) (Steps.refl _) (argsL := [(.int (2 : Int32))]) (rest := []) (lenOf own_pd7 rfl) rfl (by show 2 * 0 + _ ≤ _; exact Nat.le_of_eq rfl) (hb hby at_245) (fun _ _ => ⟨rfl, eq90, (by decide : 10 + 0 ≤ _), (by decide : 84 + 0 ≤ _)⟩)
    dsimp only [Pt.U, Pt.locs, Pt.cells, Pt.slots] at X93 l93 y93 z93 st93 hQ93
    subst l93 y93 z93
    obtain ⟨rfl, N93q, eq93⟩ := hQ93
    have N93 := Fr.app N90 N93q
    refine own_up (fun _ k => st93.trans k) ?_
    show own_Go p.tables e below _ (T93.setTop (mkF m 248 #[.val (.int p0), .val (.int p1), .val (.int p2), .val (.int p3), .val (.int p4), .val (.int p5), .val (.ref b1), .val (.ref b8), .val (.ref b16), .val (.ref b25), sk, .val (.int (3 : Int32)), .val (.int (1 : Int32))] [(.int (1 : Int32))]))
    refine own_up (fun _ k => XS.aload X93.here hx rfl (hb hby at_248) rfl rfl k) ?_
    show own_Go p.tables e below _ (T93.setTop (mkF m 250 #[.val (.int p0), .val (.int p1), .val (.int p2), .val (.int p3), .val (.int p4), .val (.int p5), .val (.ref b1), .val (.ref b8), .val (.ref b16), .val (.ref b25), sk, .val (.int (3 : Int32)), .val (.int (1 : Int32))] [(.ref b8), (.int (1 : Int32))]))
    refine own_up (fun _ k => XS.iload X93.here hx rfl (hb hby at_250) rfl k) ?_
    show own_Go p.tables e below _ (T93.setTop (mkF m 252 #[.val (.int p0), .val (.int p1), .val (.int p2), .val (.int p3), .val (.int p4), .val (.int p5), .val (.ref b1), .val (.ref b8), .val (.ref b16), .val (.ref b25), sk, .val (.int (3 : Int32)), .val (.int (1 : Int32))] [(.int (3 : Int32)), (.ref b8), (.int (1 : Int32))]))
    refine own_up (fun _ k => XS.iconst X93.here hx rfl (hb hby at_252) k) ?_
    show own_Go p.tables e below _ (T93.setTop (mkF m 253 #[.val (.int p0), .val (.int p1), .val (.int p2), .val (.int p3), .val (.int p4), .val (.int p5), .val (.ref b1), .val (.ref b8), .val (.ref b16), .val (.ref b25), sk, .val (.int (3 : Int32)), .val (.int (1 : Int32))] [(.int (1 : Int32)), (.int (3 : Int32)), (.ref b8), (.int (1 : Int32))]))
    refine own_up (fun _ k => XS.isub X93.here hx rfl (hb hby at_253) rfl k) ?_
    show own_Go p.tables e below _ (T93.setTop (mkF m 254 #[.val (.int p0), .val (.int p1), .val (.int p2), .val (.int p3), .val (.int p4), .val (.int p5), .val (.ref b1), .val (.ref b8), .val (.ref b16), .val (.ref b25), sk, .val (.int (3 : Int32)), .val (.int (1 : Int32))] [(.int (2 : Int32)), (.ref b8), (.int (1 : Int32))]))
    obtain ⟨cl94_, Ar94, q94, S94, M94, Hs94, G94⟩ := id (q1)
    have hin95 : ¬ ((2 : Int32) < 0 ∨ cl94_.slots.size ≤ ((2 : Int32)).toNatClampNeg) := inb_of S94 ⟨by decide, by decide⟩
    have hat95 : cl94_.slots[((2 : Int32)).toNatClampNeg]? = some (.int (1 : Int32)) := Has.at Hs94 hin95 rfl
    refine own_up (fun _ k => X93.iaload hx (j := (2 : Int32)) (v := (.int (1 : Int32))) (by rw [eq93]; exact Ar94.1) (State.isArrayOf_alike hZ.alike Ar94.2.1) Ar94.2.2 hin95 hat95 (g := (mkF m 254 #[.val (.int p0), .val (.int p1), .val (.int p2), .val (.int p3), .val (.int p4), .val (.int p5), .val (.ref b1), .val (.ref b8), .val (.ref b16), .val (.ref b25), sk, .val (.int (3 : Int32)), .val (.int (1 : Int32))] [(.int (2 : Int32)), (.ref b8), (.int (1 : Int32))])) rfl rfl (hb hby at_254) _ k) ?_
    show own_Go p.tables e below _ (T93.setTop (mkF m 255 #[.val (.int p0), .val (.int p1), .val (.int p2), .val (.int p3), .val (.int p4), .val (.int p5), .val (.ref b1), .val (.ref b8), .val (.ref b16), .val (.ref b25), sk, .val (.int (3 : Int32)), .val (.int (1 : Int32))] [(.int (1 : Int32)), (.int (1 : Int32))]))
    refine own_up (fun _ k => XS.icmpNo X93.here hx rfl (hb hby at_255) rfl (teq rfl).2 k) ?_
    show own_Go p.tables e below _ (T93.setTop (mkF m 258 #[.val (.int p0), .val (.int p1), .val (.int p2), .val (.int p3), .val (.int p4), .val (.int p5), .val (.ref b1), .val (.ref b8), .val (.ref b16), .val (.ref b25), sk, .val (.int (3 : Int32)), .val (.int (1 : Int32))] []))
    refine own_up (fun _ k => XS.iconst X93.here hx rfl (hb hby at_258) k) ?_
    show own_Go p.tables e below _ (T93.setTop (mkF m 259 #[.val (.int p0), .val (.int p1), .val (.int p2), .val (.int p3), .val (.int p4), .val (.int p5), .val (.ref b1), .val (.ref b8), .val (.ref b16), .val (.ref b25), sk, .val (.int (3 : Int32)), .val (.int (1 : Int32))] [(.int (1 : Int32))]))
    refine own_up (fun _ k => XS.goto X93.here hx rfl (pc0 := 259) (pc' := 263) rfl (hb hby at_259) (by decide) (by decide) k) ?_
    show own_Go p.tables e below _ (T93.setTop (mkF m 263 #[.val (.int p0), .val (.int p1), .val (.int p2), .val (.int p3), .val (.int p4), .val (.int p5), .val (.ref b1), .val (.ref b8), .val (.ref b16), .val (.ref b25), sk, .val (.int (3 : Int32)), .val (.int (1 : Int32))] [(.int (1 : Int32))]))
    refine own_up (fun _ k => XS.istore X93.here hx rfl (hb hby at_263) rfl (l' := #[.val (.int p0), .val (.int p1), .val (.int p2), .val (.int p3), .val (.int p4), .val (.int p5), .val (.ref b1), .val (.ref b8), .val (.ref b16), .val (.ref b25), sk, .val (.int (3 : Int32)), .val (.int (1 : Int32))]) rfl k) ?_
    show own_Go p.tables e below _ (T93.setTop (mkF m 265 #[.val (.int p0), .val (.int p1), .val (.int p2), .val (.int p3), .val (.int p4), .val (.int p5), .val (.ref b1), .val (.ref b8), .val (.ref b16), .val (.ref b25), sk, .val (.int (3 : Int32)), .val (.int (1 : Int32))] []))
    refine own_up (fun _ k => XS.aload X93.here hx rfl (hb hby at_265) rfl rfl k) ?_
    show own_Go p.tables e below _ (T93.setTop (mkF m 267 #[.val (.int p0), .val (.int p1), .val (.int p2), .val (.int p3), .val (.int p4), .val (.int p5), .val (.ref b1), .val (.ref b8), .val (.ref b16), .val (.ref b25), sk, .val (.int (3 : Int32)), .val (.int (1 : Int32))] [(.ref b25)]))
    refine own_up (fun _ k => XS.iconst X93.here hx rfl (hb hby at_267) k) ?_
    show own_Go p.tables e below _ (T93.setTop (mkF m 268 #[.val (.int p0), .val (.int p1), .val (.int p2), .val (.int p3), .val (.int p4), .val (.int p5), .val (.ref b1), .val (.ref b8), .val (.ref b16), .val (.ref b25), sk, .val (.int (3 : Int32)), .val (.int (1 : Int32))] [(.int (0 : Int32)), (.ref b25)]))
    refine own_up (fun _ k => XS.iload X93.here hx rfl (hb hby at_268) rfl k) ?_
    show own_Go p.tables e below _ (T93.setTop (mkF m 270 #[.val (.int p0), .val (.int p1), .val (.int p2), .val (.int p3), .val (.int p4), .val (.int p5), .val (.ref b1), .val (.ref b8), .val (.ref b16), .val (.ref b25), sk, .val (.int (3 : Int32)), .val (.int (1 : Int32))] [(.int p5), (.int (0 : Int32)), (.ref b25)]))
    refine own_up (fun _ k => XS.iconst X93.here hx rfl (hb hby at_270) k) ?_
    show own_Go p.tables e below _ (T93.setTop (mkF m 271 #[.val (.int p0), .val (.int p1), .val (.int p2), .val (.int p3), .val (.int p4), .val (.int p5), .val (.ref b1), .val (.ref b8), .val (.ref b16), .val (.ref b25), sk, .val (.int (3 : Int32)), .val (.int (1 : Int32))] [(.int (0 : Int32)), (.int p5), (.int (0 : Int32)), (.ref b25)]))
    obtain ⟨cq96, kq96, q96a, q96b, q96c⟩ := isOf hZ eq93 s0
    obtain ⟨_, _, ⟨T96, L96, k96, n96⟩, -, X96, ⟨Lc96, hQ96, l96, y96, z96⟩, st96⟩ := X93.virtualBack hx (y := (⟨"com/example/hintikka/hintikka/domain/ConstraintNetwork", "add", "(III)V"⟩ : MethodName)) (z := (⟨"com/example/hintikka/hintikka/domain/ConstraintNetwork", "add", "(III)V"⟩ : MethodName)) hown (mvT hZ (hw _ (List.mem_of_getElem? (i := 124) rfl))) (mvT hZ (hw _ (List.mem_of_getElem? (i := 125) rfl))) (notFace_of_selects (args := #[]) (mvT hZ (hw _ (List.mem_of_getElem? (i := 127) rfl)))) (mvT hZ (hw _ (List.mem_of_getElem? (i := 127) rfl))) (mvT hZ (hw _ (List.mem_of_getElem? (i := 126) rfl))) (by decide) (backOf (W := 0) (rmAd3 l Z a0 hw [] b25 (0 : Int32) p5 (0 : Int32) al_29 la_29 re_29 ri_29 ka_29 ke_29 ki_29 (0 : Int32) (1 : Int32) (1 : Int32) ya3 p2 p3 p4 yb3 (1 : Int32) (0 : Int32) (1 : Int32) yc3 ht84 n0 Zt84 s0 s1 s2 s3 s4 s5 s6 sq z0 z1 z2 ge25 P29_5 P29_6 P29_7 P29_8 P29_9 P29_10 P29_11 P29_12 P29_13 P29_14 P29_15 P29_16 P29_17 (by decide) (by decide) (by decide) (by decide)) hZ (hw _ (List.mem_of_getElem? (i := 128) rfl)) (hw _ (List.mem_of_getElem? (i := 3) rfl)) (by decide) (by decide)) q96a q96c (g := (mkF m 271 #[.val (.int p0), .val (.int p1), .val (.int p2), .val (.int p3), .val (.int p4), .val (.int p5), .val (.ref b1), .val (.ref b8), .val (.ref b16), .val (.ref b25), sk, .val (.int (3 : Int32)), .val (.int (1 : Int32))] [(.int (0 : Int32)), (.int p5), (.int (0 : Int32)), (.ref b25)])) rfl (by rw [hml]; rfl) (Steps.refl _) (argsL := [(.int (0 : Int32)), (.int p5), (.int (0 : Int32))]) (rest := []) (lenOf own_pd8 rfl) rfl (by show 2 * 0 + _ ≤ _; exact Nat.le_of_eq rfl) (hb hby at_271) (fun _ _ => ⟨rfl, eq93, (by decide : 10 + 0 ≤ _), (by decide : 84 + 0 ≤ _)⟩)
    dsimp only [Pt.U, Pt.locs, Pt.cells, Pt.slots] at X96 l96 y96 z96 st96 hQ96
    subst l96 y96 z96
    obtain ⟨rfl, N96q, K96, P96_0, P96_1, P96_2, P96_3, P96_4, P96_5, P96_6, P96_7, P96_8⟩ := hQ96
    have N96 := Fr.app N93 N96q
    refine own_up (fun _ k => st96.trans k) ?_
    show own_Go p.tables e below _ (T96.setTop (mkF m 274 #[.val (.int p0), .val (.int p1), .val (.int p2), .val (.int p3), .val (.int p4), .val (.int p5), .val (.ref b1), .val (.ref b8), .val (.ref b16), .val (.ref b25), sk, .val (.int (3 : Int32)), .val (.int (1 : Int32))] []))
    refine own_up (fun _ k => XS.iload X96.here hx rfl (hb hby at_274) rfl k) ?_
    show own_Go p.tables e below _ (T96.setTop (mkF m 276 #[.val (.int p0), .val (.int p1), .val (.int p2), .val (.int p3), .val (.int p4), .val (.int p5), .val (.ref b1), .val (.ref b8), .val (.ref b16), .val (.ref b25), sk, .val (.int (3 : Int32)), .val (.int (1 : Int32))] [(.int (1 : Int32))]))
    refine own_up (fun _ k => XS.ifNo X96.here hx rfl (hb hby at_276) rfl ((if0 _ _).trans (feq (by decide)).1) k) ?_
    show own_Go p.tables e below _ (T96.setTop (mkF m 279 #[.val (.int p0), .val (.int p1), .val (.int p2), .val (.int p3), .val (.int p4), .val (.int p5), .val (.ref b1), .val (.ref b8), .val (.ref b16), .val (.ref b25), sk, .val (.int (3 : Int32)), .val (.int (1 : Int32))] []))
    refine own_up (fun _ k => XS.aload X96.here hx rfl (hb hby at_279) rfl rfl k) ?_
    show own_Go p.tables e below _ (T96.setTop (mkF m 281 #[.val (.int p0), .val (.int p1), .val (.int p2), .val (.int p3), .val (.int p4), .val (.int p5), .val (.ref b1), .val (.ref b8), .val (.ref b16), .val (.ref b25), sk, .val (.int (3 : Int32)), .val (.int (1 : Int32))] [(.ref b25)]))
    have f98 : n0 ≤ T96.heap.size := (Nat.le_trans Zt84 K96.1)
    obtain ⟨cq97, kq97, q97a, q97b, q97c⟩ := isOf hZ rfl P96_0
    obtain ⟨_, _, ⟨T97, L97, k97, n97⟩, -, X97, ⟨Lc97, hQ97, l97, y97, z97⟩, st97⟩ := X96.virtualBack hx (y := (⟨"com/example/hintikka/hintikka/domain/ConstraintNetwork", "size", "()I"⟩ : MethodName)) (z := (⟨"com/example/hintikka/hintikka/domain/ConstraintNetwork", "size", "()I"⟩ : MethodName)) hown (mvT hZ (hw _ (List.mem_of_getElem? (i := 114) rfl))) (mvT hZ (hw _ (List.mem_of_getElem? (i := 115) rfl))) (notFace_of_selects (args := #[]) (mvT hZ (hw _ (List.mem_of_getElem? (i := 117) rfl)))) (mvT hZ (hw _ (List.mem_of_getElem? (i := 117) rfl))) (mvT hZ (hw _ (List.mem_of_getElem? (i := 116) rfl))) (by decide) (backOf (W := 0) (rmQ l Z a0 hw [] b25 (4 : Int32) T96.heap n0 f98 P96_5) hZ (hw _ (List.mem_of_getElem? (i := 118) rfl)) (hw _ (List.mem_of_getElem? (i := 3) rfl)) (by decide) (by decide)) q97a q97c (g := (mkF m 281 #[.val (.int p0), .val (.int p1), .val (.int p2), .val (.int p3), .val (.int p4), .val (.int p5), .val (.ref b1), .val (.ref b8), .val (.ref b16), .val (.ref b25), sk, .val (.int (3 : Int32)), .val (.int (1 : Int32))] [(.ref b25)])) rfl (by rw [hml]; rfl) (Steps.refl _) (argsL := []) (rest := []) (lenOf own_pd6 rfl) rfl (by show 2 * 0 + _ ≤ _; exact Nat.le_of_eq rfl) (hb hby at_281) (fun _ _ => ⟨rfl, rfl, (by decide : 10 + 0 ≤ _), (by decide : 84 + 0 ≤ _)⟩)
    dsimp only [Pt.U, Pt.locs, Pt.cells, Pt.slots] at X97 l97 y97 z97 st97 hQ97
    subst l97 y97 z97
    obtain ⟨rfl, N97q, eq97⟩ := hQ97
    have N97 := Fr.app N96 N97q
    refine own_up (fun _ k => st97.trans k) ?_
    show own_Go p.tables e below _ (T97.setTop (mkF m 284 #[.val (.int p0), .val (.int p1), .val (.int p2), .val (.int p3), .val (.int p4), .val (.int p5), .val (.ref b1), .val (.ref b8), .val (.ref b16), .val (.ref b25), sk, .val (.int (3 : Int32)), .val (.int (1 : Int32))] [(.int (4 : Int32))]))
    refine own_up (fun _ k => XS.iload X97.here hx rfl (hb hby at_284) rfl k) ?_
    show own_Go p.tables e below _ (T97.setTop (mkF m 286 #[.val (.int p0), .val (.int p1), .val (.int p2), .val (.int p3), .val (.int p4), .val (.int p5), .val (.ref b1), .val (.ref b8), .val (.ref b16), .val (.ref b25), sk, .val (.int (3 : Int32)), .val (.int (1 : Int32))] [(.int (3 : Int32)), (.int (4 : Int32))]))
    refine own_up (fun _ k => XS.iconst X97.here hx rfl (hb hby at_286) k) ?_
    show own_Go p.tables e below _ (T97.setTop (mkF m 287 #[.val (.int p0), .val (.int p1), .val (.int p2), .val (.int p3), .val (.int p4), .val (.int p5), .val (.ref b1), .val (.ref b8), .val (.ref b16), .val (.ref b25), sk, .val (.int (3 : Int32)), .val (.int (1 : Int32))] [(.int (1 : Int32)), (.int (3 : Int32)), (.int (4 : Int32))]))
    refine own_up (fun _ k => XS.iadd X97.here hx rfl (hb hby at_287) rfl k) ?_
    show own_Go p.tables e below _ (T97.setTop (mkF m 288 #[.val (.int p0), .val (.int p1), .val (.int p2), .val (.int p3), .val (.int p4), .val (.int p5), .val (.ref b1), .val (.ref b8), .val (.ref b16), .val (.ref b25), sk, .val (.int (3 : Int32)), .val (.int (1 : Int32))] [(.int (4 : Int32)), (.int (4 : Int32))]))
    refine own_up (fun _ k => XS.icmpNo X97.here hx rfl (hb hby at_288) rfl (teq rfl).2 k) ?_
    show own_Go p.tables e below _ (T97.setTop (mkF m 291 #[.val (.int p0), .val (.int p1), .val (.int p2), .val (.int p3), .val (.int p4), .val (.int p5), .val (.ref b1), .val (.ref b8), .val (.ref b16), .val (.ref b25), sk, .val (.int (3 : Int32)), .val (.int (1 : Int32))] []))
    refine own_up (fun _ k => XS.aload X97.here hx rfl (hb hby at_291) rfl rfl k) ?_
    show own_Go p.tables e below _ (T97.setTop (mkF m 293 #[.val (.int p0), .val (.int p1), .val (.int p2), .val (.int p3), .val (.int p4), .val (.int p5), .val (.ref b1), .val (.ref b8), .val (.ref b16), .val (.ref b25), sk, .val (.int (3 : Int32)), .val (.int (1 : Int32))] [(.ref b25)]))
    refine own_up (fun _ k => XS.iload X97.here hx rfl (hb hby at_293) rfl k) ?_
    show own_Go p.tables e below _ (T97.setTop (mkF m 295 #[.val (.int p0), .val (.int p1), .val (.int p2), .val (.int p3), .val (.int p4), .val (.int p5), .val (.ref b1), .val (.ref b8), .val (.ref b16), .val (.ref b25), sk, .val (.int (3 : Int32)), .val (.int (1 : Int32))] [(.int (3 : Int32)), (.ref b25)]))
    obtain ⟨cq99, kq99, q99a, q99b, q99c⟩ := isOf hZ eq97 P96_0
    obtain ⟨_, _, ⟨T99, L99, k99, n99⟩, -, X99, ⟨Lc99, hQ99, l99, y99, z99⟩, st99⟩ := X97.virtualBack hx (y := (⟨"com/example/hintikka/hintikka/domain/ConstraintNetwork", "getRelations", "(I)I"⟩ : MethodName)) (z := (⟨"com/example/hintikka/hintikka/domain/ConstraintNetwork", "getRelations", "(I)I"⟩ : MethodName)) hown (mvT hZ (hw _ (List.mem_of_getElem? (i := 133) rfl))) (mvT hZ (hw _ (List.mem_of_getElem? (i := 134) rfl))) (notFace_of_selects (args := #[]) (mvT hZ (hw _ (List.mem_of_getElem? (i := 136) rfl)))) (mvT hZ (hw _ (List.mem_of_getElem? (i := 136) rfl))) (mvT hZ (hw _ (List.mem_of_getElem? (i := 135) rfl))) (by decide) (backOf (W := 0) (rmGE l Z a0 hw [] b25 (3 : Int32) (4 : Int32) re_29 ke_29 [(.int p2), (.int p3), (.int p4), (.int p5)] p5 T96.heap n0 f98 P96_0 P96_5 P96_3 P96_7 (by decide) (by decide) ⟨by decide, by decide⟩ rfl) hZ (hw _ (List.mem_of_getElem? (i := 137) rfl)) (hw _ (List.mem_of_getElem? (i := 3) rfl)) (by decide) (by decide)) q99a q99c (g := (mkF m 295 #[.val (.int p0), .val (.int p1), .val (.int p2), .val (.int p3), .val (.int p4), .val (.int p5), .val (.ref b1), .val (.ref b8), .val (.ref b16), .val (.ref b25), sk, .val (.int (3 : Int32)), .val (.int (1 : Int32))] [(.int (3 : Int32)), (.ref b25)])) rfl (by rw [hml]; rfl) (Steps.refl _) (argsL := [(.int (3 : Int32))]) (rest := []) (lenOf own_pd7 rfl) rfl (by show 2 * 0 + _ ≤ _; exact Nat.le_of_eq rfl) (hb hby at_295) (fun _ _ => ⟨rfl, eq97, (by decide : 10 + 0 ≤ _), (by decide : 84 + 0 ≤ _)⟩)
    dsimp only [Pt.U, Pt.locs, Pt.cells, Pt.slots] at X99 l99 y99 z99 st99 hQ99
    subst l99 y99 z99
    obtain ⟨rfl, N99q, eq99⟩ := hQ99
    have N99 := Fr.app N97 N99q
    refine own_up (fun _ k => st99.trans k) ?_
    show own_Go p.tables e below _ (T99.setTop (mkF m 298 #[.val (.int p0), .val (.int p1), .val (.int p2), .val (.int p3), .val (.int p4), .val (.int p5), .val (.ref b1), .val (.ref b8), .val (.ref b16), .val (.ref b25), sk, .val (.int (3 : Int32)), .val (.int (1 : Int32))] [(.int p5)]))
    refine own_up (fun _ k => XS.iload X99.here hx rfl (hb hby at_298) rfl k) ?_
    show own_Go p.tables e below _ (T99.setTop (mkF m 300 #[.val (.int p0), .val (.int p1), .val (.int p2), .val (.int p3), .val (.int p4), .val (.int p5), .val (.ref b1), .val (.ref b8), .val (.ref b16), .val (.ref b25), sk, .val (.int (3 : Int32)), .val (.int (1 : Int32))] [(.int p5), (.int p5)]))
    refine own_up (fun _ k => XS.icmpNo X99.here hx rfl (hb hby at_300) rfl (teq rfl).2 k) ?_
    show own_Go p.tables e below _ (T99.setTop (mkF m 303 #[.val (.int p0), .val (.int p1), .val (.int p2), .val (.int p3), .val (.int p4), .val (.int p5), .val (.ref b1), .val (.ref b8), .val (.ref b16), .val (.ref b25), sk, .val (.int (3 : Int32)), .val (.int (1 : Int32))] []))
    refine own_up (fun _ k => XS.iconst X99.here hx rfl (hb hby at_303) k) ?_
    show own_Go p.tables e below _ (T99.setTop (mkF m 304 #[.val (.int p0), .val (.int p1), .val (.int p2), .val (.int p3), .val (.int p4), .val (.int p5), .val (.ref b1), .val (.ref b8), .val (.ref b16), .val (.ref b25), sk, .val (.int (3 : Int32)), .val (.int (1 : Int32))] [(.int (1 : Int32))]))
    refine own_up (fun _ k => XS.goto X99.here hx rfl (pc0 := 304) (pc' := 308) rfl (hb hby at_304) (by decide) (by decide) k) ?_
    show own_Go p.tables e below _ (T99.setTop (mkF m 308 #[.val (.int p0), .val (.int p1), .val (.int p2), .val (.int p3), .val (.int p4), .val (.int p5), .val (.ref b1), .val (.ref b8), .val (.ref b16), .val (.ref b25), sk, .val (.int (3 : Int32)), .val (.int (1 : Int32))] [(.int (1 : Int32))]))
    refine own_up (fun _ k => XS.istore X99.here hx rfl (hb hby at_308) rfl (l' := #[.val (.int p0), .val (.int p1), .val (.int p2), .val (.int p3), .val (.int p4), .val (.int p5), .val (.ref b1), .val (.ref b8), .val (.ref b16), .val (.ref b25), sk, .val (.int (3 : Int32)), .val (.int (1 : Int32))]) rfl k) ?_
    show own_Go p.tables e below _ (T99.setTop (mkF m 310 #[.val (.int p0), .val (.int p1), .val (.int p2), .val (.int p3), .val (.int p4), .val (.int p5), .val (.ref b1), .val (.ref b8), .val (.ref b16), .val (.ref b25), sk, .val (.int (3 : Int32)), .val (.int (1 : Int32))] []))
    refine own_up (fun _ k => XS.iload X99.here hx rfl (hb hby at_310) rfl k) ?_
    show own_Go p.tables e below _ (T99.setTop (mkF m 312 #[.val (.int p0), .val (.int p1), .val (.int p2), .val (.int p3), .val (.int p4), .val (.int p5), .val (.ref b1), .val (.ref b8), .val (.ref b16), .val (.ref b25), sk, .val (.int (3 : Int32)), .val (.int (1 : Int32))] [(.int (1 : Int32))]))
    exact own_end X99 hlk (v := some (.int (1 : Int32))) (fun h => by rw [Bd.returns] at h; cases h) (fun fs hr => retN X99 hx (z := (1 : Int32)) (t := .boolean) Bd.returns (by simp) (hb hby at_312) hr) eq99 ⟨rfl, N99⟩ (by decide) (by decide)
  rcases own_mask3 p0 with hm | hm | hm | hm
  ·
    refine own_up (fun _ k => XS.iloadN X41.here hx rfl (hb hby at_73) rfl k) ?_
    show own_Go p.tables e below _ (T41.setTop (mkF m 74 #[.val (.int p0), .val (.int p1), .val (.int p2), .val (.int p3), .val (.int p4), .val (.int p5), .val (.ref b1), .val (.ref b8), .val (.ref b16), .val (.ref b25), .unset, .unset, .unset] [(.int p0)]))
    refine own_up (fun _ k => XS.iconst X41.here hx rfl (hb hby at_74) k) ?_
    show own_Go p.tables e below _ (T41.setTop (mkF m 75 #[.val (.int p0), .val (.int p1), .val (.int p2), .val (.int p3), .val (.int p4), .val (.int p5), .val (.ref b1), .val (.ref b8), .val (.ref b16), .val (.ref b25), .unset, .unset, .unset] [(.int (3 : Int32)), (.int p0)]))
    refine own_up (fun _ k => XS.iand X41.here hx rfl (hb hby at_75) rfl k) ?_
    show own_Go p.tables e below _ (T41.setTop (mkF m 76 #[.val (.int p0), .val (.int p1), .val (.int p2), .val (.int p3), .val (.int p4), .val (.int p5), .val (.ref b1), .val (.ref b8), .val (.ref b16), .val (.ref b25), .unset, .unset, .unset] [(.int (p0 &&& (3 : Int32)))]))
    rw [hm]
    show own_Go p.tables e below _ (T41.setTop (mkF m 76 #[.val (.int p0), .val (.int p1), .val (.int p2), .val (.int p3), .val (.int p4), .val (.int p5), .val (.ref b1), .val (.ref b8), .val (.ref b16), .val (.ref b25), .unset, .unset, .unset] [(.int (0 : Int32))]))
    refine own_up (fun _ k => XS.istore X41.here hx rfl (hb hby at_76) rfl (l' := #[.val (.int p0), .val (.int p1), .val (.int p2), .val (.int p3), .val (.int p4), .val (.int p5), .val (.ref b1), .val (.ref b8), .val (.ref b16), .val (.ref b25), .val (.int (0 : Int32)), .unset, .unset]) rfl k) ?_
    show own_Go p.tables e below _ (T41.setTop (mkF m 78 #[.val (.int p0), .val (.int p1), .val (.int p2), .val (.int p3), .val (.int p4), .val (.int p5), .val (.ref b1), .val (.ref b8), .val (.ref b16), .val (.ref b25), .val (.int (0 : Int32)), .unset, .unset] []))
    refine own_up (fun _ k => XS.iload X41.here hx rfl (hb hby at_78) rfl k) ?_
    show own_Go p.tables e below _ (T41.setTop (mkF m 80 #[.val (.int p0), .val (.int p1), .val (.int p2), .val (.int p3), .val (.int p4), .val (.int p5), .val (.ref b1), .val (.ref b8), .val (.ref b16), .val (.ref b25), .val (.int (0 : Int32)), .unset, .unset] [(.int (0 : Int32))]))
    refine own_up (fun _ k => XS.iconst X41.here hx rfl (hb hby at_80) k) ?_
    show own_Go p.tables e below _ (T41.setTop (mkF m 81 #[.val (.int p0), .val (.int p1), .val (.int p2), .val (.int p3), .val (.int p4), .val (.int p5), .val (.ref b1), .val (.ref b8), .val (.ref b16), .val (.ref b25), .val (.int (0 : Int32)), .unset, .unset] [(.int (1 : Int32)), (.int (0 : Int32))]))
    refine own_up (fun _ k => XS.icmpYes X41.here hx rfl (pc0 := 81) (pc' := 101) rfl (hb hby at_81) rfl (tlt (by decide)).1 (by decide) (by decide) k) ?_
    show own_Go p.tables e below _ (T41.setTop (mkF m 101 #[.val (.int p0), .val (.int p1), .val (.int p2), .val (.int p3), .val (.int p4), .val (.int p5), .val (.ref b1), .val (.ref b8), .val (.ref b16), .val (.ref b25), .val (.int (0 : Int32)), .unset, .unset] []))
    refine own_up (fun _ k => XS.iload X41.here hx rfl (hb hby at_101) rfl k) ?_
    show own_Go p.tables e below _ (T41.setTop (mkF m 103 #[.val (.int p0), .val (.int p1), .val (.int p2), .val (.int p3), .val (.int p4), .val (.int p5), .val (.ref b1), .val (.ref b8), .val (.ref b16), .val (.ref b25), .val (.int (0 : Int32)), .unset, .unset] [(.int (0 : Int32))]))
    refine own_up (fun _ k => XS.iconst X41.here hx rfl (hb hby at_103) k) ?_
    show own_Go p.tables e below _ (T41.setTop (mkF m 104 #[.val (.int p0), .val (.int p1), .val (.int p2), .val (.int p3), .val (.int p4), .val (.int p5), .val (.ref b1), .val (.ref b8), .val (.ref b16), .val (.ref b25), .val (.int (0 : Int32)), .unset, .unset] [(.int (2 : Int32)), (.int (0 : Int32))]))
    refine own_up (fun _ k => XS.icmpYes X41.here hx rfl (pc0 := 104) (pc' := 124) rfl (hb hby at_104) rfl (tlt (by decide)).1 (by decide) (by decide) k) ?_
    show own_Go p.tables e below _ (T41.setTop (mkF m 124 #[.val (.int p0), .val (.int p1), .val (.int p2), .val (.int p3), .val (.int p4), .val (.int p5), .val (.ref b1), .val (.ref b8), .val (.ref b16), .val (.ref b25), .val (.int (0 : Int32)), .unset, .unset] []))
    refine own_up (fun _ k => XS.iload X41.here hx rfl (hb hby at_124) rfl k) ?_
    show own_Go p.tables e below _ (T41.setTop (mkF m 126 #[.val (.int p0), .val (.int p1), .val (.int p2), .val (.int p3), .val (.int p4), .val (.int p5), .val (.ref b1), .val (.ref b8), .val (.ref b16), .val (.ref b25), .val (.int (0 : Int32)), .unset, .unset] [(.int (0 : Int32))]))
    refine own_up (fun _ k => XS.iconst X41.here hx rfl (hb hby at_126) k) ?_
    show own_Go p.tables e below _ (T41.setTop (mkF m 127 #[.val (.int p0), .val (.int p1), .val (.int p2), .val (.int p3), .val (.int p4), .val (.int p5), .val (.ref b1), .val (.ref b8), .val (.ref b16), .val (.ref b25), .val (.int (0 : Int32)), .unset, .unset] [(.int (3 : Int32)), (.int (0 : Int32))]))
    refine own_up (fun _ k => XS.icmpYes X41.here hx rfl (pc0 := 127) (pc' := 147) rfl (hb hby at_127) rfl (tlt (by decide)).1 (by decide) (by decide) k) ?_
    show own_Go p.tables e below _ (T41.setTop (mkF m 147 #[.val (.int p0), .val (.int p1), .val (.int p2), .val (.int p3), .val (.int p4), .val (.int p5), .val (.ref b1), .val (.ref b8), .val (.ref b16), .val (.ref b25), .val (.int (0 : Int32)), .unset, .unset] []))
    refine own_up (fun _ k => XS.iloadN X41.here hx rfl (hb hby at_147) rfl k) ?_
    show own_Go p.tables e below _ (T41.setTop (mkF m 148 #[.val (.int p0), .val (.int p1), .val (.int p2), .val (.int p3), .val (.int p4), .val (.int p5), .val (.ref b1), .val (.ref b8), .val (.ref b16), .val (.ref b25), .val (.int (0 : Int32)), .unset, .unset] [(.int p1)]))
    refine own_up (fun _ k => XS.iconst X41.here hx rfl (hb hby at_148) k) ?_
    show own_Go p.tables e below _ (T41.setTop (mkF m 149 #[.val (.int p0), .val (.int p1), .val (.int p2), .val (.int p3), .val (.int p4), .val (.int p5), .val (.ref b1), .val (.ref b8), .val (.ref b16), .val (.ref b25), .val (.int (0 : Int32)), .unset, .unset] [(.int (3 : Int32)), (.int p1)]))
    refine own_up (fun _ k => XS.iand X41.here hx rfl (hb hby at_149) rfl k) ?_
    show own_Go p.tables e below _ (T41.setTop (mkF m 150 #[.val (.int p0), .val (.int p1), .val (.int p2), .val (.int p3), .val (.int p4), .val (.int p5), .val (.ref b1), .val (.ref b8), .val (.ref b16), .val (.ref b25), .val (.int (0 : Int32)), .unset, .unset] [(.int (p1 &&& (3 : Int32)))]))
    refine own_up (fun _ k => XS.iload X41.here hx rfl (hb hby at_150) rfl k) ?_
    show own_Go p.tables e below _ (T41.setTop (mkF m 152 #[.val (.int p0), .val (.int p1), .val (.int p2), .val (.int p3), .val (.int p4), .val (.int p5), .val (.ref b1), .val (.ref b8), .val (.ref b16), .val (.ref b25), .val (.int (0 : Int32)), .unset, .unset] [(.int (0 : Int32)), (.int (p1 &&& (3 : Int32)))]))
    refine own_up (fun _ k => XS.iconst X41.here hx rfl (hb hby at_152) k) ?_
    show own_Go p.tables e below _ (T41.setTop (mkF m 153 #[.val (.int p0), .val (.int p1), .val (.int p2), .val (.int p3), .val (.int p4), .val (.int p5), .val (.ref b1), .val (.ref b8), .val (.ref b16), .val (.ref b25), .val (.int (0 : Int32)), .unset, .unset] [(.int (1 : Int32)), (.int (0 : Int32)), (.int (p1 &&& (3 : Int32)))]))
    refine own_up (fun _ k => XS.iadd X41.here hx rfl (hb hby at_153) rfl k) ?_
    show own_Go p.tables e below _ (T41.setTop (mkF m 154 #[.val (.int p0), .val (.int p1), .val (.int p2), .val (.int p3), .val (.int p4), .val (.int p5), .val (.ref b1), .val (.ref b8), .val (.ref b16), .val (.ref b25), .val (.int (0 : Int32)), .unset, .unset] [(.int (1 : Int32)), (.int (p1 &&& (3 : Int32)))]))
    refine own_up (fun _ k => iremM X41 hx rfl (hb hby at_154) rfl (by decide) k) ?_
    show own_Go p.tables e below _ (T41.setTop (mkF m 155 #[.val (.int p0), .val (.int p1), .val (.int p2), .val (.int p3), .val (.int p4), .val (.int p5), .val (.ref b1), .val (.ref b8), .val (.ref b16), .val (.ref b25), .val (.int (0 : Int32)), .unset, .unset] [(.int ((p1 &&& (3 : Int32)) % (1 : Int32)))]))
    have hc := own_cut0 p1
    rw [hc]
    show own_Go p.tables e below _ (T41.setTop (mkF m 155 #[.val (.int p0), .val (.int p1), .val (.int p2), .val (.int p3), .val (.int p4), .val (.int p5), .val (.ref b1), .val (.ref b8), .val (.ref b16), .val (.ref b25), .val (.int (0 : Int32)), .unset, .unset] [(.int (0 : Int32))]))
    refine own_up (fun _ k => XS.istore X41.here hx rfl (hb hby at_155) rfl (l' := #[.val (.int p0), .val (.int p1), .val (.int p2), .val (.int p3), .val (.int p4), .val (.int p5), .val (.ref b1), .val (.ref b8), .val (.ref b16), .val (.ref b25), .val (.int (0 : Int32)), .val (.int (0 : Int32)), .unset]) rfl k) ?_
    show own_Go p.tables e below _ (T41.setTop (mkF m 157 #[.val (.int p0), .val (.int p1), .val (.int p2), .val (.int p3), .val (.int p4), .val (.int p5), .val (.ref b1), .val (.ref b8), .val (.ref b16), .val (.ref b25), .val (.int (0 : Int32)), .val (.int (0 : Int32)), .unset] []))
    refine own_up (fun _ k => XS.aload X41.here hx rfl (hb hby at_157) rfl rfl k) ?_
    show own_Go p.tables e below _ (T41.setTop (mkF m 159 #[.val (.int p0), .val (.int p1), .val (.int p2), .val (.int p3), .val (.int p4), .val (.int p5), .val (.ref b1), .val (.ref b8), .val (.ref b16), .val (.ref b25), .val (.int (0 : Int32)), .val (.int (0 : Int32)), .unset] [(.ref b25)]))
    refine own_up (fun _ k => XS.iload X41.here hx rfl (hb hby at_159) rfl k) ?_
    show own_Go p.tables e below _ (T41.setTop (mkF m 161 #[.val (.int p0), .val (.int p1), .val (.int p2), .val (.int p3), .val (.int p4), .val (.int p5), .val (.ref b1), .val (.ref b8), .val (.ref b16), .val (.ref b25), .val (.int (0 : Int32)), .val (.int (0 : Int32)), .unset] [(.int (0 : Int32)), (.ref b25)]))
    have f101 : Exa Z T41.heap b25 "com/example/hintikka/hintikka/domain/ConstraintNetwork" := (f44.keep K41)
    have f102 : Fld Z T41.heap b25 "com/example/hintikka/hintikka/domain/ConstraintNetwork" "constants" "Ljava/util/List;" (.ref al_29) := (f42.keep K41 (ninS P29_8 (ninS nl35_0_3 nin0)))
    have f103 : Fld Z T41.heap b25 "com/example/hintikka/hintikka/domain/ConstraintNetwork" "lefts" "[I" (.ref la_29) := ((P29_21.keep K35 (ninS P29_8 nin0)).keep K41 (ninS P29_8 (ninS nl35_0_3 nin0)))
    have f104 : Fld Z T41.heap b25 "com/example/hintikka/hintikka/domain/ConstraintNetwork" "relations" "[I" (.ref re_29) := ((P29_22.keep K35 (ninS P29_8 nin0)).keep K41 (ninS P29_8 (ninS nl35_0_3 nin0)))
    have f105 : Fld Z T41.heap b25 "com/example/hintikka/hintikka/domain/ConstraintNetwork" "rights" "[I" (.ref ri_29) := ((P29_23.keep K35 (ninS P29_8 nin0)).keep K41 (ninS P29_8 (ninS nl35_0_3 nin0)))
    have f106 : Fld Z T41.heap b25 "com/example/hintikka/hintikka/domain/ConstraintNetwork" "size" "I" (.int (0 : Int32)) := ((P29_20.keep K35 (ninS P29_8 nin0)).keep K41 (ninS P29_8 (ninS nl35_0_3 nin0)))
    have f107 : n0 ≤ T41.heap.size := (Nat.le_trans f43 K41.1)
    obtain ⟨cq100, kq100, q100a, q100b, q100c⟩ := isOf hZ rfl f101
    obtain ⟨_, _, ⟨T100, L100, k100, n100⟩, -, X100, ⟨Lc100, hQ100, l100, y100, z100⟩, st100⟩ := X41.virtualBack hx (y := (⟨"com/example/hintikka/hintikka/domain/ConstraintNetwork", "truncate", "(I)V"⟩ : MethodName)) (z := (⟨"com/example/hintikka/hintikka/domain/ConstraintNetwork", "truncate", "(I)V"⟩ : MethodName)) hown (mvT hZ (hw _ (List.mem_of_getElem? (i := 107) rfl))) (mvT hZ (hw _ (List.mem_of_getElem? (i := 108) rfl))) (notFace_of_selects (args := #[]) (mvT hZ (hw _ (List.mem_of_getElem? (i := 110) rfl)))) (mvT hZ (hw _ (List.mem_of_getElem? (i := 110) rfl))) (mvT hZ (hw _ (List.mem_of_getElem? (i := 109) rfl))) (by decide) (backOf (W := 0) (rmT l Z a0 hw [] b25 (0 : Int32) al_29 la_29 re_29 ri_29 (0 : Int32) T41.heap n0 f107 f101 f102 f103 f104 f105 f106 ge25 (by decide) (by decide)) hZ (hw _ (List.mem_of_getElem? (i := 111) rfl)) (hw _ (List.mem_of_getElem? (i := 3) rfl)) (by decide) (by decide)) q100a q100c (g := (mkF m 161 #[.val (.int p0), .val (.int p1), .val (.int p2), .val (.int p3), .val (.int p4), .val (.int p5), .val (.ref b1), .val (.ref b8), .val (.ref b16), .val (.ref b25), .val (.int (0 : Int32)), .val (.int (0 : Int32)), .unset] [(.int (0 : Int32)), (.ref b25)])) rfl (by rw [hml]; rfl) (Steps.refl _) (argsL := [(.int (0 : Int32))]) (rest := []) (lenOf own_pd9 rfl) rfl (by show 2 * 0 + _ ≤ _; exact Nat.le_of_eq rfl) (hb hby at_161) (fun _ _ => ⟨rfl, rfl, (by decide : 10 + 0 ≤ _), (by decide : 84 + 0 ≤ _)⟩)
    dsimp only [Pt.U, Pt.locs, Pt.cells, Pt.slots] at X100 l100 y100 z100 st100 hQ100
    subst l100 y100 z100
    obtain ⟨rfl, N100q, K100, P100_0, P100_1, P100_2, P100_3, P100_4, P100_5⟩ := hQ100
    have N100 := Fr.app N41 N100q
    refine own_up (fun _ k => st100.trans k) ?_
    show own_Go p.tables e below _ (T100.setTop (mkF m 164 #[.val (.int p0), .val (.int p1), .val (.int p2), .val (.int p3), .val (.int p4), .val (.int p5), .val (.ref b1), .val (.ref b8), .val (.ref b16), .val (.ref b25), .val (.int (0 : Int32)), .val (.int (0 : Int32)), .unset] []))
    have f108 : Exa Z T100.heap al_29 "java/util/ArrayList" := (P41_0.keep K100)
    have f109 : Fld Z T100.heap al_29 "java/util/ArrayList" "size" "I" (.int (2 : Int32)) := (P41_1.keep K100 (ninS (Ne.symm P29_8) nin0))
    have f110 : Arv Z T100.heap b1 k1 .int (3 : Int32) [(.int (0 : Int32)), (.int (1 : Int32)), (.int (1 : Int32))] (.int (0 : Int32)) := (((f38.keep K35 (ninS nl29_0_0 nin0)).keep K41 (ninS nl29_0_0 (ninS nl35_0_0 nin0))).keep K100 (ninS ne25_0 nin0))
    have f111 : Arv Z T100.heap b8 k8 .int (3 : Int32) [(.int (1 : Int32)), (.int (0 : Int32)), (.int (1 : Int32))] (.int (0 : Int32)) := (((f39.keep K35 (ninS nl29_0_1 nin0)).keep K41 (ninS nl29_0_1 (ninS nl35_0_1 nin0))).keep K100 (ninS ne25_1 nin0))
    have f112 : Arv Z T100.heap b16 k16 .int (3 : Int32) [(.int p2), (.int p3), (.int p4)] (.int (0 : Int32)) := (((f40.keep K35 (ninS nl29_0_2 nin0)).keep K41 (ninS nl29_0_2 (ninS nl35_0_2 nin0))).keep K100 (ninS ne25_2 nin0))
    have f113 : Arv Z T100.heap la_29 ka_29 .int (16 : Int32) [(.int (0 : Int32)), (.int (0 : Int32)), (.int (0 : Int32)), (.int (0 : Int32))] (.int (0 : Int32)) := (((P29_24.keep K35 (ninS (Ne.symm P29_12) nin0)).keep K41 (ninS (Ne.symm P29_12) (ninS nl35_0_4 nin0))).keep K100 (ninS (Ne.symm P29_9) nin0))
    have f114 : Arv Z T100.heap re_29 ke_29 .int (16 : Int32) [(.int (0 : Int32)), (.int (0 : Int32)), (.int (0 : Int32)), (.int (0 : Int32))] (.int (0 : Int32)) := (((P29_25.keep K35 (ninS (Ne.symm P29_13) nin0)).keep K41 (ninS (Ne.symm P29_13) (ninS nl35_0_5 nin0))).keep K100 (ninS (Ne.symm P29_10) nin0))
    have f115 : Arv Z T100.heap ri_29 ki_29 .int (16 : Int32) [(.int (0 : Int32)), (.int (0 : Int32)), (.int (0 : Int32)), (.int (0 : Int32))] (.int (0 : Int32)) := (((P29_26.keep K35 (ninS (Ne.symm P29_14) nin0)).keep K41 (ninS (Ne.symm P29_14) (ninS nl35_0_6 nin0))).keep K100 (ninS (Ne.symm P29_11) nin0))
    have f116 : n0 ≤ T100.heap.size := (Nat.le_trans f107 K100.1)
    have f117 : Old Z n0 T100.heap := (((f36.keep K35 (allS P29_4 all0)).keep K41 (allS P29_4 (allS P35_1 all0))).keep K100 (allS ge25 all0))
    exact end0 T100 _ X100 T100.heap rfl N100 (.val (.int (0 : Int32))) (0 : Int32) (0 : Int32) (0 : Int32) (0 : Int32) (0 : Int32) (0 : Int32) (0 : Int32) (0 : Int32) (0 : Int32) (0 : Int32) (0 : Int32) (0 : Int32) P100_0 P100_1 P100_2 P100_3 P100_4 f108 f109 f110 f111 f112 P100_5 f113 f114 f115 f116 f117
  ·
    refine own_up (fun _ k => XS.iloadN X41.here hx rfl (hb hby at_73) rfl k) ?_
    show own_Go p.tables e below _ (T41.setTop (mkF m 74 #[.val (.int p0), .val (.int p1), .val (.int p2), .val (.int p3), .val (.int p4), .val (.int p5), .val (.ref b1), .val (.ref b8), .val (.ref b16), .val (.ref b25), .unset, .unset, .unset] [(.int p0)]))
    refine own_up (fun _ k => XS.iconst X41.here hx rfl (hb hby at_74) k) ?_
    show own_Go p.tables e below _ (T41.setTop (mkF m 75 #[.val (.int p0), .val (.int p1), .val (.int p2), .val (.int p3), .val (.int p4), .val (.int p5), .val (.ref b1), .val (.ref b8), .val (.ref b16), .val (.ref b25), .unset, .unset, .unset] [(.int (3 : Int32)), (.int p0)]))
    refine own_up (fun _ k => XS.iand X41.here hx rfl (hb hby at_75) rfl k) ?_
    show own_Go p.tables e below _ (T41.setTop (mkF m 76 #[.val (.int p0), .val (.int p1), .val (.int p2), .val (.int p3), .val (.int p4), .val (.int p5), .val (.ref b1), .val (.ref b8), .val (.ref b16), .val (.ref b25), .unset, .unset, .unset] [(.int (p0 &&& (3 : Int32)))]))
    rw [hm]
    show own_Go p.tables e below _ (T41.setTop (mkF m 76 #[.val (.int p0), .val (.int p1), .val (.int p2), .val (.int p3), .val (.int p4), .val (.int p5), .val (.ref b1), .val (.ref b8), .val (.ref b16), .val (.ref b25), .unset, .unset, .unset] [(.int (1 : Int32))]))
    refine own_up (fun _ k => XS.istore X41.here hx rfl (hb hby at_76) rfl (l' := #[.val (.int p0), .val (.int p1), .val (.int p2), .val (.int p3), .val (.int p4), .val (.int p5), .val (.ref b1), .val (.ref b8), .val (.ref b16), .val (.ref b25), .val (.int (1 : Int32)), .unset, .unset]) rfl k) ?_
    show own_Go p.tables e below _ (T41.setTop (mkF m 78 #[.val (.int p0), .val (.int p1), .val (.int p2), .val (.int p3), .val (.int p4), .val (.int p5), .val (.ref b1), .val (.ref b8), .val (.ref b16), .val (.ref b25), .val (.int (1 : Int32)), .unset, .unset] []))
    refine own_up (fun _ k => XS.iload X41.here hx rfl (hb hby at_78) rfl k) ?_
    show own_Go p.tables e below _ (T41.setTop (mkF m 80 #[.val (.int p0), .val (.int p1), .val (.int p2), .val (.int p3), .val (.int p4), .val (.int p5), .val (.ref b1), .val (.ref b8), .val (.ref b16), .val (.ref b25), .val (.int (1 : Int32)), .unset, .unset] [(.int (1 : Int32))]))
    refine own_up (fun _ k => XS.iconst X41.here hx rfl (hb hby at_80) k) ?_
    show own_Go p.tables e below _ (T41.setTop (mkF m 81 #[.val (.int p0), .val (.int p1), .val (.int p2), .val (.int p3), .val (.int p4), .val (.int p5), .val (.ref b1), .val (.ref b8), .val (.ref b16), .val (.ref b25), .val (.int (1 : Int32)), .unset, .unset] [(.int (1 : Int32)), (.int (1 : Int32))]))
    refine own_up (fun _ k => XS.icmpNo X41.here hx rfl (hb hby at_81) rfl (flt (by decide)).1 k) ?_
    show own_Go p.tables e below _ (T41.setTop (mkF m 84 #[.val (.int p0), .val (.int p1), .val (.int p2), .val (.int p3), .val (.int p4), .val (.int p5), .val (.ref b1), .val (.ref b8), .val (.ref b16), .val (.ref b25), .val (.int (1 : Int32)), .unset, .unset] []))
    refine own_up (fun _ k => XS.aload X41.here hx rfl (hb hby at_84) rfl rfl k) ?_
    show own_Go p.tables e below _ (T41.setTop (mkF m 86 #[.val (.int p0), .val (.int p1), .val (.int p2), .val (.int p3), .val (.int p4), .val (.int p5), .val (.ref b1), .val (.ref b8), .val (.ref b16), .val (.ref b25), .val (.int (1 : Int32)), .unset, .unset] [(.ref b25)]))
    refine own_up (fun _ k => XS.aload X41.here hx rfl (hb hby at_86) rfl rfl k) ?_
    show own_Go p.tables e below _ (T41.setTop (mkF m 88 #[.val (.int p0), .val (.int p1), .val (.int p2), .val (.int p3), .val (.int p4), .val (.int p5), .val (.ref b1), .val (.ref b8), .val (.ref b16), .val (.ref b25), .val (.int (1 : Int32)), .unset, .unset] [(.ref b1), (.ref b25)]))
    refine own_up (fun _ k => XS.iconst X41.here hx rfl (hb hby at_88) k) ?_
    show own_Go p.tables e below _ (T41.setTop (mkF m 89 #[.val (.int p0), .val (.int p1), .val (.int p2), .val (.int p3), .val (.int p4), .val (.int p5), .val (.ref b1), .val (.ref b8), .val (.ref b16), .val (.ref b25), .val (.int (1 : Int32)), .unset, .unset] [(.int (0 : Int32)), (.ref b1), (.ref b25)]))
    have f118 : Arv Z T41.heap b1 k1 .int (3 : Int32) [(.int (0 : Int32)), (.int (1 : Int32)), (.int (1 : Int32))] (.int (0 : Int32)) := ((f38.keep K35 (ninS nl29_0_0 nin0)).keep K41 (ninS nl29_0_0 (ninS nl35_0_0 nin0)))
    obtain ⟨cl119_, Ar119, q119, S119, M119, Hs119, G119⟩ := id (f118)
    have hin120 : ¬ ((0 : Int32) < 0 ∨ cl119_.slots.size ≤ ((0 : Int32)).toNatClampNeg) := inb_of S119 ⟨by decide, by decide⟩
    have hat120 : cl119_.slots[((0 : Int32)).toNatClampNeg]? = some (.int (0 : Int32)) := Has.at Hs119 hin120 rfl
    refine own_up (fun _ k => X41.iaload hx (j := (0 : Int32)) (v := (.int (0 : Int32))) Ar119.1 (State.isArrayOf_alike hZ.alike Ar119.2.1) Ar119.2.2 hin120 hat120 (g := (mkF m 89 #[.val (.int p0), .val (.int p1), .val (.int p2), .val (.int p3), .val (.int p4), .val (.int p5), .val (.ref b1), .val (.ref b8), .val (.ref b16), .val (.ref b25), .val (.int (1 : Int32)), .unset, .unset] [(.int (0 : Int32)), (.ref b1), (.ref b25)])) rfl rfl (hb hby at_89) _ k) ?_
    show own_Go p.tables e below _ (T41.setTop (mkF m 90 #[.val (.int p0), .val (.int p1), .val (.int p2), .val (.int p3), .val (.int p4), .val (.int p5), .val (.ref b1), .val (.ref b8), .val (.ref b16), .val (.ref b25), .val (.int (1 : Int32)), .unset, .unset] [(.int (0 : Int32)), (.ref b25)]))
    refine own_up (fun _ k => XS.aload X41.here hx rfl (hb hby at_90) rfl rfl k) ?_
    show own_Go p.tables e below _ (T41.setTop (mkF m 92 #[.val (.int p0), .val (.int p1), .val (.int p2), .val (.int p3), .val (.int p4), .val (.int p5), .val (.ref b1), .val (.ref b8), .val (.ref b16), .val (.ref b25), .val (.int (1 : Int32)), .unset, .unset] [(.ref b16), (.int (0 : Int32)), (.ref b25)]))
    refine own_up (fun _ k => XS.iconst X41.here hx rfl (hb hby at_92) k) ?_
    show own_Go p.tables e below _ (T41.setTop (mkF m 93 #[.val (.int p0), .val (.int p1), .val (.int p2), .val (.int p3), .val (.int p4), .val (.int p5), .val (.ref b1), .val (.ref b8), .val (.ref b16), .val (.ref b25), .val (.int (1 : Int32)), .unset, .unset] [(.int (0 : Int32)), (.ref b16), (.int (0 : Int32)), (.ref b25)]))
    have f121 : Arv Z T41.heap b16 k16 .int (3 : Int32) [(.int p2), (.int p3), (.int p4)] (.int (0 : Int32)) := ((f40.keep K35 (ninS nl29_0_2 nin0)).keep K41 (ninS nl29_0_2 (ninS nl35_0_2 nin0)))
    obtain ⟨cl122_, Ar122, q122, S122, M122, Hs122, G122⟩ := id (f121)
    have hin123 : ¬ ((0 : Int32) < 0 ∨ cl122_.slots.size ≤ ((0 : Int32)).toNatClampNeg) := inb_of S122 ⟨by decide, by decide⟩
    have hat123 : cl122_.slots[((0 : Int32)).toNatClampNeg]? = some (.int p2) := Has.at Hs122 hin123 rfl
    refine own_up (fun _ k => X41.iaload hx (j := (0 : Int32)) (v := (.int p2)) Ar122.1 (State.isArrayOf_alike hZ.alike Ar122.2.1) Ar122.2.2 hin123 hat123 (g := (mkF m 93 #[.val (.int p0), .val (.int p1), .val (.int p2), .val (.int p3), .val (.int p4), .val (.int p5), .val (.ref b1), .val (.ref b8), .val (.ref b16), .val (.ref b25), .val (.int (1 : Int32)), .unset, .unset] [(.int (0 : Int32)), (.ref b16), (.int (0 : Int32)), (.ref b25)])) rfl rfl (hb hby at_93) _ k) ?_
    show own_Go p.tables e below _ (T41.setTop (mkF m 94 #[.val (.int p0), .val (.int p1), .val (.int p2), .val (.int p3), .val (.int p4), .val (.int p5), .val (.ref b1), .val (.ref b8), .val (.ref b16), .val (.ref b25), .val (.int (1 : Int32)), .unset, .unset] [(.int p2), (.int (0 : Int32)), (.ref b25)]))
    refine own_up (fun _ k => XS.aload X41.here hx rfl (hb hby at_94) rfl rfl k) ?_
    show own_Go p.tables e below _ (T41.setTop (mkF m 96 #[.val (.int p0), .val (.int p1), .val (.int p2), .val (.int p3), .val (.int p4), .val (.int p5), .val (.ref b1), .val (.ref b8), .val (.ref b16), .val (.ref b25), .val (.int (1 : Int32)), .unset, .unset] [(.ref b8), (.int p2), (.int (0 : Int32)), (.ref b25)]))
    refine own_up (fun _ k => XS.iconst X41.here hx rfl (hb hby at_96) k) ?_
    show own_Go p.tables e below _ (T41.setTop (mkF m 97 #[.val (.int p0), .val (.int p1), .val (.int p2), .val (.int p3), .val (.int p4), .val (.int p5), .val (.ref b1), .val (.ref b8), .val (.ref b16), .val (.ref b25), .val (.int (1 : Int32)), .unset, .unset] [(.int (0 : Int32)), (.ref b8), (.int p2), (.int (0 : Int32)), (.ref b25)]))
    have f124 : Arv Z T41.heap b8 k8 .int (3 : Int32) [(.int (1 : Int32)), (.int (0 : Int32)), (.int (1 : Int32))] (.int (0 : Int32)) := ((f39.keep K35 (ninS nl29_0_1 nin0)).keep K41 (ninS nl29_0_1 (ninS nl35_0_1 nin0)))
    obtain ⟨cl125_, Ar125, q125, S125, M125, Hs125, G125⟩ := id (f124)
    have hin126 : ¬ ((0 : Int32) < 0 ∨ cl125_.slots.size ≤ ((0 : Int32)).toNatClampNeg) := inb_of S125 ⟨by decide, by decide⟩
    have hat126 : cl125_.slots[((0 : Int32)).toNatClampNeg]? = some (.int (1 : Int32)) := Has.at Hs125 hin126 rfl
    refine own_up (fun _ k => X41.iaload hx (j := (0 : Int32)) (v := (.int (1 : Int32))) Ar125.1 (State.isArrayOf_alike hZ.alike Ar125.2.1) Ar125.2.2 hin126 hat126 (g := (mkF m 97 #[.val (.int p0), .val (.int p1), .val (.int p2), .val (.int p3), .val (.int p4), .val (.int p5), .val (.ref b1), .val (.ref b8), .val (.ref b16), .val (.ref b25), .val (.int (1 : Int32)), .unset, .unset] [(.int (0 : Int32)), (.ref b8), (.int p2), (.int (0 : Int32)), (.ref b25)])) rfl rfl (hb hby at_97) _ k) ?_
    show own_Go p.tables e below _ (T41.setTop (mkF m 98 #[.val (.int p0), .val (.int p1), .val (.int p2), .val (.int p3), .val (.int p4), .val (.int p5), .val (.ref b1), .val (.ref b8), .val (.ref b16), .val (.ref b25), .val (.int (1 : Int32)), .unset, .unset] [(.int (1 : Int32)), (.int p2), (.int (0 : Int32)), (.ref b25)]))
    have f128 : Exa Z T41.heap b25 "com/example/hintikka/hintikka/domain/ConstraintNetwork" := (f44.keep K41)
    have f129 : Fld Z T41.heap b25 "com/example/hintikka/hintikka/domain/ConstraintNetwork" "constants" "Ljava/util/List;" (.ref al_29) := (f42.keep K41 (ninS P29_8 (ninS nl35_0_3 nin0)))
    have f130 : Fld Z T41.heap b25 "com/example/hintikka/hintikka/domain/ConstraintNetwork" "lefts" "[I" (.ref la_29) := ((P29_21.keep K35 (ninS P29_8 nin0)).keep K41 (ninS P29_8 (ninS nl35_0_3 nin0)))
    have f131 : Fld Z T41.heap b25 "com/example/hintikka/hintikka/domain/ConstraintNetwork" "relations" "[I" (.ref re_29) := ((P29_22.keep K35 (ninS P29_8 nin0)).keep K41 (ninS P29_8 (ninS nl35_0_3 nin0)))
    have f132 : Fld Z T41.heap b25 "com/example/hintikka/hintikka/domain/ConstraintNetwork" "rights" "[I" (.ref ri_29) := ((P29_23.keep K35 (ninS P29_8 nin0)).keep K41 (ninS P29_8 (ninS nl35_0_3 nin0)))
    have f133 : Fld Z T41.heap b25 "com/example/hintikka/hintikka/domain/ConstraintNetwork" "size" "I" (.int (0 : Int32)) := ((P29_20.keep K35 (ninS P29_8 nin0)).keep K41 (ninS P29_8 (ninS nl35_0_3 nin0)))
    have f134 : Arv Z T41.heap la_29 ka_29 .int (16 : Int32) [(.int (0 : Int32)), (.int (0 : Int32)), (.int (0 : Int32)), (.int (0 : Int32))] (.int (0 : Int32)) := ((P29_24.keep K35 (ninS (Ne.symm P29_12) nin0)).keep K41 (ninS (Ne.symm P29_12) (ninS nl35_0_4 nin0)))
    have f135 : Arv Z T41.heap re_29 ke_29 .int (16 : Int32) [(.int (0 : Int32)), (.int (0 : Int32)), (.int (0 : Int32)), (.int (0 : Int32))] (.int (0 : Int32)) := ((P29_25.keep K35 (ninS (Ne.symm P29_13) nin0)).keep K41 (ninS (Ne.symm P29_13) (ninS nl35_0_5 nin0)))
    have f136 : Arv Z T41.heap ri_29 ki_29 .int (16 : Int32) [(.int (0 : Int32)), (.int (0 : Int32)), (.int (0 : Int32)), (.int (0 : Int32))] (.int (0 : Int32)) := ((P29_26.keep K35 (ninS (Ne.symm P29_14) nin0)).keep K41 (ninS (Ne.symm P29_14) (ninS nl35_0_6 nin0)))
    have f137 : n0 ≤ T41.heap.size := (Nat.le_trans f43 K41.1)
    obtain ⟨cq127, kq127, q127a, q127b, q127c⟩ := isOf hZ rfl f128
    obtain ⟨_, _, ⟨T127, L127, k127, n127⟩, -, X127, ⟨Lc127, hQ127, l127, y127, z127⟩, st127⟩ := X41.virtualBack hx (y := (⟨"com/example/hintikka/hintikka/domain/ConstraintNetwork", "add", "(III)V"⟩ : MethodName)) (z := (⟨"com/example/hintikka/hintikka/domain/ConstraintNetwork", "add", "(III)V"⟩ : MethodName)) hown (mvT hZ (hw _ (List.mem_of_getElem? (i := 124) rfl))) (mvT hZ (hw _ (List.mem_of_getElem? (i := 125) rfl))) (notFace_of_selects (args := #[]) (mvT hZ (hw _ (List.mem_of_getElem? (i := 127) rfl)))) (mvT hZ (hw _ (List.mem_of_getElem? (i := 127) rfl))) (mvT hZ (hw _ (List.mem_of_getElem? (i := 126) rfl))) (by decide) (backOf (W := 0) (rmAd0 l Z a0 hw [] b25 (0 : Int32) p2 (1 : Int32) al_29 la_29 re_29 ri_29 ka_29 ke_29 ki_29 (0 : Int32) (0 : Int32) (0 : Int32) (0 : Int32) (0 : Int32) (0 : Int32) (0 : Int32) (0 : Int32) (0 : Int32) (0 : Int32) (0 : Int32) (0 : Int32) T41.heap n0 f137 f128 f129 f130 f131 f132 P41_0 P41_1 f133 f134 f135 f136 ge25 P29_5 P29_6 P29_7 P29_8 P29_9 P29_10 P29_11 P29_12 P29_13 P29_14 P29_15 P29_16 P29_17 (by decide) (by decide) (by decide) (by decide)) hZ (hw _ (List.mem_of_getElem? (i := 128) rfl)) (hw _ (List.mem_of_getElem? (i := 3) rfl)) (by decide) (by decide)) q127a q127c (g := (mkF m 98 #[.val (.int p0), .val (.int p1), .val (.int p2), .val (.int p3), .val (.int p4), .val (.int p5), .val (.ref b1), .val (.ref b8), .val (.ref b16), .val (.ref b25), .val (.int (1 : Int32)), .unset, .unset] [(.int (1 : Int32)), (.int p2), (.int (0 : Int32)), (.ref b25)])) rfl (by rw [hml]; rfl) (Steps.refl _) (argsL := [(.int (0 : Int32)), (.int p2), (.int (1 : Int32))]) (rest := []) (lenOf own_pd8 rfl) rfl (by show 2 * 0 + _ ≤ _; exact Nat.le_of_eq rfl) (hb hby at_98) (fun _ _ => ⟨rfl, rfl, (by decide : 10 + 0 ≤ _), (by decide : 84 + 0 ≤ _)⟩)
    dsimp only [Pt.U, Pt.locs, Pt.cells, Pt.slots] at X127 l127 y127 z127 st127 hQ127
    subst l127 y127 z127
    obtain ⟨rfl, N127q, K127, P127_0, P127_1, P127_2, P127_3, P127_4, P127_5, P127_6, P127_7, P127_8⟩ := hQ127
    have N127 := Fr.app N41 N127q
    refine own_up (fun _ k => st127.trans k) ?_
    show own_Go p.tables e below _ (T127.setTop (mkF m 101 #[.val (.int p0), .val (.int p1), .val (.int p2), .val (.int p3), .val (.int p4), .val (.int p5), .val (.ref b1), .val (.ref b8), .val (.ref b16), .val (.ref b25), .val (.int (1 : Int32)), .unset, .unset] []))
    refine own_up (fun _ k => XS.iload X127.here hx rfl (hb hby at_101) rfl k) ?_
    show own_Go p.tables e below _ (T127.setTop (mkF m 103 #[.val (.int p0), .val (.int p1), .val (.int p2), .val (.int p3), .val (.int p4), .val (.int p5), .val (.ref b1), .val (.ref b8), .val (.ref b16), .val (.ref b25), .val (.int (1 : Int32)), .unset, .unset] [(.int (1 : Int32))]))
    refine own_up (fun _ k => XS.iconst X127.here hx rfl (hb hby at_103) k) ?_
    show own_Go p.tables e below _ (T127.setTop (mkF m 104 #[.val (.int p0), .val (.int p1), .val (.int p2), .val (.int p3), .val (.int p4), .val (.int p5), .val (.ref b1), .val (.ref b8), .val (.ref b16), .val (.ref b25), .val (.int (1 : Int32)), .unset, .unset] [(.int (2 : Int32)), (.int (1 : Int32))]))
    refine own_up (fun _ k => XS.icmpYes X127.here hx rfl (pc0 := 104) (pc' := 124) rfl (hb hby at_104) rfl (tlt (by decide)).1 (by decide) (by decide) k) ?_
    show own_Go p.tables e below _ (T127.setTop (mkF m 124 #[.val (.int p0), .val (.int p1), .val (.int p2), .val (.int p3), .val (.int p4), .val (.int p5), .val (.ref b1), .val (.ref b8), .val (.ref b16), .val (.ref b25), .val (.int (1 : Int32)), .unset, .unset] []))
    refine own_up (fun _ k => XS.iload X127.here hx rfl (hb hby at_124) rfl k) ?_
    show own_Go p.tables e below _ (T127.setTop (mkF m 126 #[.val (.int p0), .val (.int p1), .val (.int p2), .val (.int p3), .val (.int p4), .val (.int p5), .val (.ref b1), .val (.ref b8), .val (.ref b16), .val (.ref b25), .val (.int (1 : Int32)), .unset, .unset] [(.int (1 : Int32))]))
    refine own_up (fun _ k => XS.iconst X127.here hx rfl (hb hby at_126) k) ?_
    show own_Go p.tables e below _ (T127.setTop (mkF m 127 #[.val (.int p0), .val (.int p1), .val (.int p2), .val (.int p3), .val (.int p4), .val (.int p5), .val (.ref b1), .val (.ref b8), .val (.ref b16), .val (.ref b25), .val (.int (1 : Int32)), .unset, .unset] [(.int (3 : Int32)), (.int (1 : Int32))]))
    refine own_up (fun _ k => XS.icmpYes X127.here hx rfl (pc0 := 127) (pc' := 147) rfl (hb hby at_127) rfl (tlt (by decide)).1 (by decide) (by decide) k) ?_
    show own_Go p.tables e below _ (T127.setTop (mkF m 147 #[.val (.int p0), .val (.int p1), .val (.int p2), .val (.int p3), .val (.int p4), .val (.int p5), .val (.ref b1), .val (.ref b8), .val (.ref b16), .val (.ref b25), .val (.int (1 : Int32)), .unset, .unset] []))
    refine own_up (fun _ k => XS.iloadN X127.here hx rfl (hb hby at_147) rfl k) ?_
    show own_Go p.tables e below _ (T127.setTop (mkF m 148 #[.val (.int p0), .val (.int p1), .val (.int p2), .val (.int p3), .val (.int p4), .val (.int p5), .val (.ref b1), .val (.ref b8), .val (.ref b16), .val (.ref b25), .val (.int (1 : Int32)), .unset, .unset] [(.int p1)]))
    refine own_up (fun _ k => XS.iconst X127.here hx rfl (hb hby at_148) k) ?_
    show own_Go p.tables e below _ (T127.setTop (mkF m 149 #[.val (.int p0), .val (.int p1), .val (.int p2), .val (.int p3), .val (.int p4), .val (.int p5), .val (.ref b1), .val (.ref b8), .val (.ref b16), .val (.ref b25), .val (.int (1 : Int32)), .unset, .unset] [(.int (3 : Int32)), (.int p1)]))
    refine own_up (fun _ k => XS.iand X127.here hx rfl (hb hby at_149) rfl k) ?_
    show own_Go p.tables e below _ (T127.setTop (mkF m 150 #[.val (.int p0), .val (.int p1), .val (.int p2), .val (.int p3), .val (.int p4), .val (.int p5), .val (.ref b1), .val (.ref b8), .val (.ref b16), .val (.ref b25), .val (.int (1 : Int32)), .unset, .unset] [(.int (p1 &&& (3 : Int32)))]))
    refine own_up (fun _ k => XS.iload X127.here hx rfl (hb hby at_150) rfl k) ?_
    show own_Go p.tables e below _ (T127.setTop (mkF m 152 #[.val (.int p0), .val (.int p1), .val (.int p2), .val (.int p3), .val (.int p4), .val (.int p5), .val (.ref b1), .val (.ref b8), .val (.ref b16), .val (.ref b25), .val (.int (1 : Int32)), .unset, .unset] [(.int (1 : Int32)), (.int (p1 &&& (3 : Int32)))]))
    refine own_up (fun _ k => XS.iconst X127.here hx rfl (hb hby at_152) k) ?_
    show own_Go p.tables e below _ (T127.setTop (mkF m 153 #[.val (.int p0), .val (.int p1), .val (.int p2), .val (.int p3), .val (.int p4), .val (.int p5), .val (.ref b1), .val (.ref b8), .val (.ref b16), .val (.ref b25), .val (.int (1 : Int32)), .unset, .unset] [(.int (1 : Int32)), (.int (1 : Int32)), (.int (p1 &&& (3 : Int32)))]))
    refine own_up (fun _ k => XS.iadd X127.here hx rfl (hb hby at_153) rfl k) ?_
    show own_Go p.tables e below _ (T127.setTop (mkF m 154 #[.val (.int p0), .val (.int p1), .val (.int p2), .val (.int p3), .val (.int p4), .val (.int p5), .val (.ref b1), .val (.ref b8), .val (.ref b16), .val (.ref b25), .val (.int (1 : Int32)), .unset, .unset] [(.int (2 : Int32)), (.int (p1 &&& (3 : Int32)))]))
    refine own_up (fun _ k => iremM X127 hx rfl (hb hby at_154) rfl (by decide) k) ?_
    show own_Go p.tables e below _ (T127.setTop (mkF m 155 #[.val (.int p0), .val (.int p1), .val (.int p2), .val (.int p3), .val (.int p4), .val (.int p5), .val (.ref b1), .val (.ref b8), .val (.ref b16), .val (.ref b25), .val (.int (1 : Int32)), .unset, .unset] [(.int ((p1 &&& (3 : Int32)) % (2 : Int32)))]))
    rcases own_cut1 p1 with hc | hc
    ·
      rw [hc]
      show own_Go p.tables e below _ (T127.setTop (mkF m 155 #[.val (.int p0), .val (.int p1), .val (.int p2), .val (.int p3), .val (.int p4), .val (.int p5), .val (.ref b1), .val (.ref b8), .val (.ref b16), .val (.ref b25), .val (.int (1 : Int32)), .unset, .unset] [(.int (0 : Int32))]))
      refine own_up (fun _ k => XS.istore X127.here hx rfl (hb hby at_155) rfl (l' := #[.val (.int p0), .val (.int p1), .val (.int p2), .val (.int p3), .val (.int p4), .val (.int p5), .val (.ref b1), .val (.ref b8), .val (.ref b16), .val (.ref b25), .val (.int (1 : Int32)), .val (.int (0 : Int32)), .unset]) rfl k) ?_
      show own_Go p.tables e below _ (T127.setTop (mkF m 157 #[.val (.int p0), .val (.int p1), .val (.int p2), .val (.int p3), .val (.int p4), .val (.int p5), .val (.ref b1), .val (.ref b8), .val (.ref b16), .val (.ref b25), .val (.int (1 : Int32)), .val (.int (0 : Int32)), .unset] []))
      refine own_up (fun _ k => XS.aload X127.here hx rfl (hb hby at_157) rfl rfl k) ?_
      show own_Go p.tables e below _ (T127.setTop (mkF m 159 #[.val (.int p0), .val (.int p1), .val (.int p2), .val (.int p3), .val (.int p4), .val (.int p5), .val (.ref b1), .val (.ref b8), .val (.ref b16), .val (.ref b25), .val (.int (1 : Int32)), .val (.int (0 : Int32)), .unset] [(.ref b25)]))
      refine own_up (fun _ k => XS.iload X127.here hx rfl (hb hby at_159) rfl k) ?_
      show own_Go p.tables e below _ (T127.setTop (mkF m 161 #[.val (.int p0), .val (.int p1), .val (.int p2), .val (.int p3), .val (.int p4), .val (.int p5), .val (.ref b1), .val (.ref b8), .val (.ref b16), .val (.ref b25), .val (.int (1 : Int32)), .val (.int (0 : Int32)), .unset] [(.int (0 : Int32)), (.ref b25)]))
      have f139 : n0 ≤ T127.heap.size := (Nat.le_trans f137 K127.1)
      obtain ⟨cq138, kq138, q138a, q138b, q138c⟩ := isOf hZ rfl P127_0
      obtain ⟨_, _, ⟨T138, L138, k138, n138⟩, -, X138, ⟨Lc138, hQ138, l138, y138, z138⟩, st138⟩ := X127.virtualBack hx (y := (⟨"com/example/hintikka/hintikka/domain/ConstraintNetwork", "truncate", "(I)V"⟩ : MethodName)) (z := (⟨"com/example/hintikka/hintikka/domain/ConstraintNetwork", "truncate", "(I)V"⟩ : MethodName)) hown (mvT hZ (hw _ (List.mem_of_getElem? (i := 107) rfl))) (mvT hZ (hw _ (List.mem_of_getElem? (i := 108) rfl))) (notFace_of_selects (args := #[]) (mvT hZ (hw _ (List.mem_of_getElem? (i := 110) rfl)))) (mvT hZ (hw _ (List.mem_of_getElem? (i := 110) rfl))) (mvT hZ (hw _ (List.mem_of_getElem? (i := 109) rfl))) (by decide) (backOf (W := 0) (rmT l Z a0 hw [] b25 (0 : Int32) al_29 la_29 re_29 ri_29 (1 : Int32) T127.heap n0 f139 P127_0 P127_1 P127_2 P127_3 P127_4 P127_5 ge25 (by decide) (by decide)) hZ (hw _ (List.mem_of_getElem? (i := 111) rfl)) (hw _ (List.mem_of_getElem? (i := 3) rfl)) (by decide) (by decide)) q138a q138c (g := (mkF m 161 #[.val (.int p0), .val (.int p1), .val (.int p2), .val (.int p3), .val (.int p4), .val (.int p5), .val (.ref b1), .val (.ref b8), .val (.ref b16), .val (.ref b25), .val (.int (1 : Int32)), .val (.int (0 : Int32)), .unset] [(.int (0 : Int32)), (.ref b25)])) rfl (by rw [hml]; rfl) (Steps.refl _) (argsL := [(.int (0 : Int32))]) (rest := []) (lenOf own_pd9 rfl) rfl (by show 2 * 0 + _ ≤ _; exact Nat.le_of_eq rfl) (hb hby at_161) (fun _ _ => ⟨rfl, rfl, (by decide : 10 + 0 ≤ _), (by decide : 84 + 0 ≤ _)⟩)
      dsimp only [Pt.U, Pt.locs, Pt.cells, Pt.slots] at X138 l138 y138 z138 st138 hQ138
      subst l138 y138 z138
      obtain ⟨rfl, N138q, K138, P138_0, P138_1, P138_2, P138_3, P138_4, P138_5⟩ := hQ138
      have N138 := Fr.app N127 N138q
      refine own_up (fun _ k => st138.trans k) ?_
      show own_Go p.tables e below _ (T138.setTop (mkF m 164 #[.val (.int p0), .val (.int p1), .val (.int p2), .val (.int p3), .val (.int p4), .val (.int p5), .val (.ref b1), .val (.ref b8), .val (.ref b16), .val (.ref b25), .val (.int (1 : Int32)), .val (.int (0 : Int32)), .unset] []))
      have f140 : Exa Z T138.heap al_29 "java/util/ArrayList" := ((P41_0.keep K127).keep K138)
      have f141 : Fld Z T138.heap al_29 "java/util/ArrayList" "size" "I" (.int (2 : Int32)) := ((P41_1.keep K127 (ninS (Ne.symm P29_8) (ninS P29_12 (ninS P29_13 (ninS P29_14 nin0))))).keep K138 (ninS (Ne.symm P29_8) nin0))
      have f142 : Arv Z T138.heap b1 k1 .int (3 : Int32) [(.int (0 : Int32)), (.int (1 : Int32)), (.int (1 : Int32))] (.int (0 : Int32)) := ((f118.keep K127 (ninS ne25_0 (ninS nl29_1_0 (ninS nl29_2_0 (ninS nl29_3_0 nin0))))).keep K138 (ninS ne25_0 nin0))
      have f143 : Arv Z T138.heap b8 k8 .int (3 : Int32) [(.int (1 : Int32)), (.int (0 : Int32)), (.int (1 : Int32))] (.int (0 : Int32)) := ((f124.keep K127 (ninS ne25_1 (ninS nl29_1_1 (ninS nl29_2_1 (ninS nl29_3_1 nin0))))).keep K138 (ninS ne25_1 nin0))
      have f144 : Arv Z T138.heap b16 k16 .int (3 : Int32) [(.int p2), (.int p3), (.int p4)] (.int (0 : Int32)) := ((f121.keep K127 (ninS ne25_2 (ninS nl29_1_2 (ninS nl29_2_2 (ninS nl29_3_2 nin0))))).keep K138 (ninS ne25_2 nin0))
      have f145 : Arv Z T138.heap la_29 ka_29 .int (16 : Int32) [(.int (0 : Int32)), (.int (0 : Int32)), (.int (0 : Int32)), (.int (0 : Int32))] (.int (0 : Int32)) := (P127_6.keep K138 (ninS (Ne.symm P29_9) nin0))
      have f146 : Arv Z T138.heap re_29 ke_29 .int (16 : Int32) [(.int p2), (.int (0 : Int32)), (.int (0 : Int32)), (.int (0 : Int32))] (.int (0 : Int32)) := (P127_7.keep K138 (ninS (Ne.symm P29_10) nin0))
      have f147 : Arv Z T138.heap ri_29 ki_29 .int (16 : Int32) [(.int (1 : Int32)), (.int (0 : Int32)), (.int (0 : Int32)), (.int (0 : Int32))] (.int (0 : Int32)) := (P127_8.keep K138 (ninS (Ne.symm P29_11) nin0))
      have f148 : n0 ≤ T138.heap.size := (Nat.le_trans f139 K138.1)
      have f149 : Old Z n0 T138.heap := ((((f36.keep K35 (allS P29_4 all0)).keep K41 (allS P29_4 (allS P35_1 all0))).keep K127 (allS ge25 (allS P29_5 (allS P29_6 (allS P29_7 all0))))).keep K138 (allS ge25 all0))
      exact end0 T138 _ X138 T138.heap rfl N138 (.val (.int (1 : Int32))) (0 : Int32) (0 : Int32) (0 : Int32) (0 : Int32) p2 (0 : Int32) (0 : Int32) (0 : Int32) (1 : Int32) (0 : Int32) (0 : Int32) (0 : Int32) P138_0 P138_1 P138_2 P138_3 P138_4 f140 f141 f142 f143 f144 P138_5 f145 f146 f147 f148 f149
    ·
      rw [hc]
      show own_Go p.tables e below _ (T127.setTop (mkF m 155 #[.val (.int p0), .val (.int p1), .val (.int p2), .val (.int p3), .val (.int p4), .val (.int p5), .val (.ref b1), .val (.ref b8), .val (.ref b16), .val (.ref b25), .val (.int (1 : Int32)), .unset, .unset] [(.int (1 : Int32))]))
      refine own_up (fun _ k => XS.istore X127.here hx rfl (hb hby at_155) rfl (l' := #[.val (.int p0), .val (.int p1), .val (.int p2), .val (.int p3), .val (.int p4), .val (.int p5), .val (.ref b1), .val (.ref b8), .val (.ref b16), .val (.ref b25), .val (.int (1 : Int32)), .val (.int (1 : Int32)), .unset]) rfl k) ?_
      show own_Go p.tables e below _ (T127.setTop (mkF m 157 #[.val (.int p0), .val (.int p1), .val (.int p2), .val (.int p3), .val (.int p4), .val (.int p5), .val (.ref b1), .val (.ref b8), .val (.ref b16), .val (.ref b25), .val (.int (1 : Int32)), .val (.int (1 : Int32)), .unset] []))
      refine own_up (fun _ k => XS.aload X127.here hx rfl (hb hby at_157) rfl rfl k) ?_
      show own_Go p.tables e below _ (T127.setTop (mkF m 159 #[.val (.int p0), .val (.int p1), .val (.int p2), .val (.int p3), .val (.int p4), .val (.int p5), .val (.ref b1), .val (.ref b8), .val (.ref b16), .val (.ref b25), .val (.int (1 : Int32)), .val (.int (1 : Int32)), .unset] [(.ref b25)]))
      refine own_up (fun _ k => XS.iload X127.here hx rfl (hb hby at_159) rfl k) ?_
      show own_Go p.tables e below _ (T127.setTop (mkF m 161 #[.val (.int p0), .val (.int p1), .val (.int p2), .val (.int p3), .val (.int p4), .val (.int p5), .val (.ref b1), .val (.ref b8), .val (.ref b16), .val (.ref b25), .val (.int (1 : Int32)), .val (.int (1 : Int32)), .unset] [(.int (1 : Int32)), (.ref b25)]))
      have f151 : n0 ≤ T127.heap.size := (Nat.le_trans f137 K127.1)
      obtain ⟨cq150, kq150, q150a, q150b, q150c⟩ := isOf hZ rfl P127_0
      obtain ⟨_, _, ⟨T150, L150, k150, n150⟩, -, X150, ⟨Lc150, hQ150, l150, y150, z150⟩, st150⟩ := X127.virtualBack hx (y := (⟨"com/example/hintikka/hintikka/domain/ConstraintNetwork", "truncate", "(I)V"⟩ : MethodName)) (z := (⟨"com/example/hintikka/hintikka/domain/ConstraintNetwork", "truncate", "(I)V"⟩ : MethodName)) hown (mvT hZ (hw _ (List.mem_of_getElem? (i := 107) rfl))) (mvT hZ (hw _ (List.mem_of_getElem? (i := 108) rfl))) (notFace_of_selects (args := #[]) (mvT hZ (hw _ (List.mem_of_getElem? (i := 110) rfl)))) (mvT hZ (hw _ (List.mem_of_getElem? (i := 110) rfl))) (mvT hZ (hw _ (List.mem_of_getElem? (i := 109) rfl))) (by decide) (backOf (W := 0) (rmT l Z a0 hw [] b25 (1 : Int32) al_29 la_29 re_29 ri_29 (1 : Int32) T127.heap n0 f151 P127_0 P127_1 P127_2 P127_3 P127_4 P127_5 ge25 (by decide) (by decide)) hZ (hw _ (List.mem_of_getElem? (i := 111) rfl)) (hw _ (List.mem_of_getElem? (i := 3) rfl)) (by decide) (by decide)) q150a q150c (g := (mkF m 161 #[.val (.int p0), .val (.int p1), .val (.int p2), .val (.int p3), .val (.int p4), .val (.int p5), .val (.ref b1), .val (.ref b8), .val (.ref b16), .val (.ref b25), .val (.int (1 : Int32)), .val (.int (1 : Int32)), .unset] [(.int (1 : Int32)), (.ref b25)])) rfl (by rw [hml]; rfl) (Steps.refl _) (argsL := [(.int (1 : Int32))]) (rest := []) (lenOf own_pd9 rfl) rfl (by show 2 * 0 + _ ≤ _; exact Nat.le_of_eq rfl) (hb hby at_161) (fun _ _ => ⟨rfl, rfl, (by decide : 10 + 0 ≤ _), (by decide : 84 + 0 ≤ _)⟩)
      dsimp only [Pt.U, Pt.locs, Pt.cells, Pt.slots] at X150 l150 y150 z150 st150 hQ150
      subst l150 y150 z150
      obtain ⟨rfl, N150q, K150, P150_0, P150_1, P150_2, P150_3, P150_4, P150_5⟩ := hQ150
      have N150 := Fr.app N127 N150q
      refine own_up (fun _ k => st150.trans k) ?_
      show own_Go p.tables e below _ (T150.setTop (mkF m 164 #[.val (.int p0), .val (.int p1), .val (.int p2), .val (.int p3), .val (.int p4), .val (.int p5), .val (.ref b1), .val (.ref b8), .val (.ref b16), .val (.ref b25), .val (.int (1 : Int32)), .val (.int (1 : Int32)), .unset] []))
      have f152 : Exa Z T150.heap al_29 "java/util/ArrayList" := ((P41_0.keep K127).keep K150)
      have f153 : Fld Z T150.heap al_29 "java/util/ArrayList" "size" "I" (.int (2 : Int32)) := ((P41_1.keep K127 (ninS (Ne.symm P29_8) (ninS P29_12 (ninS P29_13 (ninS P29_14 nin0))))).keep K150 (ninS (Ne.symm P29_8) nin0))
      have f154 : Arv Z T150.heap b1 k1 .int (3 : Int32) [(.int (0 : Int32)), (.int (1 : Int32)), (.int (1 : Int32))] (.int (0 : Int32)) := ((f118.keep K127 (ninS ne25_0 (ninS nl29_1_0 (ninS nl29_2_0 (ninS nl29_3_0 nin0))))).keep K150 (ninS ne25_0 nin0))
      have f155 : Arv Z T150.heap b8 k8 .int (3 : Int32) [(.int (1 : Int32)), (.int (0 : Int32)), (.int (1 : Int32))] (.int (0 : Int32)) := ((f124.keep K127 (ninS ne25_1 (ninS nl29_1_1 (ninS nl29_2_1 (ninS nl29_3_1 nin0))))).keep K150 (ninS ne25_1 nin0))
      have f156 : Arv Z T150.heap b16 k16 .int (3 : Int32) [(.int p2), (.int p3), (.int p4)] (.int (0 : Int32)) := ((f121.keep K127 (ninS ne25_2 (ninS nl29_1_2 (ninS nl29_2_2 (ninS nl29_3_2 nin0))))).keep K150 (ninS ne25_2 nin0))
      have f157 : Arv Z T150.heap la_29 ka_29 .int (16 : Int32) [(.int (0 : Int32)), (.int (0 : Int32)), (.int (0 : Int32)), (.int (0 : Int32))] (.int (0 : Int32)) := (P127_6.keep K150 (ninS (Ne.symm P29_9) nin0))
      have f158 : Arv Z T150.heap re_29 ke_29 .int (16 : Int32) [(.int p2), (.int (0 : Int32)), (.int (0 : Int32)), (.int (0 : Int32))] (.int (0 : Int32)) := (P127_7.keep K150 (ninS (Ne.symm P29_10) nin0))
      have f159 : Arv Z T150.heap ri_29 ki_29 .int (16 : Int32) [(.int (1 : Int32)), (.int (0 : Int32)), (.int (0 : Int32)), (.int (0 : Int32))] (.int (0 : Int32)) := (P127_8.keep K150 (ninS (Ne.symm P29_11) nin0))
      have f160 : n0 ≤ T150.heap.size := (Nat.le_trans f151 K150.1)
      have f161 : Old Z n0 T150.heap := ((((f36.keep K35 (allS P29_4 all0)).keep K41 (allS P29_4 (allS P35_1 all0))).keep K127 (allS ge25 (allS P29_5 (allS P29_6 (allS P29_7 all0))))).keep K150 (allS ge25 all0))
      exact end1 T150 _ X150 T150.heap rfl N150 (.val (.int (1 : Int32))) (0 : Int32) (0 : Int32) (0 : Int32) (0 : Int32) (0 : Int32) (0 : Int32) (0 : Int32) (0 : Int32) (0 : Int32) P150_0 P150_1 P150_2 P150_3 P150_4 f152 f153 f154 f155 f156 P150_5 f157 f158 f159 f160 f161
  ·
    refine own_up (fun _ k => XS.iloadN X41.here hx rfl (hb hby at_73) rfl k) ?_
    show own_Go p.tables e below _ (T41.setTop (mkF m 74 #[.val (.int p0), .val (.int p1), .val (.int p2), .val (.int p3), .val (.int p4), .val (.int p5), .val (.ref b1), .val (.ref b8), .val (.ref b16), .val (.ref b25), .unset, .unset, .unset] [(.int p0)]))
    refine own_up (fun _ k => XS.iconst X41.here hx rfl (hb hby at_74) k) ?_
    show own_Go p.tables e below _ (T41.setTop (mkF m 75 #[.val (.int p0), .val (.int p1), .val (.int p2), .val (.int p3), .val (.int p4), .val (.int p5), .val (.ref b1), .val (.ref b8), .val (.ref b16), .val (.ref b25), .unset, .unset, .unset] [(.int (3 : Int32)), (.int p0)]))
    refine own_up (fun _ k => XS.iand X41.here hx rfl (hb hby at_75) rfl k) ?_
    show own_Go p.tables e below _ (T41.setTop (mkF m 76 #[.val (.int p0), .val (.int p1), .val (.int p2), .val (.int p3), .val (.int p4), .val (.int p5), .val (.ref b1), .val (.ref b8), .val (.ref b16), .val (.ref b25), .unset, .unset, .unset] [(.int (p0 &&& (3 : Int32)))]))
    rw [hm]
    show own_Go p.tables e below _ (T41.setTop (mkF m 76 #[.val (.int p0), .val (.int p1), .val (.int p2), .val (.int p3), .val (.int p4), .val (.int p5), .val (.ref b1), .val (.ref b8), .val (.ref b16), .val (.ref b25), .unset, .unset, .unset] [(.int (2 : Int32))]))
    refine own_up (fun _ k => XS.istore X41.here hx rfl (hb hby at_76) rfl (l' := #[.val (.int p0), .val (.int p1), .val (.int p2), .val (.int p3), .val (.int p4), .val (.int p5), .val (.ref b1), .val (.ref b8), .val (.ref b16), .val (.ref b25), .val (.int (2 : Int32)), .unset, .unset]) rfl k) ?_
    show own_Go p.tables e below _ (T41.setTop (mkF m 78 #[.val (.int p0), .val (.int p1), .val (.int p2), .val (.int p3), .val (.int p4), .val (.int p5), .val (.ref b1), .val (.ref b8), .val (.ref b16), .val (.ref b25), .val (.int (2 : Int32)), .unset, .unset] []))
    refine own_up (fun _ k => XS.iload X41.here hx rfl (hb hby at_78) rfl k) ?_
    show own_Go p.tables e below _ (T41.setTop (mkF m 80 #[.val (.int p0), .val (.int p1), .val (.int p2), .val (.int p3), .val (.int p4), .val (.int p5), .val (.ref b1), .val (.ref b8), .val (.ref b16), .val (.ref b25), .val (.int (2 : Int32)), .unset, .unset] [(.int (2 : Int32))]))
    refine own_up (fun _ k => XS.iconst X41.here hx rfl (hb hby at_80) k) ?_
    show own_Go p.tables e below _ (T41.setTop (mkF m 81 #[.val (.int p0), .val (.int p1), .val (.int p2), .val (.int p3), .val (.int p4), .val (.int p5), .val (.ref b1), .val (.ref b8), .val (.ref b16), .val (.ref b25), .val (.int (2 : Int32)), .unset, .unset] [(.int (1 : Int32)), (.int (2 : Int32))]))
    refine own_up (fun _ k => XS.icmpNo X41.here hx rfl (hb hby at_81) rfl (flt (by decide)).1 k) ?_
    show own_Go p.tables e below _ (T41.setTop (mkF m 84 #[.val (.int p0), .val (.int p1), .val (.int p2), .val (.int p3), .val (.int p4), .val (.int p5), .val (.ref b1), .val (.ref b8), .val (.ref b16), .val (.ref b25), .val (.int (2 : Int32)), .unset, .unset] []))
    refine own_up (fun _ k => XS.aload X41.here hx rfl (hb hby at_84) rfl rfl k) ?_
    show own_Go p.tables e below _ (T41.setTop (mkF m 86 #[.val (.int p0), .val (.int p1), .val (.int p2), .val (.int p3), .val (.int p4), .val (.int p5), .val (.ref b1), .val (.ref b8), .val (.ref b16), .val (.ref b25), .val (.int (2 : Int32)), .unset, .unset] [(.ref b25)]))
    refine own_up (fun _ k => XS.aload X41.here hx rfl (hb hby at_86) rfl rfl k) ?_
    show own_Go p.tables e below _ (T41.setTop (mkF m 88 #[.val (.int p0), .val (.int p1), .val (.int p2), .val (.int p3), .val (.int p4), .val (.int p5), .val (.ref b1), .val (.ref b8), .val (.ref b16), .val (.ref b25), .val (.int (2 : Int32)), .unset, .unset] [(.ref b1), (.ref b25)]))
    refine own_up (fun _ k => XS.iconst X41.here hx rfl (hb hby at_88) k) ?_
    show own_Go p.tables e below _ (T41.setTop (mkF m 89 #[.val (.int p0), .val (.int p1), .val (.int p2), .val (.int p3), .val (.int p4), .val (.int p5), .val (.ref b1), .val (.ref b8), .val (.ref b16), .val (.ref b25), .val (.int (2 : Int32)), .unset, .unset] [(.int (0 : Int32)), (.ref b1), (.ref b25)]))
    have f162 : Arv Z T41.heap b1 k1 .int (3 : Int32) [(.int (0 : Int32)), (.int (1 : Int32)), (.int (1 : Int32))] (.int (0 : Int32)) := ((f38.keep K35 (ninS nl29_0_0 nin0)).keep K41 (ninS nl29_0_0 (ninS nl35_0_0 nin0)))
    obtain ⟨cl163_, Ar163, q163, S163, M163, Hs163, G163⟩ := id (f162)
    have hin164 : ¬ ((0 : Int32) < 0 ∨ cl163_.slots.size ≤ ((0 : Int32)).toNatClampNeg) := inb_of S163 ⟨by decide, by decide⟩
    have hat164 : cl163_.slots[((0 : Int32)).toNatClampNeg]? = some (.int (0 : Int32)) := Has.at Hs163 hin164 rfl
    refine own_up (fun _ k => X41.iaload hx (j := (0 : Int32)) (v := (.int (0 : Int32))) Ar163.1 (State.isArrayOf_alike hZ.alike Ar163.2.1) Ar163.2.2 hin164 hat164 (g := (mkF m 89 #[.val (.int p0), .val (.int p1), .val (.int p2), .val (.int p3), .val (.int p4), .val (.int p5), .val (.ref b1), .val (.ref b8), .val (.ref b16), .val (.ref b25), .val (.int (2 : Int32)), .unset, .unset] [(.int (0 : Int32)), (.ref b1), (.ref b25)])) rfl rfl (hb hby at_89) _ k) ?_
    show own_Go p.tables e below _ (T41.setTop (mkF m 90 #[.val (.int p0), .val (.int p1), .val (.int p2), .val (.int p3), .val (.int p4), .val (.int p5), .val (.ref b1), .val (.ref b8), .val (.ref b16), .val (.ref b25), .val (.int (2 : Int32)), .unset, .unset] [(.int (0 : Int32)), (.ref b25)]))
    refine own_up (fun _ k => XS.aload X41.here hx rfl (hb hby at_90) rfl rfl k) ?_
    show own_Go p.tables e below _ (T41.setTop (mkF m 92 #[.val (.int p0), .val (.int p1), .val (.int p2), .val (.int p3), .val (.int p4), .val (.int p5), .val (.ref b1), .val (.ref b8), .val (.ref b16), .val (.ref b25), .val (.int (2 : Int32)), .unset, .unset] [(.ref b16), (.int (0 : Int32)), (.ref b25)]))
    refine own_up (fun _ k => XS.iconst X41.here hx rfl (hb hby at_92) k) ?_
    show own_Go p.tables e below _ (T41.setTop (mkF m 93 #[.val (.int p0), .val (.int p1), .val (.int p2), .val (.int p3), .val (.int p4), .val (.int p5), .val (.ref b1), .val (.ref b8), .val (.ref b16), .val (.ref b25), .val (.int (2 : Int32)), .unset, .unset] [(.int (0 : Int32)), (.ref b16), (.int (0 : Int32)), (.ref b25)]))
    have f165 : Arv Z T41.heap b16 k16 .int (3 : Int32) [(.int p2), (.int p3), (.int p4)] (.int (0 : Int32)) := ((f40.keep K35 (ninS nl29_0_2 nin0)).keep K41 (ninS nl29_0_2 (ninS nl35_0_2 nin0)))
    obtain ⟨cl166_, Ar166, q166, S166, M166, Hs166, G166⟩ := id (f165)
    have hin167 : ¬ ((0 : Int32) < 0 ∨ cl166_.slots.size ≤ ((0 : Int32)).toNatClampNeg) := inb_of S166 ⟨by decide, by decide⟩
    have hat167 : cl166_.slots[((0 : Int32)).toNatClampNeg]? = some (.int p2) := Has.at Hs166 hin167 rfl
    refine own_up (fun _ k => X41.iaload hx (j := (0 : Int32)) (v := (.int p2)) Ar166.1 (State.isArrayOf_alike hZ.alike Ar166.2.1) Ar166.2.2 hin167 hat167 (g := (mkF m 93 #[.val (.int p0), .val (.int p1), .val (.int p2), .val (.int p3), .val (.int p4), .val (.int p5), .val (.ref b1), .val (.ref b8), .val (.ref b16), .val (.ref b25), .val (.int (2 : Int32)), .unset, .unset] [(.int (0 : Int32)), (.ref b16), (.int (0 : Int32)), (.ref b25)])) rfl rfl (hb hby at_93) _ k) ?_
    show own_Go p.tables e below _ (T41.setTop (mkF m 94 #[.val (.int p0), .val (.int p1), .val (.int p2), .val (.int p3), .val (.int p4), .val (.int p5), .val (.ref b1), .val (.ref b8), .val (.ref b16), .val (.ref b25), .val (.int (2 : Int32)), .unset, .unset] [(.int p2), (.int (0 : Int32)), (.ref b25)]))
    refine own_up (fun _ k => XS.aload X41.here hx rfl (hb hby at_94) rfl rfl k) ?_
    show own_Go p.tables e below _ (T41.setTop (mkF m 96 #[.val (.int p0), .val (.int p1), .val (.int p2), .val (.int p3), .val (.int p4), .val (.int p5), .val (.ref b1), .val (.ref b8), .val (.ref b16), .val (.ref b25), .val (.int (2 : Int32)), .unset, .unset] [(.ref b8), (.int p2), (.int (0 : Int32)), (.ref b25)]))
    refine own_up (fun _ k => XS.iconst X41.here hx rfl (hb hby at_96) k) ?_
    show own_Go p.tables e below _ (T41.setTop (mkF m 97 #[.val (.int p0), .val (.int p1), .val (.int p2), .val (.int p3), .val (.int p4), .val (.int p5), .val (.ref b1), .val (.ref b8), .val (.ref b16), .val (.ref b25), .val (.int (2 : Int32)), .unset, .unset] [(.int (0 : Int32)), (.ref b8), (.int p2), (.int (0 : Int32)), (.ref b25)]))
    have f168 : Arv Z T41.heap b8 k8 .int (3 : Int32) [(.int (1 : Int32)), (.int (0 : Int32)), (.int (1 : Int32))] (.int (0 : Int32)) := ((f39.keep K35 (ninS nl29_0_1 nin0)).keep K41 (ninS nl29_0_1 (ninS nl35_0_1 nin0)))
    obtain ⟨cl169_, Ar169, q169, S169, M169, Hs169, G169⟩ := id (f168)
    have hin170 : ¬ ((0 : Int32) < 0 ∨ cl169_.slots.size ≤ ((0 : Int32)).toNatClampNeg) := inb_of S169 ⟨by decide, by decide⟩
    have hat170 : cl169_.slots[((0 : Int32)).toNatClampNeg]? = some (.int (1 : Int32)) := Has.at Hs169 hin170 rfl
    refine own_up (fun _ k => X41.iaload hx (j := (0 : Int32)) (v := (.int (1 : Int32))) Ar169.1 (State.isArrayOf_alike hZ.alike Ar169.2.1) Ar169.2.2 hin170 hat170 (g := (mkF m 97 #[.val (.int p0), .val (.int p1), .val (.int p2), .val (.int p3), .val (.int p4), .val (.int p5), .val (.ref b1), .val (.ref b8), .val (.ref b16), .val (.ref b25), .val (.int (2 : Int32)), .unset, .unset] [(.int (0 : Int32)), (.ref b8), (.int p2), (.int (0 : Int32)), (.ref b25)])) rfl rfl (hb hby at_97) _ k) ?_
    show own_Go p.tables e below _ (T41.setTop (mkF m 98 #[.val (.int p0), .val (.int p1), .val (.int p2), .val (.int p3), .val (.int p4), .val (.int p5), .val (.ref b1), .val (.ref b8), .val (.ref b16), .val (.ref b25), .val (.int (2 : Int32)), .unset, .unset] [(.int (1 : Int32)), (.int p2), (.int (0 : Int32)), (.ref b25)]))
    have f172 : Exa Z T41.heap b25 "com/example/hintikka/hintikka/domain/ConstraintNetwork" := (f44.keep K41)
    have f173 : Fld Z T41.heap b25 "com/example/hintikka/hintikka/domain/ConstraintNetwork" "constants" "Ljava/util/List;" (.ref al_29) := (f42.keep K41 (ninS P29_8 (ninS nl35_0_3 nin0)))
    have f174 : Fld Z T41.heap b25 "com/example/hintikka/hintikka/domain/ConstraintNetwork" "lefts" "[I" (.ref la_29) := ((P29_21.keep K35 (ninS P29_8 nin0)).keep K41 (ninS P29_8 (ninS nl35_0_3 nin0)))
    have f175 : Fld Z T41.heap b25 "com/example/hintikka/hintikka/domain/ConstraintNetwork" "relations" "[I" (.ref re_29) := ((P29_22.keep K35 (ninS P29_8 nin0)).keep K41 (ninS P29_8 (ninS nl35_0_3 nin0)))
    have f176 : Fld Z T41.heap b25 "com/example/hintikka/hintikka/domain/ConstraintNetwork" "rights" "[I" (.ref ri_29) := ((P29_23.keep K35 (ninS P29_8 nin0)).keep K41 (ninS P29_8 (ninS nl35_0_3 nin0)))
    have f177 : Fld Z T41.heap b25 "com/example/hintikka/hintikka/domain/ConstraintNetwork" "size" "I" (.int (0 : Int32)) := ((P29_20.keep K35 (ninS P29_8 nin0)).keep K41 (ninS P29_8 (ninS nl35_0_3 nin0)))
    have f178 : Arv Z T41.heap la_29 ka_29 .int (16 : Int32) [(.int (0 : Int32)), (.int (0 : Int32)), (.int (0 : Int32)), (.int (0 : Int32))] (.int (0 : Int32)) := ((P29_24.keep K35 (ninS (Ne.symm P29_12) nin0)).keep K41 (ninS (Ne.symm P29_12) (ninS nl35_0_4 nin0)))
    have f179 : Arv Z T41.heap re_29 ke_29 .int (16 : Int32) [(.int (0 : Int32)), (.int (0 : Int32)), (.int (0 : Int32)), (.int (0 : Int32))] (.int (0 : Int32)) := ((P29_25.keep K35 (ninS (Ne.symm P29_13) nin0)).keep K41 (ninS (Ne.symm P29_13) (ninS nl35_0_5 nin0)))
    have f180 : Arv Z T41.heap ri_29 ki_29 .int (16 : Int32) [(.int (0 : Int32)), (.int (0 : Int32)), (.int (0 : Int32)), (.int (0 : Int32))] (.int (0 : Int32)) := ((P29_26.keep K35 (ninS (Ne.symm P29_14) nin0)).keep K41 (ninS (Ne.symm P29_14) (ninS nl35_0_6 nin0)))
    have f181 : n0 ≤ T41.heap.size := (Nat.le_trans f43 K41.1)
    obtain ⟨cq171, kq171, q171a, q171b, q171c⟩ := isOf hZ rfl f172
    obtain ⟨_, _, ⟨T171, L171, k171, n171⟩, -, X171, ⟨Lc171, hQ171, l171, y171, z171⟩, st171⟩ := X41.virtualBack hx (y := (⟨"com/example/hintikka/hintikka/domain/ConstraintNetwork", "add", "(III)V"⟩ : MethodName)) (z := (⟨"com/example/hintikka/hintikka/domain/ConstraintNetwork", "add", "(III)V"⟩ : MethodName)) hown (mvT hZ (hw _ (List.mem_of_getElem? (i := 124) rfl))) (mvT hZ (hw _ (List.mem_of_getElem? (i := 125) rfl))) (notFace_of_selects (args := #[]) (mvT hZ (hw _ (List.mem_of_getElem? (i := 127) rfl)))) (mvT hZ (hw _ (List.mem_of_getElem? (i := 127) rfl))) (mvT hZ (hw _ (List.mem_of_getElem? (i := 126) rfl))) (by decide) (backOf (W := 0) (rmAd0 l Z a0 hw [] b25 (0 : Int32) p2 (1 : Int32) al_29 la_29 re_29 ri_29 ka_29 ke_29 ki_29 (0 : Int32) (0 : Int32) (0 : Int32) (0 : Int32) (0 : Int32) (0 : Int32) (0 : Int32) (0 : Int32) (0 : Int32) (0 : Int32) (0 : Int32) (0 : Int32) T41.heap n0 f181 f172 f173 f174 f175 f176 P41_0 P41_1 f177 f178 f179 f180 ge25 P29_5 P29_6 P29_7 P29_8 P29_9 P29_10 P29_11 P29_12 P29_13 P29_14 P29_15 P29_16 P29_17 (by decide) (by decide) (by decide) (by decide)) hZ (hw _ (List.mem_of_getElem? (i := 128) rfl)) (hw _ (List.mem_of_getElem? (i := 3) rfl)) (by decide) (by decide)) q171a q171c (g := (mkF m 98 #[.val (.int p0), .val (.int p1), .val (.int p2), .val (.int p3), .val (.int p4), .val (.int p5), .val (.ref b1), .val (.ref b8), .val (.ref b16), .val (.ref b25), .val (.int (2 : Int32)), .unset, .unset] [(.int (1 : Int32)), (.int p2), (.int (0 : Int32)), (.ref b25)])) rfl (by rw [hml]; rfl) (Steps.refl _) (argsL := [(.int (0 : Int32)), (.int p2), (.int (1 : Int32))]) (rest := []) (lenOf own_pd8 rfl) rfl (by show 2 * 0 + _ ≤ _; exact Nat.le_of_eq rfl) (hb hby at_98) (fun _ _ => ⟨rfl, rfl, (by decide : 10 + 0 ≤ _), (by decide : 84 + 0 ≤ _)⟩)
    dsimp only [Pt.U, Pt.locs, Pt.cells, Pt.slots] at X171 l171 y171 z171 st171 hQ171
    subst l171 y171 z171
    obtain ⟨rfl, N171q, K171, P171_0, P171_1, P171_2, P171_3, P171_4, P171_5, P171_6, P171_7, P171_8⟩ := hQ171
    have N171 := Fr.app N41 N171q
    refine own_up (fun _ k => st171.trans k) ?_
    show own_Go p.tables e below _ (T171.setTop (mkF m 101 #[.val (.int p0), .val (.int p1), .val (.int p2), .val (.int p3), .val (.int p4), .val (.int p5), .val (.ref b1), .val (.ref b8), .val (.ref b16), .val (.ref b25), .val (.int (2 : Int32)), .unset, .unset] []))
    refine own_up (fun _ k => XS.iload X171.here hx rfl (hb hby at_101) rfl k) ?_
    show own_Go p.tables e below _ (T171.setTop (mkF m 103 #[.val (.int p0), .val (.int p1), .val (.int p2), .val (.int p3), .val (.int p4), .val (.int p5), .val (.ref b1), .val (.ref b8), .val (.ref b16), .val (.ref b25), .val (.int (2 : Int32)), .unset, .unset] [(.int (2 : Int32))]))
    refine own_up (fun _ k => XS.iconst X171.here hx rfl (hb hby at_103) k) ?_
    show own_Go p.tables e below _ (T171.setTop (mkF m 104 #[.val (.int p0), .val (.int p1), .val (.int p2), .val (.int p3), .val (.int p4), .val (.int p5), .val (.ref b1), .val (.ref b8), .val (.ref b16), .val (.ref b25), .val (.int (2 : Int32)), .unset, .unset] [(.int (2 : Int32)), (.int (2 : Int32))]))
    refine own_up (fun _ k => XS.icmpNo X171.here hx rfl (hb hby at_104) rfl (flt (by decide)).1 k) ?_
    show own_Go p.tables e below _ (T171.setTop (mkF m 107 #[.val (.int p0), .val (.int p1), .val (.int p2), .val (.int p3), .val (.int p4), .val (.int p5), .val (.ref b1), .val (.ref b8), .val (.ref b16), .val (.ref b25), .val (.int (2 : Int32)), .unset, .unset] []))
    refine own_up (fun _ k => XS.aload X171.here hx rfl (hb hby at_107) rfl rfl k) ?_
    show own_Go p.tables e below _ (T171.setTop (mkF m 109 #[.val (.int p0), .val (.int p1), .val (.int p2), .val (.int p3), .val (.int p4), .val (.int p5), .val (.ref b1), .val (.ref b8), .val (.ref b16), .val (.ref b25), .val (.int (2 : Int32)), .unset, .unset] [(.ref b25)]))
    refine own_up (fun _ k => XS.aload X171.here hx rfl (hb hby at_109) rfl rfl k) ?_
    show own_Go p.tables e below _ (T171.setTop (mkF m 111 #[.val (.int p0), .val (.int p1), .val (.int p2), .val (.int p3), .val (.int p4), .val (.int p5), .val (.ref b1), .val (.ref b8), .val (.ref b16), .val (.ref b25), .val (.int (2 : Int32)), .unset, .unset] [(.ref b1), (.ref b25)]))
    refine own_up (fun _ k => XS.iconst X171.here hx rfl (hb hby at_111) k) ?_
    show own_Go p.tables e below _ (T171.setTop (mkF m 112 #[.val (.int p0), .val (.int p1), .val (.int p2), .val (.int p3), .val (.int p4), .val (.int p5), .val (.ref b1), .val (.ref b8), .val (.ref b16), .val (.ref b25), .val (.int (2 : Int32)), .unset, .unset] [(.int (1 : Int32)), (.ref b1), (.ref b25)]))
    have f182 : Arv Z T171.heap b1 k1 .int (3 : Int32) [(.int (0 : Int32)), (.int (1 : Int32)), (.int (1 : Int32))] (.int (0 : Int32)) := (f162.keep K171 (ninS ne25_0 (ninS nl29_1_0 (ninS nl29_2_0 (ninS nl29_3_0 nin0)))))
    obtain ⟨cl183_, Ar183, q183, S183, M183, Hs183, G183⟩ := id (f182)
    have hin184 : ¬ ((1 : Int32) < 0 ∨ cl183_.slots.size ≤ ((1 : Int32)).toNatClampNeg) := inb_of S183 ⟨by decide, by decide⟩
    have hat184 : cl183_.slots[((1 : Int32)).toNatClampNeg]? = some (.int (1 : Int32)) := Has.at Hs183 hin184 rfl
    refine own_up (fun _ k => X171.iaload hx (j := (1 : Int32)) (v := (.int (1 : Int32))) Ar183.1 (State.isArrayOf_alike hZ.alike Ar183.2.1) Ar183.2.2 hin184 hat184 (g := (mkF m 112 #[.val (.int p0), .val (.int p1), .val (.int p2), .val (.int p3), .val (.int p4), .val (.int p5), .val (.ref b1), .val (.ref b8), .val (.ref b16), .val (.ref b25), .val (.int (2 : Int32)), .unset, .unset] [(.int (1 : Int32)), (.ref b1), (.ref b25)])) rfl rfl (hb hby at_112) _ k) ?_
    show own_Go p.tables e below _ (T171.setTop (mkF m 113 #[.val (.int p0), .val (.int p1), .val (.int p2), .val (.int p3), .val (.int p4), .val (.int p5), .val (.ref b1), .val (.ref b8), .val (.ref b16), .val (.ref b25), .val (.int (2 : Int32)), .unset, .unset] [(.int (1 : Int32)), (.ref b25)]))
    refine own_up (fun _ k => XS.aload X171.here hx rfl (hb hby at_113) rfl rfl k) ?_
    show own_Go p.tables e below _ (T171.setTop (mkF m 115 #[.val (.int p0), .val (.int p1), .val (.int p2), .val (.int p3), .val (.int p4), .val (.int p5), .val (.ref b1), .val (.ref b8), .val (.ref b16), .val (.ref b25), .val (.int (2 : Int32)), .unset, .unset] [(.ref b16), (.int (1 : Int32)), (.ref b25)]))
    refine own_up (fun _ k => XS.iconst X171.here hx rfl (hb hby at_115) k) ?_
    show own_Go p.tables e below _ (T171.setTop (mkF m 116 #[.val (.int p0), .val (.int p1), .val (.int p2), .val (.int p3), .val (.int p4), .val (.int p5), .val (.ref b1), .val (.ref b8), .val (.ref b16), .val (.ref b25), .val (.int (2 : Int32)), .unset, .unset] [(.int (1 : Int32)), (.ref b16), (.int (1 : Int32)), (.ref b25)]))
    have f185 : Arv Z T171.heap b16 k16 .int (3 : Int32) [(.int p2), (.int p3), (.int p4)] (.int (0 : Int32)) := (f165.keep K171 (ninS ne25_2 (ninS nl29_1_2 (ninS nl29_2_2 (ninS nl29_3_2 nin0)))))
    obtain ⟨cl186_, Ar186, q186, S186, M186, Hs186, G186⟩ := id (f185)
    have hin187 : ¬ ((1 : Int32) < 0 ∨ cl186_.slots.size ≤ ((1 : Int32)).toNatClampNeg) := inb_of S186 ⟨by decide, by decide⟩
    have hat187 : cl186_.slots[((1 : Int32)).toNatClampNeg]? = some (.int p3) := Has.at Hs186 hin187 rfl
    refine own_up (fun _ k => X171.iaload hx (j := (1 : Int32)) (v := (.int p3)) Ar186.1 (State.isArrayOf_alike hZ.alike Ar186.2.1) Ar186.2.2 hin187 hat187 (g := (mkF m 116 #[.val (.int p0), .val (.int p1), .val (.int p2), .val (.int p3), .val (.int p4), .val (.int p5), .val (.ref b1), .val (.ref b8), .val (.ref b16), .val (.ref b25), .val (.int (2 : Int32)), .unset, .unset] [(.int (1 : Int32)), (.ref b16), (.int (1 : Int32)), (.ref b25)])) rfl rfl (hb hby at_116) _ k) ?_
    show own_Go p.tables e below _ (T171.setTop (mkF m 117 #[.val (.int p0), .val (.int p1), .val (.int p2), .val (.int p3), .val (.int p4), .val (.int p5), .val (.ref b1), .val (.ref b8), .val (.ref b16), .val (.ref b25), .val (.int (2 : Int32)), .unset, .unset] [(.int p3), (.int (1 : Int32)), (.ref b25)]))
    refine own_up (fun _ k => XS.aload X171.here hx rfl (hb hby at_117) rfl rfl k) ?_
    show own_Go p.tables e below _ (T171.setTop (mkF m 119 #[.val (.int p0), .val (.int p1), .val (.int p2), .val (.int p3), .val (.int p4), .val (.int p5), .val (.ref b1), .val (.ref b8), .val (.ref b16), .val (.ref b25), .val (.int (2 : Int32)), .unset, .unset] [(.ref b8), (.int p3), (.int (1 : Int32)), (.ref b25)]))
    refine own_up (fun _ k => XS.iconst X171.here hx rfl (hb hby at_119) k) ?_
    show own_Go p.tables e below _ (T171.setTop (mkF m 120 #[.val (.int p0), .val (.int p1), .val (.int p2), .val (.int p3), .val (.int p4), .val (.int p5), .val (.ref b1), .val (.ref b8), .val (.ref b16), .val (.ref b25), .val (.int (2 : Int32)), .unset, .unset] [(.int (1 : Int32)), (.ref b8), (.int p3), (.int (1 : Int32)), (.ref b25)]))
    have f188 : Arv Z T171.heap b8 k8 .int (3 : Int32) [(.int (1 : Int32)), (.int (0 : Int32)), (.int (1 : Int32))] (.int (0 : Int32)) := (f168.keep K171 (ninS ne25_1 (ninS nl29_1_1 (ninS nl29_2_1 (ninS nl29_3_1 nin0)))))
    obtain ⟨cl189_, Ar189, q189, S189, M189, Hs189, G189⟩ := id (f188)
    have hin190 : ¬ ((1 : Int32) < 0 ∨ cl189_.slots.size ≤ ((1 : Int32)).toNatClampNeg) := inb_of S189 ⟨by decide, by decide⟩
    have hat190 : cl189_.slots[((1 : Int32)).toNatClampNeg]? = some (.int (0 : Int32)) := Has.at Hs189 hin190 rfl
    refine own_up (fun _ k => X171.iaload hx (j := (1 : Int32)) (v := (.int (0 : Int32))) Ar189.1 (State.isArrayOf_alike hZ.alike Ar189.2.1) Ar189.2.2 hin190 hat190 (g := (mkF m 120 #[.val (.int p0), .val (.int p1), .val (.int p2), .val (.int p3), .val (.int p4), .val (.int p5), .val (.ref b1), .val (.ref b8), .val (.ref b16), .val (.ref b25), .val (.int (2 : Int32)), .unset, .unset] [(.int (1 : Int32)), (.ref b8), (.int p3), (.int (1 : Int32)), (.ref b25)])) rfl rfl (hb hby at_120) _ k) ?_
    show own_Go p.tables e below _ (T171.setTop (mkF m 121 #[.val (.int p0), .val (.int p1), .val (.int p2), .val (.int p3), .val (.int p4), .val (.int p5), .val (.ref b1), .val (.ref b8), .val (.ref b16), .val (.ref b25), .val (.int (2 : Int32)), .unset, .unset] [(.int (0 : Int32)), (.int p3), (.int (1 : Int32)), (.ref b25)]))
    have f192 : Exa Z T171.heap al_29 "java/util/ArrayList" := (P41_0.keep K171)
    have f193 : Fld Z T171.heap al_29 "java/util/ArrayList" "size" "I" (.int (2 : Int32)) := (P41_1.keep K171 (ninS (Ne.symm P29_8) (ninS P29_12 (ninS P29_13 (ninS P29_14 nin0)))))
    have f194 : n0 ≤ T171.heap.size := (Nat.le_trans f181 K171.1)
    obtain ⟨cq191, kq191, q191a, q191b, q191c⟩ := isOf hZ rfl P171_0
    obtain ⟨_, _, ⟨T191, L191, k191, n191⟩, -, X191, ⟨Lc191, hQ191, l191, y191, z191⟩, st191⟩ := X171.virtualBack hx (y := (⟨"com/example/hintikka/hintikka/domain/ConstraintNetwork", "add", "(III)V"⟩ : MethodName)) (z := (⟨"com/example/hintikka/hintikka/domain/ConstraintNetwork", "add", "(III)V"⟩ : MethodName)) hown (mvT hZ (hw _ (List.mem_of_getElem? (i := 124) rfl))) (mvT hZ (hw _ (List.mem_of_getElem? (i := 125) rfl))) (notFace_of_selects (args := #[]) (mvT hZ (hw _ (List.mem_of_getElem? (i := 127) rfl)))) (mvT hZ (hw _ (List.mem_of_getElem? (i := 127) rfl))) (mvT hZ (hw _ (List.mem_of_getElem? (i := 126) rfl))) (by decide) (backOf (W := 0) (rmAd1 l Z a0 hw [] b25 (1 : Int32) p3 (0 : Int32) al_29 la_29 re_29 ri_29 ka_29 ke_29 ki_29 (0 : Int32) (0 : Int32) (0 : Int32) (0 : Int32) p2 (0 : Int32) (0 : Int32) (0 : Int32) (1 : Int32) (0 : Int32) (0 : Int32) (0 : Int32) T171.heap n0 f194 P171_0 P171_1 P171_2 P171_3 P171_4 f192 f193 P171_5 P171_6 P171_7 P171_8 ge25 P29_5 P29_6 P29_7 P29_8 P29_9 P29_10 P29_11 P29_12 P29_13 P29_14 P29_15 P29_16 P29_17 (by decide) (by decide) (by decide) (by decide)) hZ (hw _ (List.mem_of_getElem? (i := 128) rfl)) (hw _ (List.mem_of_getElem? (i := 3) rfl)) (by decide) (by decide)) q191a q191c (g := (mkF m 121 #[.val (.int p0), .val (.int p1), .val (.int p2), .val (.int p3), .val (.int p4), .val (.int p5), .val (.ref b1), .val (.ref b8), .val (.ref b16), .val (.ref b25), .val (.int (2 : Int32)), .unset, .unset] [(.int (0 : Int32)), (.int p3), (.int (1 : Int32)), (.ref b25)])) rfl (by rw [hml]; rfl) (Steps.refl _) (argsL := [(.int (1 : Int32)), (.int p3), (.int (0 : Int32))]) (rest := []) (lenOf own_pd8 rfl) rfl (by show 2 * 0 + _ ≤ _; exact Nat.le_of_eq rfl) (hb hby at_121) (fun _ _ => ⟨rfl, rfl, (by decide : 10 + 0 ≤ _), (by decide : 84 + 0 ≤ _)⟩)
    dsimp only [Pt.U, Pt.locs, Pt.cells, Pt.slots] at X191 l191 y191 z191 st191 hQ191
    subst l191 y191 z191
    obtain ⟨rfl, N191q, K191, P191_0, P191_1, P191_2, P191_3, P191_4, P191_5, P191_6, P191_7, P191_8⟩ := hQ191
    have N191 := Fr.app N171 N191q
    refine own_up (fun _ k => st191.trans k) ?_
    show own_Go p.tables e below _ (T191.setTop (mkF m 124 #[.val (.int p0), .val (.int p1), .val (.int p2), .val (.int p3), .val (.int p4), .val (.int p5), .val (.ref b1), .val (.ref b8), .val (.ref b16), .val (.ref b25), .val (.int (2 : Int32)), .unset, .unset] []))
    refine own_up (fun _ k => XS.iload X191.here hx rfl (hb hby at_124) rfl k) ?_
    show own_Go p.tables e below _ (T191.setTop (mkF m 126 #[.val (.int p0), .val (.int p1), .val (.int p2), .val (.int p3), .val (.int p4), .val (.int p5), .val (.ref b1), .val (.ref b8), .val (.ref b16), .val (.ref b25), .val (.int (2 : Int32)), .unset, .unset] [(.int (2 : Int32))]))
    refine own_up (fun _ k => XS.iconst X191.here hx rfl (hb hby at_126) k) ?_
    show own_Go p.tables e below _ (T191.setTop (mkF m 127 #[.val (.int p0), .val (.int p1), .val (.int p2), .val (.int p3), .val (.int p4), .val (.int p5), .val (.ref b1), .val (.ref b8), .val (.ref b16), .val (.ref b25), .val (.int (2 : Int32)), .unset, .unset] [(.int (3 : Int32)), (.int (2 : Int32))]))
    refine own_up (fun _ k => XS.icmpYes X191.here hx rfl (pc0 := 127) (pc' := 147) rfl (hb hby at_127) rfl (tlt (by decide)).1 (by decide) (by decide) k) ?_
    show own_Go p.tables e below _ (T191.setTop (mkF m 147 #[.val (.int p0), .val (.int p1), .val (.int p2), .val (.int p3), .val (.int p4), .val (.int p5), .val (.ref b1), .val (.ref b8), .val (.ref b16), .val (.ref b25), .val (.int (2 : Int32)), .unset, .unset] []))
    refine own_up (fun _ k => XS.iloadN X191.here hx rfl (hb hby at_147) rfl k) ?_
    show own_Go p.tables e below _ (T191.setTop (mkF m 148 #[.val (.int p0), .val (.int p1), .val (.int p2), .val (.int p3), .val (.int p4), .val (.int p5), .val (.ref b1), .val (.ref b8), .val (.ref b16), .val (.ref b25), .val (.int (2 : Int32)), .unset, .unset] [(.int p1)]))
    refine own_up (fun _ k => XS.iconst X191.here hx rfl (hb hby at_148) k) ?_
    show own_Go p.tables e below _ (T191.setTop (mkF m 149 #[.val (.int p0), .val (.int p1), .val (.int p2), .val (.int p3), .val (.int p4), .val (.int p5), .val (.ref b1), .val (.ref b8), .val (.ref b16), .val (.ref b25), .val (.int (2 : Int32)), .unset, .unset] [(.int (3 : Int32)), (.int p1)]))
    refine own_up (fun _ k => XS.iand X191.here hx rfl (hb hby at_149) rfl k) ?_
    show own_Go p.tables e below _ (T191.setTop (mkF m 150 #[.val (.int p0), .val (.int p1), .val (.int p2), .val (.int p3), .val (.int p4), .val (.int p5), .val (.ref b1), .val (.ref b8), .val (.ref b16), .val (.ref b25), .val (.int (2 : Int32)), .unset, .unset] [(.int (p1 &&& (3 : Int32)))]))
    refine own_up (fun _ k => XS.iload X191.here hx rfl (hb hby at_150) rfl k) ?_
    show own_Go p.tables e below _ (T191.setTop (mkF m 152 #[.val (.int p0), .val (.int p1), .val (.int p2), .val (.int p3), .val (.int p4), .val (.int p5), .val (.ref b1), .val (.ref b8), .val (.ref b16), .val (.ref b25), .val (.int (2 : Int32)), .unset, .unset] [(.int (2 : Int32)), (.int (p1 &&& (3 : Int32)))]))
    refine own_up (fun _ k => XS.iconst X191.here hx rfl (hb hby at_152) k) ?_
    show own_Go p.tables e below _ (T191.setTop (mkF m 153 #[.val (.int p0), .val (.int p1), .val (.int p2), .val (.int p3), .val (.int p4), .val (.int p5), .val (.ref b1), .val (.ref b8), .val (.ref b16), .val (.ref b25), .val (.int (2 : Int32)), .unset, .unset] [(.int (1 : Int32)), (.int (2 : Int32)), (.int (p1 &&& (3 : Int32)))]))
    refine own_up (fun _ k => XS.iadd X191.here hx rfl (hb hby at_153) rfl k) ?_
    show own_Go p.tables e below _ (T191.setTop (mkF m 154 #[.val (.int p0), .val (.int p1), .val (.int p2), .val (.int p3), .val (.int p4), .val (.int p5), .val (.ref b1), .val (.ref b8), .val (.ref b16), .val (.ref b25), .val (.int (2 : Int32)), .unset, .unset] [(.int (3 : Int32)), (.int (p1 &&& (3 : Int32)))]))
    refine own_up (fun _ k => iremM X191 hx rfl (hb hby at_154) rfl (by decide) k) ?_
    show own_Go p.tables e below _ (T191.setTop (mkF m 155 #[.val (.int p0), .val (.int p1), .val (.int p2), .val (.int p3), .val (.int p4), .val (.int p5), .val (.ref b1), .val (.ref b8), .val (.ref b16), .val (.ref b25), .val (.int (2 : Int32)), .unset, .unset] [(.int ((p1 &&& (3 : Int32)) % (3 : Int32)))]))
    rcases own_cut2 p1 with hc | hc | hc
    ·
      rw [hc]
      show own_Go p.tables e below _ (T191.setTop (mkF m 155 #[.val (.int p0), .val (.int p1), .val (.int p2), .val (.int p3), .val (.int p4), .val (.int p5), .val (.ref b1), .val (.ref b8), .val (.ref b16), .val (.ref b25), .val (.int (2 : Int32)), .unset, .unset] [(.int (0 : Int32))]))
      refine own_up (fun _ k => XS.istore X191.here hx rfl (hb hby at_155) rfl (l' := #[.val (.int p0), .val (.int p1), .val (.int p2), .val (.int p3), .val (.int p4), .val (.int p5), .val (.ref b1), .val (.ref b8), .val (.ref b16), .val (.ref b25), .val (.int (2 : Int32)), .val (.int (0 : Int32)), .unset]) rfl k) ?_
      show own_Go p.tables e below _ (T191.setTop (mkF m 157 #[.val (.int p0), .val (.int p1), .val (.int p2), .val (.int p3), .val (.int p4), .val (.int p5), .val (.ref b1), .val (.ref b8), .val (.ref b16), .val (.ref b25), .val (.int (2 : Int32)), .val (.int (0 : Int32)), .unset] []))
      refine own_up (fun _ k => XS.aload X191.here hx rfl (hb hby at_157) rfl rfl k) ?_
      show own_Go p.tables e below _ (T191.setTop (mkF m 159 #[.val (.int p0), .val (.int p1), .val (.int p2), .val (.int p3), .val (.int p4), .val (.int p5), .val (.ref b1), .val (.ref b8), .val (.ref b16), .val (.ref b25), .val (.int (2 : Int32)), .val (.int (0 : Int32)), .unset] [(.ref b25)]))
      refine own_up (fun _ k => XS.iload X191.here hx rfl (hb hby at_159) rfl k) ?_
      show own_Go p.tables e below _ (T191.setTop (mkF m 161 #[.val (.int p0), .val (.int p1), .val (.int p2), .val (.int p3), .val (.int p4), .val (.int p5), .val (.ref b1), .val (.ref b8), .val (.ref b16), .val (.ref b25), .val (.int (2 : Int32)), .val (.int (0 : Int32)), .unset] [(.int (0 : Int32)), (.ref b25)]))
      have f196 : n0 ≤ T191.heap.size := (Nat.le_trans f194 K191.1)
      obtain ⟨cq195, kq195, q195a, q195b, q195c⟩ := isOf hZ rfl P191_0
      obtain ⟨_, _, ⟨T195, L195, k195, n195⟩, -, X195, ⟨Lc195, hQ195, l195, y195, z195⟩, st195⟩ := X191.virtualBack hx (y := (⟨"com/example/hintikka/hintikka/domain/ConstraintNetwork", "truncate", "(I)V"⟩ : MethodName)) (z := (⟨"com/example/hintikka/hintikka/domain/ConstraintNetwork", "truncate", "(I)V"⟩ : MethodName)) hown (mvT hZ (hw _ (List.mem_of_getElem? (i := 107) rfl))) (mvT hZ (hw _ (List.mem_of_getElem? (i := 108) rfl))) (notFace_of_selects (args := #[]) (mvT hZ (hw _ (List.mem_of_getElem? (i := 110) rfl)))) (mvT hZ (hw _ (List.mem_of_getElem? (i := 110) rfl))) (mvT hZ (hw _ (List.mem_of_getElem? (i := 109) rfl))) (by decide) (backOf (W := 0) (rmT l Z a0 hw [] b25 (0 : Int32) al_29 la_29 re_29 ri_29 (2 : Int32) T191.heap n0 f196 P191_0 P191_1 P191_2 P191_3 P191_4 P191_5 ge25 (by decide) (by decide)) hZ (hw _ (List.mem_of_getElem? (i := 111) rfl)) (hw _ (List.mem_of_getElem? (i := 3) rfl)) (by decide) (by decide)) q195a q195c (g := (mkF m 161 #[.val (.int p0), .val (.int p1), .val (.int p2), .val (.int p3), .val (.int p4), .val (.int p5), .val (.ref b1), .val (.ref b8), .val (.ref b16), .val (.ref b25), .val (.int (2 : Int32)), .val (.int (0 : Int32)), .unset] [(.int (0 : Int32)), (.ref b25)])) rfl (by rw [hml]; rfl) (Steps.refl _) (argsL := [(.int (0 : Int32))]) (rest := []) (lenOf own_pd9 rfl) rfl (by show 2 * 0 + _ ≤ _; exact Nat.le_of_eq rfl) (hb hby at_161) (fun _ _ => ⟨rfl, rfl, (by decide : 10 + 0 ≤ _), (by decide : 84 + 0 ≤ _)⟩)
      dsimp only [Pt.U, Pt.locs, Pt.cells, Pt.slots] at X195 l195 y195 z195 st195 hQ195
      subst l195 y195 z195
      obtain ⟨rfl, N195q, K195, P195_0, P195_1, P195_2, P195_3, P195_4, P195_5⟩ := hQ195
      have N195 := Fr.app N191 N195q
      refine own_up (fun _ k => st195.trans k) ?_
      show own_Go p.tables e below _ (T195.setTop (mkF m 164 #[.val (.int p0), .val (.int p1), .val (.int p2), .val (.int p3), .val (.int p4), .val (.int p5), .val (.ref b1), .val (.ref b8), .val (.ref b16), .val (.ref b25), .val (.int (2 : Int32)), .val (.int (0 : Int32)), .unset] []))
      have f197 : Exa Z T195.heap al_29 "java/util/ArrayList" := ((f192.keep K191).keep K195)
      have f198 : Fld Z T195.heap al_29 "java/util/ArrayList" "size" "I" (.int (2 : Int32)) := ((f193.keep K191 (ninS (Ne.symm P29_8) (ninS P29_12 (ninS P29_13 (ninS P29_14 nin0))))).keep K195 (ninS (Ne.symm P29_8) nin0))
      have f199 : Arv Z T195.heap b1 k1 .int (3 : Int32) [(.int (0 : Int32)), (.int (1 : Int32)), (.int (1 : Int32))] (.int (0 : Int32)) := ((f182.keep K191 (ninS ne25_0 (ninS nl29_1_0 (ninS nl29_2_0 (ninS nl29_3_0 nin0))))).keep K195 (ninS ne25_0 nin0))
      have f200 : Arv Z T195.heap b8 k8 .int (3 : Int32) [(.int (1 : Int32)), (.int (0 : Int32)), (.int (1 : Int32))] (.int (0 : Int32)) := ((f188.keep K191 (ninS ne25_1 (ninS nl29_1_1 (ninS nl29_2_1 (ninS nl29_3_1 nin0))))).keep K195 (ninS ne25_1 nin0))
      have f201 : Arv Z T195.heap b16 k16 .int (3 : Int32) [(.int p2), (.int p3), (.int p4)] (.int (0 : Int32)) := ((f185.keep K191 (ninS ne25_2 (ninS nl29_1_2 (ninS nl29_2_2 (ninS nl29_3_2 nin0))))).keep K195 (ninS ne25_2 nin0))
      have f202 : Arv Z T195.heap la_29 ka_29 .int (16 : Int32) [(.int (0 : Int32)), (.int (1 : Int32)), (.int (0 : Int32)), (.int (0 : Int32))] (.int (0 : Int32)) := (P191_6.keep K195 (ninS (Ne.symm P29_9) nin0))
      have f203 : Arv Z T195.heap re_29 ke_29 .int (16 : Int32) [(.int p2), (.int p3), (.int (0 : Int32)), (.int (0 : Int32))] (.int (0 : Int32)) := (P191_7.keep K195 (ninS (Ne.symm P29_10) nin0))
      have f204 : Arv Z T195.heap ri_29 ki_29 .int (16 : Int32) [(.int (1 : Int32)), (.int (0 : Int32)), (.int (0 : Int32)), (.int (0 : Int32))] (.int (0 : Int32)) := (P191_8.keep K195 (ninS (Ne.symm P29_11) nin0))
      have f205 : n0 ≤ T195.heap.size := (Nat.le_trans f196 K195.1)
      have f206 : Old Z n0 T195.heap := (((((f36.keep K35 (allS P29_4 all0)).keep K41 (allS P29_4 (allS P35_1 all0))).keep K171 (allS ge25 (allS P29_5 (allS P29_6 (allS P29_7 all0))))).keep K191 (allS ge25 (allS P29_5 (allS P29_6 (allS P29_7 all0))))).keep K195 (allS ge25 all0))
      exact end0 T195 _ X195 T195.heap rfl N195 (.val (.int (2 : Int32))) (0 : Int32) (1 : Int32) (0 : Int32) (0 : Int32) p2 p3 (0 : Int32) (0 : Int32) (1 : Int32) (0 : Int32) (0 : Int32) (0 : Int32) P195_0 P195_1 P195_2 P195_3 P195_4 f197 f198 f199 f200 f201 P195_5 f202 f203 f204 f205 f206
    ·
      rw [hc]
      show own_Go p.tables e below _ (T191.setTop (mkF m 155 #[.val (.int p0), .val (.int p1), .val (.int p2), .val (.int p3), .val (.int p4), .val (.int p5), .val (.ref b1), .val (.ref b8), .val (.ref b16), .val (.ref b25), .val (.int (2 : Int32)), .unset, .unset] [(.int (1 : Int32))]))
      refine own_up (fun _ k => XS.istore X191.here hx rfl (hb hby at_155) rfl (l' := #[.val (.int p0), .val (.int p1), .val (.int p2), .val (.int p3), .val (.int p4), .val (.int p5), .val (.ref b1), .val (.ref b8), .val (.ref b16), .val (.ref b25), .val (.int (2 : Int32)), .val (.int (1 : Int32)), .unset]) rfl k) ?_
      show own_Go p.tables e below _ (T191.setTop (mkF m 157 #[.val (.int p0), .val (.int p1), .val (.int p2), .val (.int p3), .val (.int p4), .val (.int p5), .val (.ref b1), .val (.ref b8), .val (.ref b16), .val (.ref b25), .val (.int (2 : Int32)), .val (.int (1 : Int32)), .unset] []))
      refine own_up (fun _ k => XS.aload X191.here hx rfl (hb hby at_157) rfl rfl k) ?_
      show own_Go p.tables e below _ (T191.setTop (mkF m 159 #[.val (.int p0), .val (.int p1), .val (.int p2), .val (.int p3), .val (.int p4), .val (.int p5), .val (.ref b1), .val (.ref b8), .val (.ref b16), .val (.ref b25), .val (.int (2 : Int32)), .val (.int (1 : Int32)), .unset] [(.ref b25)]))
      refine own_up (fun _ k => XS.iload X191.here hx rfl (hb hby at_159) rfl k) ?_
      show own_Go p.tables e below _ (T191.setTop (mkF m 161 #[.val (.int p0), .val (.int p1), .val (.int p2), .val (.int p3), .val (.int p4), .val (.int p5), .val (.ref b1), .val (.ref b8), .val (.ref b16), .val (.ref b25), .val (.int (2 : Int32)), .val (.int (1 : Int32)), .unset] [(.int (1 : Int32)), (.ref b25)]))
      have f208 : n0 ≤ T191.heap.size := (Nat.le_trans f194 K191.1)
      obtain ⟨cq207, kq207, q207a, q207b, q207c⟩ := isOf hZ rfl P191_0
      obtain ⟨_, _, ⟨T207, L207, k207, n207⟩, -, X207, ⟨Lc207, hQ207, l207, y207, z207⟩, st207⟩ := X191.virtualBack hx (y := (⟨"com/example/hintikka/hintikka/domain/ConstraintNetwork", "truncate", "(I)V"⟩ : MethodName)) (z := (⟨"com/example/hintikka/hintikka/domain/ConstraintNetwork", "truncate", "(I)V"⟩ : MethodName)) hown (mvT hZ (hw _ (List.mem_of_getElem? (i := 107) rfl))) (mvT hZ (hw _ (List.mem_of_getElem? (i := 108) rfl))) (notFace_of_selects (args := #[]) (mvT hZ (hw _ (List.mem_of_getElem? (i := 110) rfl)))) (mvT hZ (hw _ (List.mem_of_getElem? (i := 110) rfl))) (mvT hZ (hw _ (List.mem_of_getElem? (i := 109) rfl))) (by decide) (backOf (W := 0) (rmT l Z a0 hw [] b25 (1 : Int32) al_29 la_29 re_29 ri_29 (2 : Int32) T191.heap n0 f208 P191_0 P191_1 P191_2 P191_3 P191_4 P191_5 ge25 (by decide) (by decide)) hZ (hw _ (List.mem_of_getElem? (i := 111) rfl)) (hw _ (List.mem_of_getElem? (i := 3) rfl)) (by decide) (by decide)) q207a q207c (g := (mkF m 161 #[.val (.int p0), .val (.int p1), .val (.int p2), .val (.int p3), .val (.int p4), .val (.int p5), .val (.ref b1), .val (.ref b8), .val (.ref b16), .val (.ref b25), .val (.int (2 : Int32)), .val (.int (1 : Int32)), .unset] [(.int (1 : Int32)), (.ref b25)])) rfl (by rw [hml]; rfl) (Steps.refl _) (argsL := [(.int (1 : Int32))]) (rest := []) (lenOf own_pd9 rfl) rfl (by show 2 * 0 + _ ≤ _; exact Nat.le_of_eq rfl) (hb hby at_161) (fun _ _ => ⟨rfl, rfl, (by decide : 10 + 0 ≤ _), (by decide : 84 + 0 ≤ _)⟩)
      dsimp only [Pt.U, Pt.locs, Pt.cells, Pt.slots] at X207 l207 y207 z207 st207 hQ207
      subst l207 y207 z207
      obtain ⟨rfl, N207q, K207, P207_0, P207_1, P207_2, P207_3, P207_4, P207_5⟩ := hQ207
      have N207 := Fr.app N191 N207q
      refine own_up (fun _ k => st207.trans k) ?_
      show own_Go p.tables e below _ (T207.setTop (mkF m 164 #[.val (.int p0), .val (.int p1), .val (.int p2), .val (.int p3), .val (.int p4), .val (.int p5), .val (.ref b1), .val (.ref b8), .val (.ref b16), .val (.ref b25), .val (.int (2 : Int32)), .val (.int (1 : Int32)), .unset] []))
      have f209 : Exa Z T207.heap al_29 "java/util/ArrayList" := ((f192.keep K191).keep K207)
      have f210 : Fld Z T207.heap al_29 "java/util/ArrayList" "size" "I" (.int (2 : Int32)) := ((f193.keep K191 (ninS (Ne.symm P29_8) (ninS P29_12 (ninS P29_13 (ninS P29_14 nin0))))).keep K207 (ninS (Ne.symm P29_8) nin0))
      have f211 : Arv Z T207.heap b1 k1 .int (3 : Int32) [(.int (0 : Int32)), (.int (1 : Int32)), (.int (1 : Int32))] (.int (0 : Int32)) := ((f182.keep K191 (ninS ne25_0 (ninS nl29_1_0 (ninS nl29_2_0 (ninS nl29_3_0 nin0))))).keep K207 (ninS ne25_0 nin0))
      have f212 : Arv Z T207.heap b8 k8 .int (3 : Int32) [(.int (1 : Int32)), (.int (0 : Int32)), (.int (1 : Int32))] (.int (0 : Int32)) := ((f188.keep K191 (ninS ne25_1 (ninS nl29_1_1 (ninS nl29_2_1 (ninS nl29_3_1 nin0))))).keep K207 (ninS ne25_1 nin0))
      have f213 : Arv Z T207.heap b16 k16 .int (3 : Int32) [(.int p2), (.int p3), (.int p4)] (.int (0 : Int32)) := ((f185.keep K191 (ninS ne25_2 (ninS nl29_1_2 (ninS nl29_2_2 (ninS nl29_3_2 nin0))))).keep K207 (ninS ne25_2 nin0))
      have f214 : Arv Z T207.heap la_29 ka_29 .int (16 : Int32) [(.int (0 : Int32)), (.int (1 : Int32)), (.int (0 : Int32)), (.int (0 : Int32))] (.int (0 : Int32)) := (P191_6.keep K207 (ninS (Ne.symm P29_9) nin0))
      have f215 : Arv Z T207.heap re_29 ke_29 .int (16 : Int32) [(.int p2), (.int p3), (.int (0 : Int32)), (.int (0 : Int32))] (.int (0 : Int32)) := (P191_7.keep K207 (ninS (Ne.symm P29_10) nin0))
      have f216 : Arv Z T207.heap ri_29 ki_29 .int (16 : Int32) [(.int (1 : Int32)), (.int (0 : Int32)), (.int (0 : Int32)), (.int (0 : Int32))] (.int (0 : Int32)) := (P191_8.keep K207 (ninS (Ne.symm P29_11) nin0))
      have f217 : n0 ≤ T207.heap.size := (Nat.le_trans f208 K207.1)
      have f218 : Old Z n0 T207.heap := (((((f36.keep K35 (allS P29_4 all0)).keep K41 (allS P29_4 (allS P35_1 all0))).keep K171 (allS ge25 (allS P29_5 (allS P29_6 (allS P29_7 all0))))).keep K191 (allS ge25 (allS P29_5 (allS P29_6 (allS P29_7 all0))))).keep K207 (allS ge25 all0))
      exact end1 T207 _ X207 T207.heap rfl N207 (.val (.int (2 : Int32))) (1 : Int32) (0 : Int32) (0 : Int32) p3 (0 : Int32) (0 : Int32) (0 : Int32) (0 : Int32) (0 : Int32) P207_0 P207_1 P207_2 P207_3 P207_4 f209 f210 f211 f212 f213 P207_5 f214 f215 f216 f217 f218
    ·
      rw [hc]
      show own_Go p.tables e below _ (T191.setTop (mkF m 155 #[.val (.int p0), .val (.int p1), .val (.int p2), .val (.int p3), .val (.int p4), .val (.int p5), .val (.ref b1), .val (.ref b8), .val (.ref b16), .val (.ref b25), .val (.int (2 : Int32)), .unset, .unset] [(.int (2 : Int32))]))
      refine own_up (fun _ k => XS.istore X191.here hx rfl (hb hby at_155) rfl (l' := #[.val (.int p0), .val (.int p1), .val (.int p2), .val (.int p3), .val (.int p4), .val (.int p5), .val (.ref b1), .val (.ref b8), .val (.ref b16), .val (.ref b25), .val (.int (2 : Int32)), .val (.int (2 : Int32)), .unset]) rfl k) ?_
      show own_Go p.tables e below _ (T191.setTop (mkF m 157 #[.val (.int p0), .val (.int p1), .val (.int p2), .val (.int p3), .val (.int p4), .val (.int p5), .val (.ref b1), .val (.ref b8), .val (.ref b16), .val (.ref b25), .val (.int (2 : Int32)), .val (.int (2 : Int32)), .unset] []))
      refine own_up (fun _ k => XS.aload X191.here hx rfl (hb hby at_157) rfl rfl k) ?_
      show own_Go p.tables e below _ (T191.setTop (mkF m 159 #[.val (.int p0), .val (.int p1), .val (.int p2), .val (.int p3), .val (.int p4), .val (.int p5), .val (.ref b1), .val (.ref b8), .val (.ref b16), .val (.ref b25), .val (.int (2 : Int32)), .val (.int (2 : Int32)), .unset] [(.ref b25)]))
      refine own_up (fun _ k => XS.iload X191.here hx rfl (hb hby at_159) rfl k) ?_
      show own_Go p.tables e below _ (T191.setTop (mkF m 161 #[.val (.int p0), .val (.int p1), .val (.int p2), .val (.int p3), .val (.int p4), .val (.int p5), .val (.ref b1), .val (.ref b8), .val (.ref b16), .val (.ref b25), .val (.int (2 : Int32)), .val (.int (2 : Int32)), .unset] [(.int (2 : Int32)), (.ref b25)]))
      have f220 : n0 ≤ T191.heap.size := (Nat.le_trans f194 K191.1)
      obtain ⟨cq219, kq219, q219a, q219b, q219c⟩ := isOf hZ rfl P191_0
      obtain ⟨_, _, ⟨T219, L219, k219, n219⟩, -, X219, ⟨Lc219, hQ219, l219, y219, z219⟩, st219⟩ := X191.virtualBack hx (y := (⟨"com/example/hintikka/hintikka/domain/ConstraintNetwork", "truncate", "(I)V"⟩ : MethodName)) (z := (⟨"com/example/hintikka/hintikka/domain/ConstraintNetwork", "truncate", "(I)V"⟩ : MethodName)) hown (mvT hZ (hw _ (List.mem_of_getElem? (i := 107) rfl))) (mvT hZ (hw _ (List.mem_of_getElem? (i := 108) rfl))) (notFace_of_selects (args := #[]) (mvT hZ (hw _ (List.mem_of_getElem? (i := 110) rfl)))) (mvT hZ (hw _ (List.mem_of_getElem? (i := 110) rfl))) (mvT hZ (hw _ (List.mem_of_getElem? (i := 109) rfl))) (by decide) (backOf (W := 0) (rmT l Z a0 hw [] b25 (2 : Int32) al_29 la_29 re_29 ri_29 (2 : Int32) T191.heap n0 f220 P191_0 P191_1 P191_2 P191_3 P191_4 P191_5 ge25 (by decide) (by decide)) hZ (hw _ (List.mem_of_getElem? (i := 111) rfl)) (hw _ (List.mem_of_getElem? (i := 3) rfl)) (by decide) (by decide)) q219a q219c (g := (mkF m 161 #[.val (.int p0), .val (.int p1), .val (.int p2), .val (.int p3), .val (.int p4), .val (.int p5), .val (.ref b1), .val (.ref b8), .val (.ref b16), .val (.ref b25), .val (.int (2 : Int32)), .val (.int (2 : Int32)), .unset] [(.int (2 : Int32)), (.ref b25)])) rfl (by rw [hml]; rfl) (Steps.refl _) (argsL := [(.int (2 : Int32))]) (rest := []) (lenOf own_pd9 rfl) rfl (by show 2 * 0 + _ ≤ _; exact Nat.le_of_eq rfl) (hb hby at_161) (fun _ _ => ⟨rfl, rfl, (by decide : 10 + 0 ≤ _), (by decide : 84 + 0 ≤ _)⟩)
      dsimp only [Pt.U, Pt.locs, Pt.cells, Pt.slots] at X219 l219 y219 z219 st219 hQ219
      subst l219 y219 z219
      obtain ⟨rfl, N219q, K219, P219_0, P219_1, P219_2, P219_3, P219_4, P219_5⟩ := hQ219
      have N219 := Fr.app N191 N219q
      refine own_up (fun _ k => st219.trans k) ?_
      show own_Go p.tables e below _ (T219.setTop (mkF m 164 #[.val (.int p0), .val (.int p1), .val (.int p2), .val (.int p3), .val (.int p4), .val (.int p5), .val (.ref b1), .val (.ref b8), .val (.ref b16), .val (.ref b25), .val (.int (2 : Int32)), .val (.int (2 : Int32)), .unset] []))
      have f221 : Exa Z T219.heap al_29 "java/util/ArrayList" := ((f192.keep K191).keep K219)
      have f222 : Fld Z T219.heap al_29 "java/util/ArrayList" "size" "I" (.int (2 : Int32)) := ((f193.keep K191 (ninS (Ne.symm P29_8) (ninS P29_12 (ninS P29_13 (ninS P29_14 nin0))))).keep K219 (ninS (Ne.symm P29_8) nin0))
      have f223 : Arv Z T219.heap b1 k1 .int (3 : Int32) [(.int (0 : Int32)), (.int (1 : Int32)), (.int (1 : Int32))] (.int (0 : Int32)) := ((f182.keep K191 (ninS ne25_0 (ninS nl29_1_0 (ninS nl29_2_0 (ninS nl29_3_0 nin0))))).keep K219 (ninS ne25_0 nin0))
      have f224 : Arv Z T219.heap b8 k8 .int (3 : Int32) [(.int (1 : Int32)), (.int (0 : Int32)), (.int (1 : Int32))] (.int (0 : Int32)) := ((f188.keep K191 (ninS ne25_1 (ninS nl29_1_1 (ninS nl29_2_1 (ninS nl29_3_1 nin0))))).keep K219 (ninS ne25_1 nin0))
      have f225 : Arv Z T219.heap b16 k16 .int (3 : Int32) [(.int p2), (.int p3), (.int p4)] (.int (0 : Int32)) := ((f185.keep K191 (ninS ne25_2 (ninS nl29_1_2 (ninS nl29_2_2 (ninS nl29_3_2 nin0))))).keep K219 (ninS ne25_2 nin0))
      have f226 : Arv Z T219.heap la_29 ka_29 .int (16 : Int32) [(.int (0 : Int32)), (.int (1 : Int32)), (.int (0 : Int32)), (.int (0 : Int32))] (.int (0 : Int32)) := (P191_6.keep K219 (ninS (Ne.symm P29_9) nin0))
      have f227 : Arv Z T219.heap re_29 ke_29 .int (16 : Int32) [(.int p2), (.int p3), (.int (0 : Int32)), (.int (0 : Int32))] (.int (0 : Int32)) := (P191_7.keep K219 (ninS (Ne.symm P29_10) nin0))
      have f228 : Arv Z T219.heap ri_29 ki_29 .int (16 : Int32) [(.int (1 : Int32)), (.int (0 : Int32)), (.int (0 : Int32)), (.int (0 : Int32))] (.int (0 : Int32)) := (P191_8.keep K219 (ninS (Ne.symm P29_11) nin0))
      have f229 : n0 ≤ T219.heap.size := (Nat.le_trans f220 K219.1)
      have f230 : Old Z n0 T219.heap := (((((f36.keep K35 (allS P29_4 all0)).keep K41 (allS P29_4 (allS P35_1 all0))).keep K171 (allS ge25 (allS P29_5 (allS P29_6 (allS P29_7 all0))))).keep K191 (allS ge25 (allS P29_5 (allS P29_6 (allS P29_7 all0))))).keep K219 (allS ge25 all0))
      exact end2 T219 _ X219 T219.heap rfl N219 (.val (.int (2 : Int32))) (0 : Int32) (0 : Int32) (0 : Int32) (0 : Int32) (0 : Int32) (0 : Int32) P219_0 P219_1 P219_2 P219_3 P219_4 f221 f222 f223 f224 f225 P219_5 f226 f227 f228 f229 f230
  ·
    refine own_up (fun _ k => XS.iloadN X41.here hx rfl (hb hby at_73) rfl k) ?_
    show own_Go p.tables e below _ (T41.setTop (mkF m 74 #[.val (.int p0), .val (.int p1), .val (.int p2), .val (.int p3), .val (.int p4), .val (.int p5), .val (.ref b1), .val (.ref b8), .val (.ref b16), .val (.ref b25), .unset, .unset, .unset] [(.int p0)]))
    refine own_up (fun _ k => XS.iconst X41.here hx rfl (hb hby at_74) k) ?_
    show own_Go p.tables e below _ (T41.setTop (mkF m 75 #[.val (.int p0), .val (.int p1), .val (.int p2), .val (.int p3), .val (.int p4), .val (.int p5), .val (.ref b1), .val (.ref b8), .val (.ref b16), .val (.ref b25), .unset, .unset, .unset] [(.int (3 : Int32)), (.int p0)]))
    refine own_up (fun _ k => XS.iand X41.here hx rfl (hb hby at_75) rfl k) ?_
    show own_Go p.tables e below _ (T41.setTop (mkF m 76 #[.val (.int p0), .val (.int p1), .val (.int p2), .val (.int p3), .val (.int p4), .val (.int p5), .val (.ref b1), .val (.ref b8), .val (.ref b16), .val (.ref b25), .unset, .unset, .unset] [(.int (p0 &&& (3 : Int32)))]))
    rw [hm]
    show own_Go p.tables e below _ (T41.setTop (mkF m 76 #[.val (.int p0), .val (.int p1), .val (.int p2), .val (.int p3), .val (.int p4), .val (.int p5), .val (.ref b1), .val (.ref b8), .val (.ref b16), .val (.ref b25), .unset, .unset, .unset] [(.int (3 : Int32))]))
    refine own_up (fun _ k => XS.istore X41.here hx rfl (hb hby at_76) rfl (l' := #[.val (.int p0), .val (.int p1), .val (.int p2), .val (.int p3), .val (.int p4), .val (.int p5), .val (.ref b1), .val (.ref b8), .val (.ref b16), .val (.ref b25), .val (.int (3 : Int32)), .unset, .unset]) rfl k) ?_
    show own_Go p.tables e below _ (T41.setTop (mkF m 78 #[.val (.int p0), .val (.int p1), .val (.int p2), .val (.int p3), .val (.int p4), .val (.int p5), .val (.ref b1), .val (.ref b8), .val (.ref b16), .val (.ref b25), .val (.int (3 : Int32)), .unset, .unset] []))
    refine own_up (fun _ k => XS.iload X41.here hx rfl (hb hby at_78) rfl k) ?_
    show own_Go p.tables e below _ (T41.setTop (mkF m 80 #[.val (.int p0), .val (.int p1), .val (.int p2), .val (.int p3), .val (.int p4), .val (.int p5), .val (.ref b1), .val (.ref b8), .val (.ref b16), .val (.ref b25), .val (.int (3 : Int32)), .unset, .unset] [(.int (3 : Int32))]))
    refine own_up (fun _ k => XS.iconst X41.here hx rfl (hb hby at_80) k) ?_
    show own_Go p.tables e below _ (T41.setTop (mkF m 81 #[.val (.int p0), .val (.int p1), .val (.int p2), .val (.int p3), .val (.int p4), .val (.int p5), .val (.ref b1), .val (.ref b8), .val (.ref b16), .val (.ref b25), .val (.int (3 : Int32)), .unset, .unset] [(.int (1 : Int32)), (.int (3 : Int32))]))
    refine own_up (fun _ k => XS.icmpNo X41.here hx rfl (hb hby at_81) rfl (flt (by decide)).1 k) ?_
    show own_Go p.tables e below _ (T41.setTop (mkF m 84 #[.val (.int p0), .val (.int p1), .val (.int p2), .val (.int p3), .val (.int p4), .val (.int p5), .val (.ref b1), .val (.ref b8), .val (.ref b16), .val (.ref b25), .val (.int (3 : Int32)), .unset, .unset] []))
    refine own_up (fun _ k => XS.aload X41.here hx rfl (hb hby at_84) rfl rfl k) ?_
    show own_Go p.tables e below _ (T41.setTop (mkF m 86 #[.val (.int p0), .val (.int p1), .val (.int p2), .val (.int p3), .val (.int p4), .val (.int p5), .val (.ref b1), .val (.ref b8), .val (.ref b16), .val (.ref b25), .val (.int (3 : Int32)), .unset, .unset] [(.ref b25)]))
    refine own_up (fun _ k => XS.aload X41.here hx rfl (hb hby at_86) rfl rfl k) ?_
    show own_Go p.tables e below _ (T41.setTop (mkF m 88 #[.val (.int p0), .val (.int p1), .val (.int p2), .val (.int p3), .val (.int p4), .val (.int p5), .val (.ref b1), .val (.ref b8), .val (.ref b16), .val (.ref b25), .val (.int (3 : Int32)), .unset, .unset] [(.ref b1), (.ref b25)]))
    refine own_up (fun _ k => XS.iconst X41.here hx rfl (hb hby at_88) k) ?_
    show own_Go p.tables e below _ (T41.setTop (mkF m 89 #[.val (.int p0), .val (.int p1), .val (.int p2), .val (.int p3), .val (.int p4), .val (.int p5), .val (.ref b1), .val (.ref b8), .val (.ref b16), .val (.ref b25), .val (.int (3 : Int32)), .unset, .unset] [(.int (0 : Int32)), (.ref b1), (.ref b25)]))
    have f231 : Arv Z T41.heap b1 k1 .int (3 : Int32) [(.int (0 : Int32)), (.int (1 : Int32)), (.int (1 : Int32))] (.int (0 : Int32)) := ((f38.keep K35 (ninS nl29_0_0 nin0)).keep K41 (ninS nl29_0_0 (ninS nl35_0_0 nin0)))
    obtain ⟨cl232_, Ar232, q232, S232, M232, Hs232, G232⟩ := id (f231)
    have hin233 : ¬ ((0 : Int32) < 0 ∨ cl232_.slots.size ≤ ((0 : Int32)).toNatClampNeg) := inb_of S232 ⟨by decide, by decide⟩
    have hat233 : cl232_.slots[((0 : Int32)).toNatClampNeg]? = some (.int (0 : Int32)) := Has.at Hs232 hin233 rfl
    refine own_up (fun _ k => X41.iaload hx (j := (0 : Int32)) (v := (.int (0 : Int32))) Ar232.1 (State.isArrayOf_alike hZ.alike Ar232.2.1) Ar232.2.2 hin233 hat233 (g := (mkF m 89 #[.val (.int p0), .val (.int p1), .val (.int p2), .val (.int p3), .val (.int p4), .val (.int p5), .val (.ref b1), .val (.ref b8), .val (.ref b16), .val (.ref b25), .val (.int (3 : Int32)), .unset, .unset] [(.int (0 : Int32)), (.ref b1), (.ref b25)])) rfl rfl (hb hby at_89) _ k) ?_
    show own_Go p.tables e below _ (T41.setTop (mkF m 90 #[.val (.int p0), .val (.int p1), .val (.int p2), .val (.int p3), .val (.int p4), .val (.int p5), .val (.ref b1), .val (.ref b8), .val (.ref b16), .val (.ref b25), .val (.int (3 : Int32)), .unset, .unset] [(.int (0 : Int32)), (.ref b25)]))
    refine own_up (fun _ k => XS.aload X41.here hx rfl (hb hby at_90) rfl rfl k) ?_
    show own_Go p.tables e below _ (T41.setTop (mkF m 92 #[.val (.int p0), .val (.int p1), .val (.int p2), .val (.int p3), .val (.int p4), .val (.int p5), .val (.ref b1), .val (.ref b8), .val (.ref b16), .val (.ref b25), .val (.int (3 : Int32)), .unset, .unset] [(.ref b16), (.int (0 : Int32)), (.ref b25)]))
    refine own_up (fun _ k => XS.iconst X41.here hx rfl (hb hby at_92) k) ?_
    show own_Go p.tables e below _ (T41.setTop (mkF m 93 #[.val (.int p0), .val (.int p1), .val (.int p2), .val (.int p3), .val (.int p4), .val (.int p5), .val (.ref b1), .val (.ref b8), .val (.ref b16), .val (.ref b25), .val (.int (3 : Int32)), .unset, .unset] [(.int (0 : Int32)), (.ref b16), (.int (0 : Int32)), (.ref b25)]))
    have f234 : Arv Z T41.heap b16 k16 .int (3 : Int32) [(.int p2), (.int p3), (.int p4)] (.int (0 : Int32)) := ((f40.keep K35 (ninS nl29_0_2 nin0)).keep K41 (ninS nl29_0_2 (ninS nl35_0_2 nin0)))
    obtain ⟨cl235_, Ar235, q235, S235, M235, Hs235, G235⟩ := id (f234)
    have hin236 : ¬ ((0 : Int32) < 0 ∨ cl235_.slots.size ≤ ((0 : Int32)).toNatClampNeg) := inb_of S235 ⟨by decide, by decide⟩
    have hat236 : cl235_.slots[((0 : Int32)).toNatClampNeg]? = some (.int p2) := Has.at Hs235 hin236 rfl
    refine own_up (fun _ k => X41.iaload hx (j := (0 : Int32)) (v := (.int p2)) Ar235.1 (State.isArrayOf_alike hZ.alike Ar235.2.1) Ar235.2.2 hin236 hat236 (g := (mkF m 93 #[.val (.int p0), .val (.int p1), .val (.int p2), .val (.int p3), .val (.int p4), .val (.int p5), .val (.ref b1), .val (.ref b8), .val (.ref b16), .val (.ref b25), .val (.int (3 : Int32)), .unset, .unset] [(.int (0 : Int32)), (.ref b16), (.int (0 : Int32)), (.ref b25)])) rfl rfl (hb hby at_93) _ k) ?_
    show own_Go p.tables e below _ (T41.setTop (mkF m 94 #[.val (.int p0), .val (.int p1), .val (.int p2), .val (.int p3), .val (.int p4), .val (.int p5), .val (.ref b1), .val (.ref b8), .val (.ref b16), .val (.ref b25), .val (.int (3 : Int32)), .unset, .unset] [(.int p2), (.int (0 : Int32)), (.ref b25)]))
    refine own_up (fun _ k => XS.aload X41.here hx rfl (hb hby at_94) rfl rfl k) ?_
    show own_Go p.tables e below _ (T41.setTop (mkF m 96 #[.val (.int p0), .val (.int p1), .val (.int p2), .val (.int p3), .val (.int p4), .val (.int p5), .val (.ref b1), .val (.ref b8), .val (.ref b16), .val (.ref b25), .val (.int (3 : Int32)), .unset, .unset] [(.ref b8), (.int p2), (.int (0 : Int32)), (.ref b25)]))
    refine own_up (fun _ k => XS.iconst X41.here hx rfl (hb hby at_96) k) ?_
    show own_Go p.tables e below _ (T41.setTop (mkF m 97 #[.val (.int p0), .val (.int p1), .val (.int p2), .val (.int p3), .val (.int p4), .val (.int p5), .val (.ref b1), .val (.ref b8), .val (.ref b16), .val (.ref b25), .val (.int (3 : Int32)), .unset, .unset] [(.int (0 : Int32)), (.ref b8), (.int p2), (.int (0 : Int32)), (.ref b25)]))
    have f237 : Arv Z T41.heap b8 k8 .int (3 : Int32) [(.int (1 : Int32)), (.int (0 : Int32)), (.int (1 : Int32))] (.int (0 : Int32)) := ((f39.keep K35 (ninS nl29_0_1 nin0)).keep K41 (ninS nl29_0_1 (ninS nl35_0_1 nin0)))
    obtain ⟨cl238_, Ar238, q238, S238, M238, Hs238, G238⟩ := id (f237)
    have hin239 : ¬ ((0 : Int32) < 0 ∨ cl238_.slots.size ≤ ((0 : Int32)).toNatClampNeg) := inb_of S238 ⟨by decide, by decide⟩
    have hat239 : cl238_.slots[((0 : Int32)).toNatClampNeg]? = some (.int (1 : Int32)) := Has.at Hs238 hin239 rfl
    refine own_up (fun _ k => X41.iaload hx (j := (0 : Int32)) (v := (.int (1 : Int32))) Ar238.1 (State.isArrayOf_alike hZ.alike Ar238.2.1) Ar238.2.2 hin239 hat239 (g := (mkF m 97 #[.val (.int p0), .val (.int p1), .val (.int p2), .val (.int p3), .val (.int p4), .val (.int p5), .val (.ref b1), .val (.ref b8), .val (.ref b16), .val (.ref b25), .val (.int (3 : Int32)), .unset, .unset] [(.int (0 : Int32)), (.ref b8), (.int p2), (.int (0 : Int32)), (.ref b25)])) rfl rfl (hb hby at_97) _ k) ?_
    show own_Go p.tables e below _ (T41.setTop (mkF m 98 #[.val (.int p0), .val (.int p1), .val (.int p2), .val (.int p3), .val (.int p4), .val (.int p5), .val (.ref b1), .val (.ref b8), .val (.ref b16), .val (.ref b25), .val (.int (3 : Int32)), .unset, .unset] [(.int (1 : Int32)), (.int p2), (.int (0 : Int32)), (.ref b25)]))
    have f241 : Exa Z T41.heap b25 "com/example/hintikka/hintikka/domain/ConstraintNetwork" := (f44.keep K41)
    have f242 : Fld Z T41.heap b25 "com/example/hintikka/hintikka/domain/ConstraintNetwork" "constants" "Ljava/util/List;" (.ref al_29) := (f42.keep K41 (ninS P29_8 (ninS nl35_0_3 nin0)))
    have f243 : Fld Z T41.heap b25 "com/example/hintikka/hintikka/domain/ConstraintNetwork" "lefts" "[I" (.ref la_29) := ((P29_21.keep K35 (ninS P29_8 nin0)).keep K41 (ninS P29_8 (ninS nl35_0_3 nin0)))
    have f244 : Fld Z T41.heap b25 "com/example/hintikka/hintikka/domain/ConstraintNetwork" "relations" "[I" (.ref re_29) := ((P29_22.keep K35 (ninS P29_8 nin0)).keep K41 (ninS P29_8 (ninS nl35_0_3 nin0)))
    have f245 : Fld Z T41.heap b25 "com/example/hintikka/hintikka/domain/ConstraintNetwork" "rights" "[I" (.ref ri_29) := ((P29_23.keep K35 (ninS P29_8 nin0)).keep K41 (ninS P29_8 (ninS nl35_0_3 nin0)))
    have f246 : Fld Z T41.heap b25 "com/example/hintikka/hintikka/domain/ConstraintNetwork" "size" "I" (.int (0 : Int32)) := ((P29_20.keep K35 (ninS P29_8 nin0)).keep K41 (ninS P29_8 (ninS nl35_0_3 nin0)))
    have f247 : Arv Z T41.heap la_29 ka_29 .int (16 : Int32) [(.int (0 : Int32)), (.int (0 : Int32)), (.int (0 : Int32)), (.int (0 : Int32))] (.int (0 : Int32)) := ((P29_24.keep K35 (ninS (Ne.symm P29_12) nin0)).keep K41 (ninS (Ne.symm P29_12) (ninS nl35_0_4 nin0)))
    have f248 : Arv Z T41.heap re_29 ke_29 .int (16 : Int32) [(.int (0 : Int32)), (.int (0 : Int32)), (.int (0 : Int32)), (.int (0 : Int32))] (.int (0 : Int32)) := ((P29_25.keep K35 (ninS (Ne.symm P29_13) nin0)).keep K41 (ninS (Ne.symm P29_13) (ninS nl35_0_5 nin0)))
    have f249 : Arv Z T41.heap ri_29 ki_29 .int (16 : Int32) [(.int (0 : Int32)), (.int (0 : Int32)), (.int (0 : Int32)), (.int (0 : Int32))] (.int (0 : Int32)) := ((P29_26.keep K35 (ninS (Ne.symm P29_14) nin0)).keep K41 (ninS (Ne.symm P29_14) (ninS nl35_0_6 nin0)))
    have f250 : n0 ≤ T41.heap.size := (Nat.le_trans f43 K41.1)
    obtain ⟨cq240, kq240, q240a, q240b, q240c⟩ := isOf hZ rfl f241
    obtain ⟨_, _, ⟨T240, L240, k240, n240⟩, -, X240, ⟨Lc240, hQ240, l240, y240, z240⟩, st240⟩ := X41.virtualBack hx (y := (⟨"com/example/hintikka/hintikka/domain/ConstraintNetwork", "add", "(III)V"⟩ : MethodName)) (z := (⟨"com/example/hintikka/hintikka/domain/ConstraintNetwork", "add", "(III)V"⟩ : MethodName)) hown (mvT hZ (hw _ (List.mem_of_getElem? (i := 124) rfl))) (mvT hZ (hw _ (List.mem_of_getElem? (i := 125) rfl))) (notFace_of_selects (args := #[]) (mvT hZ (hw _ (List.mem_of_getElem? (i := 127) rfl)))) (mvT hZ (hw _ (List.mem_of_getElem? (i := 127) rfl))) (mvT hZ (hw _ (List.mem_of_getElem? (i := 126) rfl))) (by decide) (backOf (W := 0) (rmAd0 l Z a0 hw [] b25 (0 : Int32) p2 (1 : Int32) al_29 la_29 re_29 ri_29 ka_29 ke_29 ki_29 (0 : Int32) (0 : Int32) (0 : Int32) (0 : Int32) (0 : Int32) (0 : Int32) (0 : Int32) (0 : Int32) (0 : Int32) (0 : Int32) (0 : Int32) (0 : Int32) T41.heap n0 f250 f241 f242 f243 f244 f245 P41_0 P41_1 f246 f247 f248 f249 ge25 P29_5 P29_6 P29_7 P29_8 P29_9 P29_10 P29_11 P29_12 P29_13 P29_14 P29_15 P29_16 P29_17 (by decide) (by decide) (by decide) (by decide)) hZ (hw _ (List.mem_of_getElem? (i := 128) rfl)) (hw _ (List.mem_of_getElem? (i := 3) rfl)) (by decide) (by decide)) q240a q240c (g := (mkF m 98 #[.val (.int p0), .val (.int p1), .val (.int p2), .val (.int p3), .val (.int p4), .val (.int p5), .val (.ref b1), .val (.ref b8), .val (.ref b16), .val (.ref b25), .val (.int (3 : Int32)), .unset, .unset] [(.int (1 : Int32)), (.int p2), (.int (0 : Int32)), (.ref b25)])) rfl (by rw [hml]; rfl) (Steps.refl _) (argsL := [(.int (0 : Int32)), (.int p2), (.int (1 : Int32))]) (rest := []) (lenOf own_pd8 rfl) rfl (by show 2 * 0 + _ ≤ _; exact Nat.le_of_eq rfl) (hb hby at_98) (fun _ _ => ⟨rfl, rfl, (by decide : 10 + 0 ≤ _), (by decide : 84 + 0 ≤ _)⟩)
    dsimp only [Pt.U, Pt.locs, Pt.cells, Pt.slots] at X240 l240 y240 z240 st240 hQ240
    subst l240 y240 z240
    obtain ⟨rfl, N240q, K240, P240_0, P240_1, P240_2, P240_3, P240_4, P240_5, P240_6, P240_7, P240_8⟩ := hQ240
    have N240 := Fr.app N41 N240q
    refine own_up (fun _ k => st240.trans k) ?_
    show own_Go p.tables e below _ (T240.setTop (mkF m 101 #[.val (.int p0), .val (.int p1), .val (.int p2), .val (.int p3), .val (.int p4), .val (.int p5), .val (.ref b1), .val (.ref b8), .val (.ref b16), .val (.ref b25), .val (.int (3 : Int32)), .unset, .unset] []))
    refine own_up (fun _ k => XS.iload X240.here hx rfl (hb hby at_101) rfl k) ?_
    show own_Go p.tables e below _ (T240.setTop (mkF m 103 #[.val (.int p0), .val (.int p1), .val (.int p2), .val (.int p3), .val (.int p4), .val (.int p5), .val (.ref b1), .val (.ref b8), .val (.ref b16), .val (.ref b25), .val (.int (3 : Int32)), .unset, .unset] [(.int (3 : Int32))]))
    refine own_up (fun _ k => XS.iconst X240.here hx rfl (hb hby at_103) k) ?_
    show own_Go p.tables e below _ (T240.setTop (mkF m 104 #[.val (.int p0), .val (.int p1), .val (.int p2), .val (.int p3), .val (.int p4), .val (.int p5), .val (.ref b1), .val (.ref b8), .val (.ref b16), .val (.ref b25), .val (.int (3 : Int32)), .unset, .unset] [(.int (2 : Int32)), (.int (3 : Int32))]))
    refine own_up (fun _ k => XS.icmpNo X240.here hx rfl (hb hby at_104) rfl (flt (by decide)).1 k) ?_
    show own_Go p.tables e below _ (T240.setTop (mkF m 107 #[.val (.int p0), .val (.int p1), .val (.int p2), .val (.int p3), .val (.int p4), .val (.int p5), .val (.ref b1), .val (.ref b8), .val (.ref b16), .val (.ref b25), .val (.int (3 : Int32)), .unset, .unset] []))
    refine own_up (fun _ k => XS.aload X240.here hx rfl (hb hby at_107) rfl rfl k) ?_
    show own_Go p.tables e below _ (T240.setTop (mkF m 109 #[.val (.int p0), .val (.int p1), .val (.int p2), .val (.int p3), .val (.int p4), .val (.int p5), .val (.ref b1), .val (.ref b8), .val (.ref b16), .val (.ref b25), .val (.int (3 : Int32)), .unset, .unset] [(.ref b25)]))
    refine own_up (fun _ k => XS.aload X240.here hx rfl (hb hby at_109) rfl rfl k) ?_
    show own_Go p.tables e below _ (T240.setTop (mkF m 111 #[.val (.int p0), .val (.int p1), .val (.int p2), .val (.int p3), .val (.int p4), .val (.int p5), .val (.ref b1), .val (.ref b8), .val (.ref b16), .val (.ref b25), .val (.int (3 : Int32)), .unset, .unset] [(.ref b1), (.ref b25)]))
    refine own_up (fun _ k => XS.iconst X240.here hx rfl (hb hby at_111) k) ?_
    show own_Go p.tables e below _ (T240.setTop (mkF m 112 #[.val (.int p0), .val (.int p1), .val (.int p2), .val (.int p3), .val (.int p4), .val (.int p5), .val (.ref b1), .val (.ref b8), .val (.ref b16), .val (.ref b25), .val (.int (3 : Int32)), .unset, .unset] [(.int (1 : Int32)), (.ref b1), (.ref b25)]))
    have f251 : Arv Z T240.heap b1 k1 .int (3 : Int32) [(.int (0 : Int32)), (.int (1 : Int32)), (.int (1 : Int32))] (.int (0 : Int32)) := (f231.keep K240 (ninS ne25_0 (ninS nl29_1_0 (ninS nl29_2_0 (ninS nl29_3_0 nin0)))))
    obtain ⟨cl252_, Ar252, q252, S252, M252, Hs252, G252⟩ := id (f251)
    have hin253 : ¬ ((1 : Int32) < 0 ∨ cl252_.slots.size ≤ ((1 : Int32)).toNatClampNeg) := inb_of S252 ⟨by decide, by decide⟩
    have hat253 : cl252_.slots[((1 : Int32)).toNatClampNeg]? = some (.int (1 : Int32)) := Has.at Hs252 hin253 rfl
    refine own_up (fun _ k => X240.iaload hx (j := (1 : Int32)) (v := (.int (1 : Int32))) Ar252.1 (State.isArrayOf_alike hZ.alike Ar252.2.1) Ar252.2.2 hin253 hat253 (g := (mkF m 112 #[.val (.int p0), .val (.int p1), .val (.int p2), .val (.int p3), .val (.int p4), .val (.int p5), .val (.ref b1), .val (.ref b8), .val (.ref b16), .val (.ref b25), .val (.int (3 : Int32)), .unset, .unset] [(.int (1 : Int32)), (.ref b1), (.ref b25)])) rfl rfl (hb hby at_112) _ k) ?_
    show own_Go p.tables e below _ (T240.setTop (mkF m 113 #[.val (.int p0), .val (.int p1), .val (.int p2), .val (.int p3), .val (.int p4), .val (.int p5), .val (.ref b1), .val (.ref b8), .val (.ref b16), .val (.ref b25), .val (.int (3 : Int32)), .unset, .unset] [(.int (1 : Int32)), (.ref b25)]))
    refine own_up (fun _ k => XS.aload X240.here hx rfl (hb hby at_113) rfl rfl k) ?_
    show own_Go p.tables e below _ (T240.setTop (mkF m 115 #[.val (.int p0), .val (.int p1), .val (.int p2), .val (.int p3), .val (.int p4), .val (.int p5), .val (.ref b1), .val (.ref b8), .val (.ref b16), .val (.ref b25), .val (.int (3 : Int32)), .unset, .unset] [(.ref b16), (.int (1 : Int32)), (.ref b25)]))
    refine own_up (fun _ k => XS.iconst X240.here hx rfl (hb hby at_115) k) ?_
    show own_Go p.tables e below _ (T240.setTop (mkF m 116 #[.val (.int p0), .val (.int p1), .val (.int p2), .val (.int p3), .val (.int p4), .val (.int p5), .val (.ref b1), .val (.ref b8), .val (.ref b16), .val (.ref b25), .val (.int (3 : Int32)), .unset, .unset] [(.int (1 : Int32)), (.ref b16), (.int (1 : Int32)), (.ref b25)]))
    have f254 : Arv Z T240.heap b16 k16 .int (3 : Int32) [(.int p2), (.int p3), (.int p4)] (.int (0 : Int32)) := (f234.keep K240 (ninS ne25_2 (ninS nl29_1_2 (ninS nl29_2_2 (ninS nl29_3_2 nin0)))))
    obtain ⟨cl255_, Ar255, q255, S255, M255, Hs255, G255⟩ := id (f254)
    have hin256 : ¬ ((1 : Int32) < 0 ∨ cl255_.slots.size ≤ ((1 : Int32)).toNatClampNeg) := inb_of S255 ⟨by decide, by decide⟩
    have hat256 : cl255_.slots[((1 : Int32)).toNatClampNeg]? = some (.int p3) := Has.at Hs255 hin256 rfl
    refine own_up (fun _ k => X240.iaload hx (j := (1 : Int32)) (v := (.int p3)) Ar255.1 (State.isArrayOf_alike hZ.alike Ar255.2.1) Ar255.2.2 hin256 hat256 (g := (mkF m 116 #[.val (.int p0), .val (.int p1), .val (.int p2), .val (.int p3), .val (.int p4), .val (.int p5), .val (.ref b1), .val (.ref b8), .val (.ref b16), .val (.ref b25), .val (.int (3 : Int32)), .unset, .unset] [(.int (1 : Int32)), (.ref b16), (.int (1 : Int32)), (.ref b25)])) rfl rfl (hb hby at_116) _ k) ?_
    show own_Go p.tables e below _ (T240.setTop (mkF m 117 #[.val (.int p0), .val (.int p1), .val (.int p2), .val (.int p3), .val (.int p4), .val (.int p5), .val (.ref b1), .val (.ref b8), .val (.ref b16), .val (.ref b25), .val (.int (3 : Int32)), .unset, .unset] [(.int p3), (.int (1 : Int32)), (.ref b25)]))
    refine own_up (fun _ k => XS.aload X240.here hx rfl (hb hby at_117) rfl rfl k) ?_
    show own_Go p.tables e below _ (T240.setTop (mkF m 119 #[.val (.int p0), .val (.int p1), .val (.int p2), .val (.int p3), .val (.int p4), .val (.int p5), .val (.ref b1), .val (.ref b8), .val (.ref b16), .val (.ref b25), .val (.int (3 : Int32)), .unset, .unset] [(.ref b8), (.int p3), (.int (1 : Int32)), (.ref b25)]))
    refine own_up (fun _ k => XS.iconst X240.here hx rfl (hb hby at_119) k) ?_
    show own_Go p.tables e below _ (T240.setTop (mkF m 120 #[.val (.int p0), .val (.int p1), .val (.int p2), .val (.int p3), .val (.int p4), .val (.int p5), .val (.ref b1), .val (.ref b8), .val (.ref b16), .val (.ref b25), .val (.int (3 : Int32)), .unset, .unset] [(.int (1 : Int32)), (.ref b8), (.int p3), (.int (1 : Int32)), (.ref b25)]))
    have f257 : Arv Z T240.heap b8 k8 .int (3 : Int32) [(.int (1 : Int32)), (.int (0 : Int32)), (.int (1 : Int32))] (.int (0 : Int32)) := (f237.keep K240 (ninS ne25_1 (ninS nl29_1_1 (ninS nl29_2_1 (ninS nl29_3_1 nin0)))))
    obtain ⟨cl258_, Ar258, q258, S258, M258, Hs258, G258⟩ := id (f257)
    have hin259 : ¬ ((1 : Int32) < 0 ∨ cl258_.slots.size ≤ ((1 : Int32)).toNatClampNeg) := inb_of S258 ⟨by decide, by decide⟩
    have hat259 : cl258_.slots[((1 : Int32)).toNatClampNeg]? = some (.int (0 : Int32)) := Has.at Hs258 hin259 rfl
    refine own_up (fun _ k => X240.iaload hx (j := (1 : Int32)) (v := (.int (0 : Int32))) Ar258.1 (State.isArrayOf_alike hZ.alike Ar258.2.1) Ar258.2.2 hin259 hat259 (g := (mkF m 120 #[.val (.int p0), .val (.int p1), .val (.int p2), .val (.int p3), .val (.int p4), .val (.int p5), .val (.ref b1), .val (.ref b8), .val (.ref b16), .val (.ref b25), .val (.int (3 : Int32)), .unset, .unset] [(.int (1 : Int32)), (.ref b8), (.int p3), (.int (1 : Int32)), (.ref b25)])) rfl rfl (hb hby at_120) _ k) ?_
    show own_Go p.tables e below _ (T240.setTop (mkF m 121 #[.val (.int p0), .val (.int p1), .val (.int p2), .val (.int p3), .val (.int p4), .val (.int p5), .val (.ref b1), .val (.ref b8), .val (.ref b16), .val (.ref b25), .val (.int (3 : Int32)), .unset, .unset] [(.int (0 : Int32)), (.int p3), (.int (1 : Int32)), (.ref b25)]))
    have f261 : Exa Z T240.heap al_29 "java/util/ArrayList" := (P41_0.keep K240)
    have f262 : Fld Z T240.heap al_29 "java/util/ArrayList" "size" "I" (.int (2 : Int32)) := (P41_1.keep K240 (ninS (Ne.symm P29_8) (ninS P29_12 (ninS P29_13 (ninS P29_14 nin0)))))
    have f263 : n0 ≤ T240.heap.size := (Nat.le_trans f250 K240.1)
    obtain ⟨cq260, kq260, q260a, q260b, q260c⟩ := isOf hZ rfl P240_0
    obtain ⟨_, _, ⟨T260, L260, k260, n260⟩, -, X260, ⟨Lc260, hQ260, l260, y260, z260⟩, st260⟩ := X240.virtualBack hx (y := (⟨"com/example/hintikka/hintikka/domain/ConstraintNetwork", "add", "(III)V"⟩ : MethodName)) (z := (⟨"com/example/hintikka/hintikka/domain/ConstraintNetwork", "add", "(III)V"⟩ : MethodName)) hown (mvT hZ (hw _ (List.mem_of_getElem? (i := 124) rfl))) (mvT hZ (hw _ (List.mem_of_getElem? (i := 125) rfl))) (notFace_of_selects (args := #[]) (mvT hZ (hw _ (List.mem_of_getElem? (i := 127) rfl)))) (mvT hZ (hw _ (List.mem_of_getElem? (i := 127) rfl))) (mvT hZ (hw _ (List.mem_of_getElem? (i := 126) rfl))) (by decide) (backOf (W := 0) (rmAd1 l Z a0 hw [] b25 (1 : Int32) p3 (0 : Int32) al_29 la_29 re_29 ri_29 ka_29 ke_29 ki_29 (0 : Int32) (0 : Int32) (0 : Int32) (0 : Int32) p2 (0 : Int32) (0 : Int32) (0 : Int32) (1 : Int32) (0 : Int32) (0 : Int32) (0 : Int32) T240.heap n0 f263 P240_0 P240_1 P240_2 P240_3 P240_4 f261 f262 P240_5 P240_6 P240_7 P240_8 ge25 P29_5 P29_6 P29_7 P29_8 P29_9 P29_10 P29_11 P29_12 P29_13 P29_14 P29_15 P29_16 P29_17 (by decide) (by decide) (by decide) (by decide)) hZ (hw _ (List.mem_of_getElem? (i := 128) rfl)) (hw _ (List.mem_of_getElem? (i := 3) rfl)) (by decide) (by decide)) q260a q260c (g := (mkF m 121 #[.val (.int p0), .val (.int p1), .val (.int p2), .val (.int p3), .val (.int p4), .val (.int p5), .val (.ref b1), .val (.ref b8), .val (.ref b16), .val (.ref b25), .val (.int (3 : Int32)), .unset, .unset] [(.int (0 : Int32)), (.int p3), (.int (1 : Int32)), (.ref b25)])) rfl (by rw [hml]; rfl) (Steps.refl _) (argsL := [(.int (1 : Int32)), (.int p3), (.int (0 : Int32))]) (rest := []) (lenOf own_pd8 rfl) rfl (by show 2 * 0 + _ ≤ _; exact Nat.le_of_eq rfl) (hb hby at_121) (fun _ _ => ⟨rfl, rfl, (by decide : 10 + 0 ≤ _), (by decide : 84 + 0 ≤ _)⟩)
    dsimp only [Pt.U, Pt.locs, Pt.cells, Pt.slots] at X260 l260 y260 z260 st260 hQ260
    subst l260 y260 z260
    obtain ⟨rfl, N260q, K260, P260_0, P260_1, P260_2, P260_3, P260_4, P260_5, P260_6, P260_7, P260_8⟩ := hQ260
    have N260 := Fr.app N240 N260q
    refine own_up (fun _ k => st260.trans k) ?_
    show own_Go p.tables e below _ (T260.setTop (mkF m 124 #[.val (.int p0), .val (.int p1), .val (.int p2), .val (.int p3), .val (.int p4), .val (.int p5), .val (.ref b1), .val (.ref b8), .val (.ref b16), .val (.ref b25), .val (.int (3 : Int32)), .unset, .unset] []))
    refine own_up (fun _ k => XS.iload X260.here hx rfl (hb hby at_124) rfl k) ?_
    show own_Go p.tables e below _ (T260.setTop (mkF m 126 #[.val (.int p0), .val (.int p1), .val (.int p2), .val (.int p3), .val (.int p4), .val (.int p5), .val (.ref b1), .val (.ref b8), .val (.ref b16), .val (.ref b25), .val (.int (3 : Int32)), .unset, .unset] [(.int (3 : Int32))]))
    refine own_up (fun _ k => XS.iconst X260.here hx rfl (hb hby at_126) k) ?_
    show own_Go p.tables e below _ (T260.setTop (mkF m 127 #[.val (.int p0), .val (.int p1), .val (.int p2), .val (.int p3), .val (.int p4), .val (.int p5), .val (.ref b1), .val (.ref b8), .val (.ref b16), .val (.ref b25), .val (.int (3 : Int32)), .unset, .unset] [(.int (3 : Int32)), (.int (3 : Int32))]))
    refine own_up (fun _ k => XS.icmpNo X260.here hx rfl (hb hby at_127) rfl (flt (by decide)).1 k) ?_
    show own_Go p.tables e below _ (T260.setTop (mkF m 130 #[.val (.int p0), .val (.int p1), .val (.int p2), .val (.int p3), .val (.int p4), .val (.int p5), .val (.ref b1), .val (.ref b8), .val (.ref b16), .val (.ref b25), .val (.int (3 : Int32)), .unset, .unset] []))
    refine own_up (fun _ k => XS.aload X260.here hx rfl (hb hby at_130) rfl rfl k) ?_
    show own_Go p.tables e below _ (T260.setTop (mkF m 132 #[.val (.int p0), .val (.int p1), .val (.int p2), .val (.int p3), .val (.int p4), .val (.int p5), .val (.ref b1), .val (.ref b8), .val (.ref b16), .val (.ref b25), .val (.int (3 : Int32)), .unset, .unset] [(.ref b25)]))
    refine own_up (fun _ k => XS.aload X260.here hx rfl (hb hby at_132) rfl rfl k) ?_
    show own_Go p.tables e below _ (T260.setTop (mkF m 134 #[.val (.int p0), .val (.int p1), .val (.int p2), .val (.int p3), .val (.int p4), .val (.int p5), .val (.ref b1), .val (.ref b8), .val (.ref b16), .val (.ref b25), .val (.int (3 : Int32)), .unset, .unset] [(.ref b1), (.ref b25)]))
    refine own_up (fun _ k => XS.iconst X260.here hx rfl (hb hby at_134) k) ?_
    show own_Go p.tables e below _ (T260.setTop (mkF m 135 #[.val (.int p0), .val (.int p1), .val (.int p2), .val (.int p3), .val (.int p4), .val (.int p5), .val (.ref b1), .val (.ref b8), .val (.ref b16), .val (.ref b25), .val (.int (3 : Int32)), .unset, .unset] [(.int (2 : Int32)), (.ref b1), (.ref b25)]))
    have f264 : Arv Z T260.heap b1 k1 .int (3 : Int32) [(.int (0 : Int32)), (.int (1 : Int32)), (.int (1 : Int32))] (.int (0 : Int32)) := (f251.keep K260 (ninS ne25_0 (ninS nl29_1_0 (ninS nl29_2_0 (ninS nl29_3_0 nin0)))))
    obtain ⟨cl265_, Ar265, q265, S265, M265, Hs265, G265⟩ := id (f264)
    have hin266 : ¬ ((2 : Int32) < 0 ∨ cl265_.slots.size ≤ ((2 : Int32)).toNatClampNeg) := inb_of S265 ⟨by decide, by decide⟩
    have hat266 : cl265_.slots[((2 : Int32)).toNatClampNeg]? = some (.int (1 : Int32)) := Has.at Hs265 hin266 rfl
    refine own_up (fun _ k => X260.iaload hx (j := (2 : Int32)) (v := (.int (1 : Int32))) Ar265.1 (State.isArrayOf_alike hZ.alike Ar265.2.1) Ar265.2.2 hin266 hat266 (g := (mkF m 135 #[.val (.int p0), .val (.int p1), .val (.int p2), .val (.int p3), .val (.int p4), .val (.int p5), .val (.ref b1), .val (.ref b8), .val (.ref b16), .val (.ref b25), .val (.int (3 : Int32)), .unset, .unset] [(.int (2 : Int32)), (.ref b1), (.ref b25)])) rfl rfl (hb hby at_135) _ k) ?_
    show own_Go p.tables e below _ (T260.setTop (mkF m 136 #[.val (.int p0), .val (.int p1), .val (.int p2), .val (.int p3), .val (.int p4), .val (.int p5), .val (.ref b1), .val (.ref b8), .val (.ref b16), .val (.ref b25), .val (.int (3 : Int32)), .unset, .unset] [(.int (1 : Int32)), (.ref b25)]))
    refine own_up (fun _ k => XS.aload X260.here hx rfl (hb hby at_136) rfl rfl k) ?_
    show own_Go p.tables e below _ (T260.setTop (mkF m 138 #[.val (.int p0), .val (.int p1), .val (.int p2), .val (.int p3), .val (.int p4), .val (.int p5), .val (.ref b1), .val (.ref b8), .val (.ref b16), .val (.ref b25), .val (.int (3 : Int32)), .unset, .unset] [(.ref b16), (.int (1 : Int32)), (.ref b25)]))
    refine own_up (fun _ k => XS.iconst X260.here hx rfl (hb hby at_138) k) ?_
    show own_Go p.tables e below _ (T260.setTop (mkF m 139 #[.val (.int p0), .val (.int p1), .val (.int p2), .val (.int p3), .val (.int p4), .val (.int p5), .val (.ref b1), .val (.ref b8), .val (.ref b16), .val (.ref b25), .val (.int (3 : Int32)), .unset, .unset] [(.int (2 : Int32)), (.ref b16), (.int (1 : Int32)), (.ref b25)]))
    have f267 : Arv Z T260.heap b16 k16 .int (3 : Int32) [(.int p2), (.int p3), (.int p4)] (.int (0 : Int32)) := (f254.keep K260 (ninS ne25_2 (ninS nl29_1_2 (ninS nl29_2_2 (ninS nl29_3_2 nin0)))))
    obtain ⟨cl268_, Ar268, q268, S268, M268, Hs268, G268⟩ := id (f267)
    have hin269 : ¬ ((2 : Int32) < 0 ∨ cl268_.slots.size ≤ ((2 : Int32)).toNatClampNeg) := inb_of S268 ⟨by decide, by decide⟩
    have hat269 : cl268_.slots[((2 : Int32)).toNatClampNeg]? = some (.int p4) := Has.at Hs268 hin269 rfl
    refine own_up (fun _ k => X260.iaload hx (j := (2 : Int32)) (v := (.int p4)) Ar268.1 (State.isArrayOf_alike hZ.alike Ar268.2.1) Ar268.2.2 hin269 hat269 (g := (mkF m 139 #[.val (.int p0), .val (.int p1), .val (.int p2), .val (.int p3), .val (.int p4), .val (.int p5), .val (.ref b1), .val (.ref b8), .val (.ref b16), .val (.ref b25), .val (.int (3 : Int32)), .unset, .unset] [(.int (2 : Int32)), (.ref b16), (.int (1 : Int32)), (.ref b25)])) rfl rfl (hb hby at_139) _ k) ?_
    show own_Go p.tables e below _ (T260.setTop (mkF m 140 #[.val (.int p0), .val (.int p1), .val (.int p2), .val (.int p3), .val (.int p4), .val (.int p5), .val (.ref b1), .val (.ref b8), .val (.ref b16), .val (.ref b25), .val (.int (3 : Int32)), .unset, .unset] [(.int p4), (.int (1 : Int32)), (.ref b25)]))
    refine own_up (fun _ k => XS.aload X260.here hx rfl (hb hby at_140) rfl rfl k) ?_
    show own_Go p.tables e below _ (T260.setTop (mkF m 142 #[.val (.int p0), .val (.int p1), .val (.int p2), .val (.int p3), .val (.int p4), .val (.int p5), .val (.ref b1), .val (.ref b8), .val (.ref b16), .val (.ref b25), .val (.int (3 : Int32)), .unset, .unset] [(.ref b8), (.int p4), (.int (1 : Int32)), (.ref b25)]))
    refine own_up (fun _ k => XS.iconst X260.here hx rfl (hb hby at_142) k) ?_
    show own_Go p.tables e below _ (T260.setTop (mkF m 143 #[.val (.int p0), .val (.int p1), .val (.int p2), .val (.int p3), .val (.int p4), .val (.int p5), .val (.ref b1), .val (.ref b8), .val (.ref b16), .val (.ref b25), .val (.int (3 : Int32)), .unset, .unset] [(.int (2 : Int32)), (.ref b8), (.int p4), (.int (1 : Int32)), (.ref b25)]))
    have f270 : Arv Z T260.heap b8 k8 .int (3 : Int32) [(.int (1 : Int32)), (.int (0 : Int32)), (.int (1 : Int32))] (.int (0 : Int32)) := (f257.keep K260 (ninS ne25_1 (ninS nl29_1_1 (ninS nl29_2_1 (ninS nl29_3_1 nin0)))))
    obtain ⟨cl271_, Ar271, q271, S271, M271, Hs271, G271⟩ := id (f270)
    have hin272 : ¬ ((2 : Int32) < 0 ∨ cl271_.slots.size ≤ ((2 : Int32)).toNatClampNeg) := inb_of S271 ⟨by decide, by decide⟩
    have hat272 : cl271_.slots[((2 : Int32)).toNatClampNeg]? = some (.int (1 : Int32)) := Has.at Hs271 hin272 rfl
    refine own_up (fun _ k => X260.iaload hx (j := (2 : Int32)) (v := (.int (1 : Int32))) Ar271.1 (State.isArrayOf_alike hZ.alike Ar271.2.1) Ar271.2.2 hin272 hat272 (g := (mkF m 143 #[.val (.int p0), .val (.int p1), .val (.int p2), .val (.int p3), .val (.int p4), .val (.int p5), .val (.ref b1), .val (.ref b8), .val (.ref b16), .val (.ref b25), .val (.int (3 : Int32)), .unset, .unset] [(.int (2 : Int32)), (.ref b8), (.int p4), (.int (1 : Int32)), (.ref b25)])) rfl rfl (hb hby at_143) _ k) ?_
    show own_Go p.tables e below _ (T260.setTop (mkF m 144 #[.val (.int p0), .val (.int p1), .val (.int p2), .val (.int p3), .val (.int p4), .val (.int p5), .val (.ref b1), .val (.ref b8), .val (.ref b16), .val (.ref b25), .val (.int (3 : Int32)), .unset, .unset] [(.int (1 : Int32)), (.int p4), (.int (1 : Int32)), (.ref b25)]))
    have f274 : Exa Z T260.heap al_29 "java/util/ArrayList" := (f261.keep K260)
    have f275 : Fld Z T260.heap al_29 "java/util/ArrayList" "size" "I" (.int (2 : Int32)) := (f262.keep K260 (ninS (Ne.symm P29_8) (ninS P29_12 (ninS P29_13 (ninS P29_14 nin0)))))
    have f276 : n0 ≤ T260.heap.size := (Nat.le_trans f263 K260.1)
    obtain ⟨cq273, kq273, q273a, q273b, q273c⟩ := isOf hZ rfl P260_0
    obtain ⟨_, _, ⟨T273, L273, k273, n273⟩, -, X273, ⟨Lc273, hQ273, l273, y273, z273⟩, st273⟩ := X260.virtualBack hx (y := (⟨"com/example/hintikka/hintikka/domain/ConstraintNetwork", "add", "(III)V"⟩ : MethodName)) (z := (⟨"com/example/hintikka/hintikka/domain/ConstraintNetwork", "add", "(III)V"⟩ : MethodName)) hown (mvT hZ (hw _ (List.mem_of_getElem? (i := 124) rfl))) (mvT hZ (hw _ (List.mem_of_getElem? (i := 125) rfl))) (notFace_of_selects (args := #[]) (mvT hZ (hw _ (List.mem_of_getElem? (i := 127) rfl)))) (mvT hZ (hw _ (List.mem_of_getElem? (i := 127) rfl))) (mvT hZ (hw _ (List.mem_of_getElem? (i := 126) rfl))) (by decide) (backOf (W := 0) (rmAd2 l Z a0 hw [] b25 (1 : Int32) p4 (1 : Int32) al_29 la_29 re_29 ri_29 ka_29 ke_29 ki_29 (0 : Int32) (1 : Int32) (0 : Int32) (0 : Int32) p2 p3 (0 : Int32) (0 : Int32) (1 : Int32) (0 : Int32) (0 : Int32) (0 : Int32) T260.heap n0 f276 P260_0 P260_1 P260_2 P260_3 P260_4 f274 f275 P260_5 P260_6 P260_7 P260_8 ge25 P29_5 P29_6 P29_7 P29_8 P29_9 P29_10 P29_11 P29_12 P29_13 P29_14 P29_15 P29_16 P29_17 (by decide) (by decide) (by decide) (by decide)) hZ (hw _ (List.mem_of_getElem? (i := 128) rfl)) (hw _ (List.mem_of_getElem? (i := 3) rfl)) (by decide) (by decide)) q273a q273c (g := (mkF m 144 #[.val (.int p0), .val (.int p1), .val (.int p2), .val (.int p3), .val (.int p4), .val (.int p5), .val (.ref b1), .val (.ref b8), .val (.ref b16), .val (.ref b25), .val (.int (3 : Int32)), .unset, .unset] [(.int (1 : Int32)), (.int p4), (.int (1 : Int32)), (.ref b25)])) rfl (by rw [hml]; rfl) (Steps.refl _) (argsL := [(.int (1 : Int32)), (.int p4), (.int (1 : Int32))]) (rest := []) (lenOf own_pd8 rfl) rfl (by show 2 * 0 + _ ≤ _; exact Nat.le_of_eq rfl) (hb hby at_144) (fun _ _ => ⟨rfl, rfl, (by decide : 10 + 0 ≤ _), (by decide : 84 + 0 ≤ _)⟩)
    dsimp only [Pt.U, Pt.locs, Pt.cells, Pt.slots] at X273 l273 y273 z273 st273 hQ273
    subst l273 y273 z273
    obtain ⟨rfl, N273q, K273, P273_0, P273_1, P273_2, P273_3, P273_4, P273_5, P273_6, P273_7, P273_8⟩ := hQ273
    have N273 := Fr.app N260 N273q
    refine own_up (fun _ k => st273.trans k) ?_
    show own_Go p.tables e below _ (T273.setTop (mkF m 147 #[.val (.int p0), .val (.int p1), .val (.int p2), .val (.int p3), .val (.int p4), .val (.int p5), .val (.ref b1), .val (.ref b8), .val (.ref b16), .val (.ref b25), .val (.int (3 : Int32)), .unset, .unset] []))
    refine own_up (fun _ k => XS.iloadN X273.here hx rfl (hb hby at_147) rfl k) ?_
    show own_Go p.tables e below _ (T273.setTop (mkF m 148 #[.val (.int p0), .val (.int p1), .val (.int p2), .val (.int p3), .val (.int p4), .val (.int p5), .val (.ref b1), .val (.ref b8), .val (.ref b16), .val (.ref b25), .val (.int (3 : Int32)), .unset, .unset] [(.int p1)]))
    refine own_up (fun _ k => XS.iconst X273.here hx rfl (hb hby at_148) k) ?_
    show own_Go p.tables e below _ (T273.setTop (mkF m 149 #[.val (.int p0), .val (.int p1), .val (.int p2), .val (.int p3), .val (.int p4), .val (.int p5), .val (.ref b1), .val (.ref b8), .val (.ref b16), .val (.ref b25), .val (.int (3 : Int32)), .unset, .unset] [(.int (3 : Int32)), (.int p1)]))
    refine own_up (fun _ k => XS.iand X273.here hx rfl (hb hby at_149) rfl k) ?_
    show own_Go p.tables e below _ (T273.setTop (mkF m 150 #[.val (.int p0), .val (.int p1), .val (.int p2), .val (.int p3), .val (.int p4), .val (.int p5), .val (.ref b1), .val (.ref b8), .val (.ref b16), .val (.ref b25), .val (.int (3 : Int32)), .unset, .unset] [(.int (p1 &&& (3 : Int32)))]))
    refine own_up (fun _ k => XS.iload X273.here hx rfl (hb hby at_150) rfl k) ?_
    show own_Go p.tables e below _ (T273.setTop (mkF m 152 #[.val (.int p0), .val (.int p1), .val (.int p2), .val (.int p3), .val (.int p4), .val (.int p5), .val (.ref b1), .val (.ref b8), .val (.ref b16), .val (.ref b25), .val (.int (3 : Int32)), .unset, .unset] [(.int (3 : Int32)), (.int (p1 &&& (3 : Int32)))]))
    refine own_up (fun _ k => XS.iconst X273.here hx rfl (hb hby at_152) k) ?_
    show own_Go p.tables e below _ (T273.setTop (mkF m 153 #[.val (.int p0), .val (.int p1), .val (.int p2), .val (.int p3), .val (.int p4), .val (.int p5), .val (.ref b1), .val (.ref b8), .val (.ref b16), .val (.ref b25), .val (.int (3 : Int32)), .unset, .unset] [(.int (1 : Int32)), (.int (3 : Int32)), (.int (p1 &&& (3 : Int32)))]))
    refine own_up (fun _ k => XS.iadd X273.here hx rfl (hb hby at_153) rfl k) ?_
    show own_Go p.tables e below _ (T273.setTop (mkF m 154 #[.val (.int p0), .val (.int p1), .val (.int p2), .val (.int p3), .val (.int p4), .val (.int p5), .val (.ref b1), .val (.ref b8), .val (.ref b16), .val (.ref b25), .val (.int (3 : Int32)), .unset, .unset] [(.int (4 : Int32)), (.int (p1 &&& (3 : Int32)))]))
    refine own_up (fun _ k => iremM X273 hx rfl (hb hby at_154) rfl (by decide) k) ?_
    show own_Go p.tables e below _ (T273.setTop (mkF m 155 #[.val (.int p0), .val (.int p1), .val (.int p2), .val (.int p3), .val (.int p4), .val (.int p5), .val (.ref b1), .val (.ref b8), .val (.ref b16), .val (.ref b25), .val (.int (3 : Int32)), .unset, .unset] [(.int ((p1 &&& (3 : Int32)) % (4 : Int32)))]))
    rcases own_cut3 p1 with hc | hc | hc | hc
    ·
      rw [hc]
      show own_Go p.tables e below _ (T273.setTop (mkF m 155 #[.val (.int p0), .val (.int p1), .val (.int p2), .val (.int p3), .val (.int p4), .val (.int p5), .val (.ref b1), .val (.ref b8), .val (.ref b16), .val (.ref b25), .val (.int (3 : Int32)), .unset, .unset] [(.int (0 : Int32))]))
      refine own_up (fun _ k => XS.istore X273.here hx rfl (hb hby at_155) rfl (l' := #[.val (.int p0), .val (.int p1), .val (.int p2), .val (.int p3), .val (.int p4), .val (.int p5), .val (.ref b1), .val (.ref b8), .val (.ref b16), .val (.ref b25), .val (.int (3 : Int32)), .val (.int (0 : Int32)), .unset]) rfl k) ?_
      show own_Go p.tables e below _ (T273.setTop (mkF m 157 #[.val (.int p0), .val (.int p1), .val (.int p2), .val (.int p3), .val (.int p4), .val (.int p5), .val (.ref b1), .val (.ref b8), .val (.ref b16), .val (.ref b25), .val (.int (3 : Int32)), .val (.int (0 : Int32)), .unset] []))
      refine own_up (fun _ k => XS.aload X273.here hx rfl (hb hby at_157) rfl rfl k) ?_
      show own_Go p.tables e below _ (T273.setTop (mkF m 159 #[.val (.int p0), .val (.int p1), .val (.int p2), .val (.int p3), .val (.int p4), .val (.int p5), .val (.ref b1), .val (.ref b8), .val (.ref b16), .val (.ref b25), .val (.int (3 : Int32)), .val (.int (0 : Int32)), .unset] [(.ref b25)]))
      refine own_up (fun _ k => XS.iload X273.here hx rfl (hb hby at_159) rfl k) ?_
      show own_Go p.tables e below _ (T273.setTop (mkF m 161 #[.val (.int p0), .val (.int p1), .val (.int p2), .val (.int p3), .val (.int p4), .val (.int p5), .val (.ref b1), .val (.ref b8), .val (.ref b16), .val (.ref b25), .val (.int (3 : Int32)), .val (.int (0 : Int32)), .unset] [(.int (0 : Int32)), (.ref b25)]))
      have f278 : n0 ≤ T273.heap.size := (Nat.le_trans f276 K273.1)
      obtain ⟨cq277, kq277, q277a, q277b, q277c⟩ := isOf hZ rfl P273_0
      obtain ⟨_, _, ⟨T277, L277, k277, n277⟩, -, X277, ⟨Lc277, hQ277, l277, y277, z277⟩, st277⟩ := X273.virtualBack hx (y := (⟨"com/example/hintikka/hintikka/domain/ConstraintNetwork", "truncate", "(I)V"⟩ : MethodName)) (z := (⟨"com/example/hintikka/hintikka/domain/ConstraintNetwork", "truncate", "(I)V"⟩ : MethodName)) hown (mvT hZ (hw _ (List.mem_of_getElem? (i := 107) rfl))) (mvT hZ (hw _ (List.mem_of_getElem? (i := 108) rfl))) (notFace_of_selects (args := #[]) (mvT hZ (hw _ (List.mem_of_getElem? (i := 110) rfl)))) (mvT hZ (hw _ (List.mem_of_getElem? (i := 110) rfl))) (mvT hZ (hw _ (List.mem_of_getElem? (i := 109) rfl))) (by decide) (backOf (W := 0) (rmT l Z a0 hw [] b25 (0 : Int32) al_29 la_29 re_29 ri_29 (3 : Int32) T273.heap n0 f278 P273_0 P273_1 P273_2 P273_3 P273_4 P273_5 ge25 (by decide) (by decide)) hZ (hw _ (List.mem_of_getElem? (i := 111) rfl)) (hw _ (List.mem_of_getElem? (i := 3) rfl)) (by decide) (by decide)) q277a q277c (g := (mkF m 161 #[.val (.int p0), .val (.int p1), .val (.int p2), .val (.int p3), .val (.int p4), .val (.int p5), .val (.ref b1), .val (.ref b8), .val (.ref b16), .val (.ref b25), .val (.int (3 : Int32)), .val (.int (0 : Int32)), .unset] [(.int (0 : Int32)), (.ref b25)])) rfl (by rw [hml]; rfl) (Steps.refl _) (argsL := [(.int (0 : Int32))]) (rest := []) (lenOf own_pd9 rfl) rfl (by show 2 * 0 + _ ≤ _; exact Nat.le_of_eq rfl) (hb hby at_161) (fun _ _ => ⟨rfl, rfl, (by decide : 10 + 0 ≤ _), (by decide : 84 + 0 ≤ _)⟩)
      dsimp only [Pt.U, Pt.locs, Pt.cells, Pt.slots] at X277 l277 y277 z277 st277 hQ277
      subst l277 y277 z277
      obtain ⟨rfl, N277q, K277, P277_0, P277_1, P277_2, P277_3, P277_4, P277_5⟩ := hQ277
      have N277 := Fr.app N273 N277q
      refine own_up (fun _ k => st277.trans k) ?_
      show own_Go p.tables e below _ (T277.setTop (mkF m 164 #[.val (.int p0), .val (.int p1), .val (.int p2), .val (.int p3), .val (.int p4), .val (.int p5), .val (.ref b1), .val (.ref b8), .val (.ref b16), .val (.ref b25), .val (.int (3 : Int32)), .val (.int (0 : Int32)), .unset] []))
      have f279 : Exa Z T277.heap al_29 "java/util/ArrayList" := ((f274.keep K273).keep K277)
      have f280 : Fld Z T277.heap al_29 "java/util/ArrayList" "size" "I" (.int (2 : Int32)) := ((f275.keep K273 (ninS (Ne.symm P29_8) (ninS P29_12 (ninS P29_13 (ninS P29_14 nin0))))).keep K277 (ninS (Ne.symm P29_8) nin0))
      have f281 : Arv Z T277.heap b1 k1 .int (3 : Int32) [(.int (0 : Int32)), (.int (1 : Int32)), (.int (1 : Int32))] (.int (0 : Int32)) := ((f264.keep K273 (ninS ne25_0 (ninS nl29_1_0 (ninS nl29_2_0 (ninS nl29_3_0 nin0))))).keep K277 (ninS ne25_0 nin0))
      have f282 : Arv Z T277.heap b8 k8 .int (3 : Int32) [(.int (1 : Int32)), (.int (0 : Int32)), (.int (1 : Int32))] (.int (0 : Int32)) := ((f270.keep K273 (ninS ne25_1 (ninS nl29_1_1 (ninS nl29_2_1 (ninS nl29_3_1 nin0))))).keep K277 (ninS ne25_1 nin0))
      have f283 : Arv Z T277.heap b16 k16 .int (3 : Int32) [(.int p2), (.int p3), (.int p4)] (.int (0 : Int32)) := ((f267.keep K273 (ninS ne25_2 (ninS nl29_1_2 (ninS nl29_2_2 (ninS nl29_3_2 nin0))))).keep K277 (ninS ne25_2 nin0))
      have f284 : Arv Z T277.heap la_29 ka_29 .int (16 : Int32) [(.int (0 : Int32)), (.int (1 : Int32)), (.int (1 : Int32)), (.int (0 : Int32))] (.int (0 : Int32)) := (P273_6.keep K277 (ninS (Ne.symm P29_9) nin0))
      have f285 : Arv Z T277.heap re_29 ke_29 .int (16 : Int32) [(.int p2), (.int p3), (.int p4), (.int (0 : Int32))] (.int (0 : Int32)) := (P273_7.keep K277 (ninS (Ne.symm P29_10) nin0))
      have f286 : Arv Z T277.heap ri_29 ki_29 .int (16 : Int32) [(.int (1 : Int32)), (.int (0 : Int32)), (.int (1 : Int32)), (.int (0 : Int32))] (.int (0 : Int32)) := (P273_8.keep K277 (ninS (Ne.symm P29_11) nin0))
      have f287 : n0 ≤ T277.heap.size := (Nat.le_trans f278 K277.1)
      have f288 : Old Z n0 T277.heap := ((((((f36.keep K35 (allS P29_4 all0)).keep K41 (allS P29_4 (allS P35_1 all0))).keep K240 (allS ge25 (allS P29_5 (allS P29_6 (allS P29_7 all0))))).keep K260 (allS ge25 (allS P29_5 (allS P29_6 (allS P29_7 all0))))).keep K273 (allS ge25 (allS P29_5 (allS P29_6 (allS P29_7 all0))))).keep K277 (allS ge25 all0))
      exact end0 T277 _ X277 T277.heap rfl N277 (.val (.int (3 : Int32))) (0 : Int32) (1 : Int32) (1 : Int32) (0 : Int32) p2 p3 p4 (0 : Int32) (1 : Int32) (0 : Int32) (1 : Int32) (0 : Int32) P277_0 P277_1 P277_2 P277_3 P277_4 f279 f280 f281 f282 f283 P277_5 f284 f285 f286 f287 f288
    ·
      rw [hc]
      show own_Go p.tables e below _ (T273.setTop (mkF m 155 #[.val (.int p0), .val (.int p1), .val (.int p2), .val (.int p3), .val (.int p4), .val (.int p5), .val (.ref b1), .val (.ref b8), .val (.ref b16), .val (.ref b25), .val (.int (3 : Int32)), .unset, .unset] [(.int (1 : Int32))]))
      refine own_up (fun _ k => XS.istore X273.here hx rfl (hb hby at_155) rfl (l' := #[.val (.int p0), .val (.int p1), .val (.int p2), .val (.int p3), .val (.int p4), .val (.int p5), .val (.ref b1), .val (.ref b8), .val (.ref b16), .val (.ref b25), .val (.int (3 : Int32)), .val (.int (1 : Int32)), .unset]) rfl k) ?_
      show own_Go p.tables e below _ (T273.setTop (mkF m 157 #[.val (.int p0), .val (.int p1), .val (.int p2), .val (.int p3), .val (.int p4), .val (.int p5), .val (.ref b1), .val (.ref b8), .val (.ref b16), .val (.ref b25), .val (.int (3 : Int32)), .val (.int (1 : Int32)), .unset] []))
      refine own_up (fun _ k => XS.aload X273.here hx rfl (hb hby at_157) rfl rfl k) ?_
      show own_Go p.tables e below _ (T273.setTop (mkF m 159 #[.val (.int p0), .val (.int p1), .val (.int p2), .val (.int p3), .val (.int p4), .val (.int p5), .val (.ref b1), .val (.ref b8), .val (.ref b16), .val (.ref b25), .val (.int (3 : Int32)), .val (.int (1 : Int32)), .unset] [(.ref b25)]))
      refine own_up (fun _ k => XS.iload X273.here hx rfl (hb hby at_159) rfl k) ?_
      show own_Go p.tables e below _ (T273.setTop (mkF m 161 #[.val (.int p0), .val (.int p1), .val (.int p2), .val (.int p3), .val (.int p4), .val (.int p5), .val (.ref b1), .val (.ref b8), .val (.ref b16), .val (.ref b25), .val (.int (3 : Int32)), .val (.int (1 : Int32)), .unset] [(.int (1 : Int32)), (.ref b25)]))
      have f290 : n0 ≤ T273.heap.size := (Nat.le_trans f276 K273.1)
      obtain ⟨cq289, kq289, q289a, q289b, q289c⟩ := isOf hZ rfl P273_0
      obtain ⟨_, _, ⟨T289, L289, k289, n289⟩, -, X289, ⟨Lc289, hQ289, l289, y289, z289⟩, st289⟩ := X273.virtualBack hx (y := (⟨"com/example/hintikka/hintikka/domain/ConstraintNetwork", "truncate", "(I)V"⟩ : MethodName)) (z := (⟨"com/example/hintikka/hintikka/domain/ConstraintNetwork", "truncate", "(I)V"⟩ : MethodName)) hown (mvT hZ (hw _ (List.mem_of_getElem? (i := 107) rfl))) (mvT hZ (hw _ (List.mem_of_getElem? (i := 108) rfl))) (notFace_of_selects (args := #[]) (mvT hZ (hw _ (List.mem_of_getElem? (i := 110) rfl)))) (mvT hZ (hw _ (List.mem_of_getElem? (i := 110) rfl))) (mvT hZ (hw _ (List.mem_of_getElem? (i := 109) rfl))) (by decide) (backOf (W := 0) (rmT l Z a0 hw [] b25 (1 : Int32) al_29 la_29 re_29 ri_29 (3 : Int32) T273.heap n0 f290 P273_0 P273_1 P273_2 P273_3 P273_4 P273_5 ge25 (by decide) (by decide)) hZ (hw _ (List.mem_of_getElem? (i := 111) rfl)) (hw _ (List.mem_of_getElem? (i := 3) rfl)) (by decide) (by decide)) q289a q289c (g := (mkF m 161 #[.val (.int p0), .val (.int p1), .val (.int p2), .val (.int p3), .val (.int p4), .val (.int p5), .val (.ref b1), .val (.ref b8), .val (.ref b16), .val (.ref b25), .val (.int (3 : Int32)), .val (.int (1 : Int32)), .unset] [(.int (1 : Int32)), (.ref b25)])) rfl (by rw [hml]; rfl) (Steps.refl _) (argsL := [(.int (1 : Int32))]) (rest := []) (lenOf own_pd9 rfl) rfl (by show 2 * 0 + _ ≤ _; exact Nat.le_of_eq rfl) (hb hby at_161) (fun _ _ => ⟨rfl, rfl, (by decide : 10 + 0 ≤ _), (by decide : 84 + 0 ≤ _)⟩)
      dsimp only [Pt.U, Pt.locs, Pt.cells, Pt.slots] at X289 l289 y289 z289 st289 hQ289
      subst l289 y289 z289
      obtain ⟨rfl, N289q, K289, P289_0, P289_1, P289_2, P289_3, P289_4, P289_5⟩ := hQ289
      have N289 := Fr.app N273 N289q
      refine own_up (fun _ k => st289.trans k) ?_
      show own_Go p.tables e below _ (T289.setTop (mkF m 164 #[.val (.int p0), .val (.int p1), .val (.int p2), .val (.int p3), .val (.int p4), .val (.int p5), .val (.ref b1), .val (.ref b8), .val (.ref b16), .val (.ref b25), .val (.int (3 : Int32)), .val (.int (1 : Int32)), .unset] []))
      have f291 : Exa Z T289.heap al_29 "java/util/ArrayList" := ((f274.keep K273).keep K289)
      have f292 : Fld Z T289.heap al_29 "java/util/ArrayList" "size" "I" (.int (2 : Int32)) := ((f275.keep K273 (ninS (Ne.symm P29_8) (ninS P29_12 (ninS P29_13 (ninS P29_14 nin0))))).keep K289 (ninS (Ne.symm P29_8) nin0))
      have f293 : Arv Z T289.heap b1 k1 .int (3 : Int32) [(.int (0 : Int32)), (.int (1 : Int32)), (.int (1 : Int32))] (.int (0 : Int32)) := ((f264.keep K273 (ninS ne25_0 (ninS nl29_1_0 (ninS nl29_2_0 (ninS nl29_3_0 nin0))))).keep K289 (ninS ne25_0 nin0))
      have f294 : Arv Z T289.heap b8 k8 .int (3 : Int32) [(.int (1 : Int32)), (.int (0 : Int32)), (.int (1 : Int32))] (.int (0 : Int32)) := ((f270.keep K273 (ninS ne25_1 (ninS nl29_1_1 (ninS nl29_2_1 (ninS nl29_3_1 nin0))))).keep K289 (ninS ne25_1 nin0))
      have f295 : Arv Z T289.heap b16 k16 .int (3 : Int32) [(.int p2), (.int p3), (.int p4)] (.int (0 : Int32)) := ((f267.keep K273 (ninS ne25_2 (ninS nl29_1_2 (ninS nl29_2_2 (ninS nl29_3_2 nin0))))).keep K289 (ninS ne25_2 nin0))
      have f296 : Arv Z T289.heap la_29 ka_29 .int (16 : Int32) [(.int (0 : Int32)), (.int (1 : Int32)), (.int (1 : Int32)), (.int (0 : Int32))] (.int (0 : Int32)) := (P273_6.keep K289 (ninS (Ne.symm P29_9) nin0))
      have f297 : Arv Z T289.heap re_29 ke_29 .int (16 : Int32) [(.int p2), (.int p3), (.int p4), (.int (0 : Int32))] (.int (0 : Int32)) := (P273_7.keep K289 (ninS (Ne.symm P29_10) nin0))
      have f298 : Arv Z T289.heap ri_29 ki_29 .int (16 : Int32) [(.int (1 : Int32)), (.int (0 : Int32)), (.int (1 : Int32)), (.int (0 : Int32))] (.int (0 : Int32)) := (P273_8.keep K289 (ninS (Ne.symm P29_11) nin0))
      have f299 : n0 ≤ T289.heap.size := (Nat.le_trans f290 K289.1)
      have f300 : Old Z n0 T289.heap := ((((((f36.keep K35 (allS P29_4 all0)).keep K41 (allS P29_4 (allS P35_1 all0))).keep K240 (allS ge25 (allS P29_5 (allS P29_6 (allS P29_7 all0))))).keep K260 (allS ge25 (allS P29_5 (allS P29_6 (allS P29_7 all0))))).keep K273 (allS ge25 (allS P29_5 (allS P29_6 (allS P29_7 all0))))).keep K289 (allS ge25 all0))
      exact end1 T289 _ X289 T289.heap rfl N289 (.val (.int (3 : Int32))) (1 : Int32) (1 : Int32) (0 : Int32) p3 p4 (0 : Int32) (0 : Int32) (1 : Int32) (0 : Int32) P289_0 P289_1 P289_2 P289_3 P289_4 f291 f292 f293 f294 f295 P289_5 f296 f297 f298 f299 f300
    ·
      rw [hc]
      show own_Go p.tables e below _ (T273.setTop (mkF m 155 #[.val (.int p0), .val (.int p1), .val (.int p2), .val (.int p3), .val (.int p4), .val (.int p5), .val (.ref b1), .val (.ref b8), .val (.ref b16), .val (.ref b25), .val (.int (3 : Int32)), .unset, .unset] [(.int (2 : Int32))]))
      refine own_up (fun _ k => XS.istore X273.here hx rfl (hb hby at_155) rfl (l' := #[.val (.int p0), .val (.int p1), .val (.int p2), .val (.int p3), .val (.int p4), .val (.int p5), .val (.ref b1), .val (.ref b8), .val (.ref b16), .val (.ref b25), .val (.int (3 : Int32)), .val (.int (2 : Int32)), .unset]) rfl k) ?_
      show own_Go p.tables e below _ (T273.setTop (mkF m 157 #[.val (.int p0), .val (.int p1), .val (.int p2), .val (.int p3), .val (.int p4), .val (.int p5), .val (.ref b1), .val (.ref b8), .val (.ref b16), .val (.ref b25), .val (.int (3 : Int32)), .val (.int (2 : Int32)), .unset] []))
      refine own_up (fun _ k => XS.aload X273.here hx rfl (hb hby at_157) rfl rfl k) ?_
      show own_Go p.tables e below _ (T273.setTop (mkF m 159 #[.val (.int p0), .val (.int p1), .val (.int p2), .val (.int p3), .val (.int p4), .val (.int p5), .val (.ref b1), .val (.ref b8), .val (.ref b16), .val (.ref b25), .val (.int (3 : Int32)), .val (.int (2 : Int32)), .unset] [(.ref b25)]))
      refine own_up (fun _ k => XS.iload X273.here hx rfl (hb hby at_159) rfl k) ?_
      show own_Go p.tables e below _ (T273.setTop (mkF m 161 #[.val (.int p0), .val (.int p1), .val (.int p2), .val (.int p3), .val (.int p4), .val (.int p5), .val (.ref b1), .val (.ref b8), .val (.ref b16), .val (.ref b25), .val (.int (3 : Int32)), .val (.int (2 : Int32)), .unset] [(.int (2 : Int32)), (.ref b25)]))
      have f302 : n0 ≤ T273.heap.size := (Nat.le_trans f276 K273.1)
      obtain ⟨cq301, kq301, q301a, q301b, q301c⟩ := isOf hZ rfl P273_0
      obtain ⟨_, _, ⟨T301, L301, k301, n301⟩, -, X301, ⟨Lc301, hQ301, l301, y301, z301⟩, st301⟩ := X273.virtualBack hx (y := (⟨"com/example/hintikka/hintikka/domain/ConstraintNetwork", "truncate", "(I)V"⟩ : MethodName)) (z := (⟨"com/example/hintikka/hintikka/domain/ConstraintNetwork", "truncate", "(I)V"⟩ : MethodName)) hown (mvT hZ (hw _ (List.mem_of_getElem? (i := 107) rfl))) (mvT hZ (hw _ (List.mem_of_getElem? (i := 108) rfl))) (notFace_of_selects (args := #[]) (mvT hZ (hw _ (List.mem_of_getElem? (i := 110) rfl)))) (mvT hZ (hw _ (List.mem_of_getElem? (i := 110) rfl))) (mvT hZ (hw _ (List.mem_of_getElem? (i := 109) rfl))) (by decide) (backOf (W := 0) (rmT l Z a0 hw [] b25 (2 : Int32) al_29 la_29 re_29 ri_29 (3 : Int32) T273.heap n0 f302 P273_0 P273_1 P273_2 P273_3 P273_4 P273_5 ge25 (by decide) (by decide)) hZ (hw _ (List.mem_of_getElem? (i := 111) rfl)) (hw _ (List.mem_of_getElem? (i := 3) rfl)) (by decide) (by decide)) q301a q301c (g := (mkF m 161 #[.val (.int p0), .val (.int p1), .val (.int p2), .val (.int p3), .val (.int p4), .val (.int p5), .val (.ref b1), .val (.ref b8), .val (.ref b16), .val (.ref b25), .val (.int (3 : Int32)), .val (.int (2 : Int32)), .unset] [(.int (2 : Int32)), (.ref b25)])) rfl (by rw [hml]; rfl) (Steps.refl _) (argsL := [(.int (2 : Int32))]) (rest := []) (lenOf own_pd9 rfl) rfl (by show 2 * 0 + _ ≤ _; exact Nat.le_of_eq rfl) (hb hby at_161) (fun _ _ => ⟨rfl, rfl, (by decide : 10 + 0 ≤ _), (by decide : 84 + 0 ≤ _)⟩)
      dsimp only [Pt.U, Pt.locs, Pt.cells, Pt.slots] at X301 l301 y301 z301 st301 hQ301
      subst l301 y301 z301
      obtain ⟨rfl, N301q, K301, P301_0, P301_1, P301_2, P301_3, P301_4, P301_5⟩ := hQ301
      have N301 := Fr.app N273 N301q
      refine own_up (fun _ k => st301.trans k) ?_
      show own_Go p.tables e below _ (T301.setTop (mkF m 164 #[.val (.int p0), .val (.int p1), .val (.int p2), .val (.int p3), .val (.int p4), .val (.int p5), .val (.ref b1), .val (.ref b8), .val (.ref b16), .val (.ref b25), .val (.int (3 : Int32)), .val (.int (2 : Int32)), .unset] []))
      have f303 : Exa Z T301.heap al_29 "java/util/ArrayList" := ((f274.keep K273).keep K301)
      have f304 : Fld Z T301.heap al_29 "java/util/ArrayList" "size" "I" (.int (2 : Int32)) := ((f275.keep K273 (ninS (Ne.symm P29_8) (ninS P29_12 (ninS P29_13 (ninS P29_14 nin0))))).keep K301 (ninS (Ne.symm P29_8) nin0))
      have f305 : Arv Z T301.heap b1 k1 .int (3 : Int32) [(.int (0 : Int32)), (.int (1 : Int32)), (.int (1 : Int32))] (.int (0 : Int32)) := ((f264.keep K273 (ninS ne25_0 (ninS nl29_1_0 (ninS nl29_2_0 (ninS nl29_3_0 nin0))))).keep K301 (ninS ne25_0 nin0))
      have f306 : Arv Z T301.heap b8 k8 .int (3 : Int32) [(.int (1 : Int32)), (.int (0 : Int32)), (.int (1 : Int32))] (.int (0 : Int32)) := ((f270.keep K273 (ninS ne25_1 (ninS nl29_1_1 (ninS nl29_2_1 (ninS nl29_3_1 nin0))))).keep K301 (ninS ne25_1 nin0))
      have f307 : Arv Z T301.heap b16 k16 .int (3 : Int32) [(.int p2), (.int p3), (.int p4)] (.int (0 : Int32)) := ((f267.keep K273 (ninS ne25_2 (ninS nl29_1_2 (ninS nl29_2_2 (ninS nl29_3_2 nin0))))).keep K301 (ninS ne25_2 nin0))
      have f308 : Arv Z T301.heap la_29 ka_29 .int (16 : Int32) [(.int (0 : Int32)), (.int (1 : Int32)), (.int (1 : Int32)), (.int (0 : Int32))] (.int (0 : Int32)) := (P273_6.keep K301 (ninS (Ne.symm P29_9) nin0))
      have f309 : Arv Z T301.heap re_29 ke_29 .int (16 : Int32) [(.int p2), (.int p3), (.int p4), (.int (0 : Int32))] (.int (0 : Int32)) := (P273_7.keep K301 (ninS (Ne.symm P29_10) nin0))
      have f310 : Arv Z T301.heap ri_29 ki_29 .int (16 : Int32) [(.int (1 : Int32)), (.int (0 : Int32)), (.int (1 : Int32)), (.int (0 : Int32))] (.int (0 : Int32)) := (P273_8.keep K301 (ninS (Ne.symm P29_11) nin0))
      have f311 : n0 ≤ T301.heap.size := (Nat.le_trans f302 K301.1)
      have f312 : Old Z n0 T301.heap := ((((((f36.keep K35 (allS P29_4 all0)).keep K41 (allS P29_4 (allS P35_1 all0))).keep K240 (allS ge25 (allS P29_5 (allS P29_6 (allS P29_7 all0))))).keep K260 (allS ge25 (allS P29_5 (allS P29_6 (allS P29_7 all0))))).keep K273 (allS ge25 (allS P29_5 (allS P29_6 (allS P29_7 all0))))).keep K301 (allS ge25 all0))
      exact end2 T301 _ X301 T301.heap rfl N301 (.val (.int (3 : Int32))) (1 : Int32) (0 : Int32) p4 (0 : Int32) (1 : Int32) (0 : Int32) P301_0 P301_1 P301_2 P301_3 P301_4 f303 f304 f305 f306 f307 P301_5 f308 f309 f310 f311 f312
    ·
      rw [hc]
      show own_Go p.tables e below _ (T273.setTop (mkF m 155 #[.val (.int p0), .val (.int p1), .val (.int p2), .val (.int p3), .val (.int p4), .val (.int p5), .val (.ref b1), .val (.ref b8), .val (.ref b16), .val (.ref b25), .val (.int (3 : Int32)), .unset, .unset] [(.int (3 : Int32))]))
      refine own_up (fun _ k => XS.istore X273.here hx rfl (hb hby at_155) rfl (l' := #[.val (.int p0), .val (.int p1), .val (.int p2), .val (.int p3), .val (.int p4), .val (.int p5), .val (.ref b1), .val (.ref b8), .val (.ref b16), .val (.ref b25), .val (.int (3 : Int32)), .val (.int (3 : Int32)), .unset]) rfl k) ?_
      show own_Go p.tables e below _ (T273.setTop (mkF m 157 #[.val (.int p0), .val (.int p1), .val (.int p2), .val (.int p3), .val (.int p4), .val (.int p5), .val (.ref b1), .val (.ref b8), .val (.ref b16), .val (.ref b25), .val (.int (3 : Int32)), .val (.int (3 : Int32)), .unset] []))
      refine own_up (fun _ k => XS.aload X273.here hx rfl (hb hby at_157) rfl rfl k) ?_
      show own_Go p.tables e below _ (T273.setTop (mkF m 159 #[.val (.int p0), .val (.int p1), .val (.int p2), .val (.int p3), .val (.int p4), .val (.int p5), .val (.ref b1), .val (.ref b8), .val (.ref b16), .val (.ref b25), .val (.int (3 : Int32)), .val (.int (3 : Int32)), .unset] [(.ref b25)]))
      refine own_up (fun _ k => XS.iload X273.here hx rfl (hb hby at_159) rfl k) ?_
      show own_Go p.tables e below _ (T273.setTop (mkF m 161 #[.val (.int p0), .val (.int p1), .val (.int p2), .val (.int p3), .val (.int p4), .val (.int p5), .val (.ref b1), .val (.ref b8), .val (.ref b16), .val (.ref b25), .val (.int (3 : Int32)), .val (.int (3 : Int32)), .unset] [(.int (3 : Int32)), (.ref b25)]))
      have f314 : n0 ≤ T273.heap.size := (Nat.le_trans f276 K273.1)
      obtain ⟨cq313, kq313, q313a, q313b, q313c⟩ := isOf hZ rfl P273_0
      obtain ⟨_, _, ⟨T313, L313, k313, n313⟩, -, X313, ⟨Lc313, hQ313, l313, y313, z313⟩, st313⟩ := X273.virtualBack hx (y := (⟨"com/example/hintikka/hintikka/domain/ConstraintNetwork", "truncate", "(I)V"⟩ : MethodName)) (z := (⟨"com/example/hintikka/hintikka/domain/ConstraintNetwork", "truncate", "(I)V"⟩ : MethodName)) hown (mvT hZ (hw _ (List.mem_of_getElem? (i := 107) rfl))) (mvT hZ (hw _ (List.mem_of_getElem? (i := 108) rfl))) (notFace_of_selects (args := #[]) (mvT hZ (hw _ (List.mem_of_getElem? (i := 110) rfl)))) (mvT hZ (hw _ (List.mem_of_getElem? (i := 110) rfl))) (mvT hZ (hw _ (List.mem_of_getElem? (i := 109) rfl))) (by decide) (backOf (W := 0) (rmT l Z a0 hw [] b25 (3 : Int32) al_29 la_29 re_29 ri_29 (3 : Int32) T273.heap n0 f314 P273_0 P273_1 P273_2 P273_3 P273_4 P273_5 ge25 (by decide) (by decide)) hZ (hw _ (List.mem_of_getElem? (i := 111) rfl)) (hw _ (List.mem_of_getElem? (i := 3) rfl)) (by decide) (by decide)) q313a q313c (g := (mkF m 161 #[.val (.int p0), .val (.int p1), .val (.int p2), .val (.int p3), .val (.int p4), .val (.int p5), .val (.ref b1), .val (.ref b8), .val (.ref b16), .val (.ref b25), .val (.int (3 : Int32)), .val (.int (3 : Int32)), .unset] [(.int (3 : Int32)), (.ref b25)])) rfl (by rw [hml]; rfl) (Steps.refl _) (argsL := [(.int (3 : Int32))]) (rest := []) (lenOf own_pd9 rfl) rfl (by show 2 * 0 + _ ≤ _; exact Nat.le_of_eq rfl) (hb hby at_161) (fun _ _ => ⟨rfl, rfl, (by decide : 10 + 0 ≤ _), (by decide : 84 + 0 ≤ _)⟩)
      dsimp only [Pt.U, Pt.locs, Pt.cells, Pt.slots] at X313 l313 y313 z313 st313 hQ313
      subst l313 y313 z313
      obtain ⟨rfl, N313q, K313, P313_0, P313_1, P313_2, P313_3, P313_4, P313_5⟩ := hQ313
      have N313 := Fr.app N273 N313q
      refine own_up (fun _ k => st313.trans k) ?_
      show own_Go p.tables e below _ (T313.setTop (mkF m 164 #[.val (.int p0), .val (.int p1), .val (.int p2), .val (.int p3), .val (.int p4), .val (.int p5), .val (.ref b1), .val (.ref b8), .val (.ref b16), .val (.ref b25), .val (.int (3 : Int32)), .val (.int (3 : Int32)), .unset] []))
      have f315 : Exa Z T313.heap al_29 "java/util/ArrayList" := ((f274.keep K273).keep K313)
      have f316 : Fld Z T313.heap al_29 "java/util/ArrayList" "size" "I" (.int (2 : Int32)) := ((f275.keep K273 (ninS (Ne.symm P29_8) (ninS P29_12 (ninS P29_13 (ninS P29_14 nin0))))).keep K313 (ninS (Ne.symm P29_8) nin0))
      have f317 : Arv Z T313.heap b1 k1 .int (3 : Int32) [(.int (0 : Int32)), (.int (1 : Int32)), (.int (1 : Int32))] (.int (0 : Int32)) := ((f264.keep K273 (ninS ne25_0 (ninS nl29_1_0 (ninS nl29_2_0 (ninS nl29_3_0 nin0))))).keep K313 (ninS ne25_0 nin0))
      have f318 : Arv Z T313.heap b8 k8 .int (3 : Int32) [(.int (1 : Int32)), (.int (0 : Int32)), (.int (1 : Int32))] (.int (0 : Int32)) := ((f270.keep K273 (ninS ne25_1 (ninS nl29_1_1 (ninS nl29_2_1 (ninS nl29_3_1 nin0))))).keep K313 (ninS ne25_1 nin0))
      have f319 : Arv Z T313.heap b16 k16 .int (3 : Int32) [(.int p2), (.int p3), (.int p4)] (.int (0 : Int32)) := ((f267.keep K273 (ninS ne25_2 (ninS nl29_1_2 (ninS nl29_2_2 (ninS nl29_3_2 nin0))))).keep K313 (ninS ne25_2 nin0))
      have f320 : Arv Z T313.heap la_29 ka_29 .int (16 : Int32) [(.int (0 : Int32)), (.int (1 : Int32)), (.int (1 : Int32)), (.int (0 : Int32))] (.int (0 : Int32)) := (P273_6.keep K313 (ninS (Ne.symm P29_9) nin0))
      have f321 : Arv Z T313.heap re_29 ke_29 .int (16 : Int32) [(.int p2), (.int p3), (.int p4), (.int (0 : Int32))] (.int (0 : Int32)) := (P273_7.keep K313 (ninS (Ne.symm P29_10) nin0))
      have f322 : Arv Z T313.heap ri_29 ki_29 .int (16 : Int32) [(.int (1 : Int32)), (.int (0 : Int32)), (.int (1 : Int32)), (.int (0 : Int32))] (.int (0 : Int32)) := (P273_8.keep K313 (ninS (Ne.symm P29_11) nin0))
      have f323 : n0 ≤ T313.heap.size := (Nat.le_trans f314 K313.1)
      have f324 : Old Z n0 T313.heap := ((((((f36.keep K35 (allS P29_4 all0)).keep K41 (allS P29_4 (allS P35_1 all0))).keep K240 (allS ge25 (allS P29_5 (allS P29_6 (allS P29_7 all0))))).keep K260 (allS ge25 (allS P29_5 (allS P29_6 (allS P29_7 all0))))).keep K273 (allS ge25 (allS P29_5 (allS P29_6 (allS P29_7 all0))))).keep K313 (allS ge25 all0))
      exact end3 T313 _ X313 T313.heap rfl N313 (.val (.int (3 : Int32))) (0 : Int32) (0 : Int32) (0 : Int32) P313_0 P313_1 P313_2 P313_3 P313_4 f315 f316 f317 f318 f319 P313_5 f320 f321 f322 f323 f324
set_option maxRecDepth 65536 in
set_option maxHeartbeats 40000000 in
theorem comes_1 {Post : Tables → Env → Array Value → State → Outcome → State → Prop} (hpost : ∀ tb e args s v u, (limb_1_1.after args s (.returned v) u = true ∧ limb_1_2.after args s (.returned v) u = true ∧ True) → FrameEnd s (.returned v) u (Jvm.fieldLocs frame_1_writes args s ++ Jvm.arrayLocs frame_1_arrays args s ++ Jvm.staticLocs frame_1_statics s) 32 256 → Post tb e args s (.returned v) u) :
    ArmFor flags0 classFile x code maxLocals ret World_1 tables_1 room_1 Calls_1 rest_1 Pre_1 Post := by
  intro l hfl _ _ p e ha hc hk s m args below hf hA hF happ hP
  obtain ⟨hcalls, hrest, hpre⟩ := hP
  obtain ⟨-, -, -, hnamed, -, -, -, hat⟩ := (Spec.applies_iff hf).mp happ
  obtain ⟨hg, hn⟩ := and_e (Cond.before_iff.mp (show (Jvm.Cond.and given_1 narrow_1).before args s = true from hpre))
  obtain ⟨hcnt, hgr0⟩ := and_e hg
  obtain ⟨ga0, hgr1⟩ := and_e hgr0
  obtain ⟨ga1, hgr2⟩ := and_e hgr1
  obtain ⟨ga2, hgr3⟩ := and_e hgr2
  obtain ⟨ga3, hgr4⟩ := and_e hgr3
  obtain ⟨ga4, hgr5⟩ := and_e hgr4
  obtain ⟨w0, w1, w2, w3, w4, w5, rfl⟩ : ∃ w0 w1 w2 w3 w4 w5 : Value, args = #[w0, w1, w2, w3, w4, w5] := by
    have hs : args.size = 6 := by simpa [Cond.value, given_1] using hcnt
    obtain ⟨L⟩ := args
    match L, hs with
    | [w0, w1, w2, w3, w4, w5], _ => exact ⟨w0, w1, w2, w3, w4, w5, rfl⟩
  have hw := fun d (hd : d ∈ tables_1) => atoms_spec (ws := Jvm.Cond.code x code maxLocals ret :: tables_1) hat d (List.mem_cons_of_mem _ hd)
  have hfit : Fit s := fun {y c} hc i hi => by
    obtain ⟨ha, rfl⟩ := Array.getElem?_eq_some_iff.mp hc
    have q := List.all_eq_true.mp ((Array.all_eq_true_iff_forall_mem.mp hF) _ (Array.getElem_mem ha)) i (List.mem_range.mpr hi)
    simpa [Array.getElem?_eq_getElem hi] using q
  obtain ⟨hsets, hown0⟩ := atoms_of _ (rest_1_c_eq ▸ (show rest_1_c.before _ s = true from hrest))
  have hr0 := Cond.before_iff.mp hown0
  obtain ⟨i0, ei0⟩ := is_v ga0
  obtain rfl : w0 = (.int i0) := Option.some.inj ei0
  obtain ⟨i1, ei1⟩ := is_v ga1
  obtain rfl : w1 = (.int i1) := Option.some.inj ei1
  obtain ⟨i2, ei2⟩ := is_v ga2
  obtain rfl : w2 = (.int i2) := Option.some.inj ei2
  obtain ⟨i3, ei3⟩ := is_v ga3
  obtain rfl : w3 = (.int i3) := Option.some.inj ei3
  obtain ⟨i4, ei4⟩ := is_v ga4
  obtain rfl : w4 = (.int i4) := Option.some.inj ei4
  obtain ⟨i5, ei5⟩ := is_v hgr5
  obtain rfl : w5 = (.int i5) := Option.some.inj ei5
  have k6 := Cond.before_iff.mp (hsets _ (List.mem_of_getElem? (i := 6) rfl))
  have k8 := Cond.before_iff.mp (hsets _ (List.mem_of_getElem? (i := 8) rfl))
  obtain ⟨de, evd⟩ := arr_v k6
  have SD := Sta.start evd (Or.inr ⟨(hw _ (List.mem_of_getElem? (i := 12) rfl)), (hsets _ (List.mem_of_getElem? (i := 2) rfl))⟩)
  obtain ⟨kd, AD⟩ := own_arr0 (d := .null) hfit evd k6 k8
  obtain ⟨n, o, h1, h2, h3, _, L, rfl, ⟨rfl, N⟩, hq⟩ := rm0 l s _ hw tables_1 i0 i1 i2 i3 i4 i5 de kd s.heap s.heap.size (Nat.le_refl _) (Old.start s) SD AD p e ha hc hk s m _ below hf ((Spec.applies_iff_loose hf).mp happ).1 ⟨rfl, State.Warmed39.refl s, rfl⟩ trivial
  refine ⟨n, _, h1, h2, h3, hpost _ _ _ _ _ _ ⟨Cond.after_iff.mpr rfl, Cond.after_iff.mpr (eq_i res_at (Term.int_eval (1)) rfl), trivial⟩ ⟨hq.1, hq.2.1, (hq.2.2.sift fun y hy => Or.inr (N y hy)).mono (by decide) (by decide)⟩⟩
theorem main_1_1 : Claimed_1_1 := comes_1 fun _ _ _ _ _ _ h hF => ⟨h.1, hF⟩
theorem main_1_2 : Claimed_1_2 := comes_1 fun _ _ _ _ _ _ h hF => ⟨h.2.1, hF⟩
end Jvm.Pilot.@@N@@
namespace Jvm.Pilot.@@N@@
open Jvm Jvm.ClassFile Sem Op Lib Jvm.Free Jvm.Stand Jvm.Pilot.@@N@@.Jvm.D
/-! MADE BY PROGRAM (witnessworld.py) out of the Statement's table words and the real class files: 22 classes; the members and pool entries that the words name. The judged class is class 1, her method 1. -/
namespace start1
open Jvm.ClassFile
def u (s : String) : CpInfo := .utf8 (stringToUtf16 s)
/-- a pool by its gaps: so many unusable entries, then the entry; so many at the end -/
def gap : Nat → List CpInfo → List CpInfo
  | 0, r => r
  | n + 1, r => .unusable :: gap n r
def poolList (es : List (Nat × CpInfo)) (last : Nat) : List CpInfo := es.foldr (fun e r => gap e.1 (e.2 :: r)) (gap last [])
def pool (es : List (Nat × CpInfo)) (last : Nat) : Array CpInfo := ⟨poolList es last⟩
def fileOf (pool : Array CpInfo) (this : Nat) (attrs : Array Attribute := #[]) (ms : Array MethodInfo := #[]) (fl : Nat := 33) (sup : Nat := 0) (ifs : Array Nat := #[]) (fds : Array FieldInfo := #[]) : ClassFile where
  minorVersion := 0
  majorVersion := 65
  constantPool := pool
  accessFlags := fl
  thisClass := this
  superClass := sup
  interfaces := ifs
  fields := fds
  methods := ms
  attributes := attrs
def plain (name : String) (sup : Option ClassId) : Class where
  name := name
  kind := .ordinary
  loader := none
  accessFlags := 33
  super := sup
  interfaces := #[]
  cf := none
  fields := #[]
  methods := #[]
  instanceTypes := #[]
  staticTypes := #[]
  resolved := #[]
  callSites := []
  init := .initialized
  statics := none
  mirror := none

def pool0 : Array CpInfo := pool [(5, u "<init>"), (0, u "()V"), (1, .class_ 10), (1, u "java/lang/Object")] 113

def k0c0 : Code := { maxStack := 0, maxLocals := 1, code := object_method_1_code, exceptionTable := #[], attributes := #[] }
def k0m0 : Method := { name := "<init>", desc := "()V", sig := { parameters := [], returnType := none }, accessFlags := 1, code := some k0c0 }
/-- java/lang/Object -/
def k0 : Class := { plain "java/lang/Object" none with
  accessFlags := 33
  interfaces := #[]
  cf := some (fileOf pool0 8 #[] #[{ accessFlags := 1, nameIndex := 5, descriptorIndex := 6, attributes := #[] }] 33 0 #[] #[])
  fields := #[]
  methods := #[k0m0]
  instanceTypes := #[]
  staticTypes := #[]
  resolved := Array.replicate 124 none
  statics := none }

def pool1 : Array CpInfo := pool [(2, .class_ 4), (0, .nameAndType 5 6), (0, u "java/lang/Object"), (0, u "<init>"), (0, u "()V"), (0, .class_ 8), (0, u "com/example/hintikka/hintikka/domain/ConstraintNetwork"), (0, .methodref 7 3), (0, .methodref 7 11), (0, .nameAndType 12 13), (0, u "addVariable"), (0, u "()I"), (0, .methodref 7 15), (0, .nameAndType 16 17), (0, u "add"), (0, u "(III)V"), (0, .methodref 7 19), (0, .nameAndType 20 21), (0, u "truncate"), (0, u "(I)V"), (0, .methodref 7 23), (0, .nameAndType 24 13), (0, u "size"), (0, .methodref 7 26), (0, .nameAndType 27 13), (0, u "getVariableCount"), (0, .methodref 7 29), (0, .nameAndType 30 31), (0, u "getLeft"), (0, u "(I)I"), (0, .methodref 7 33), (0, .nameAndType 34 31), (0, u "getRelations"), (0, .methodref 7 36), (0, .nameAndType 37 31), (0, u "getRight"), (0, .class_ 39), (0, u "com/example/hintikka/hintikka/domain/ConstraintNetworkTruncatePinLaw"), (2, u "law"), (0, u "(IIIIII)Z")] 5

def k1m0 : Method := { name := "<init>", desc := "()V", sig := { parameters := [], returnType := none }, accessFlags := 1, code := none }
def k1c1 : Code := { maxStack := 5, maxLocals := 13, code := code, exceptionTable := #[], attributes := #[] }
def k1m1 : Method := { name := "law", desc := "(IIIIII)Z", sig := { parameters := [.int, .int, .int, .int, .int, .int], returnType := some .boolean }, accessFlags := 9, code := some k1c1 }
/-- com/example/hintikka/hintikka/domain/ConstraintNetworkTruncatePinLaw -/
def k1 : Class := { plain "com/example/hintikka/hintikka/domain/ConstraintNetworkTruncatePinLaw" (some 0) with
  accessFlags := 49
  interfaces := #[]
  cf := some (fileOf pool1 38 #[] #[{ accessFlags := 1, nameIndex := 5, descriptorIndex := 6, attributes := #[] }, { accessFlags := 9, nameIndex := 42, descriptorIndex := 43, attributes := #[] }] 49 2 #[] #[])
  fields := #[]
  methods := #[k1m0, k1m1]
  instanceTypes := #[]
  staticTypes := #[]
  resolved := Array.replicate 49 none
  statics := none }

def pool2 : Array CpInfo := pool [(1, .methodref 2 3), (0, .class_ 4), (0, .nameAndType 5 6), (0, u "java/lang/Object"), (0, u "<init>"), (0, u "()V"), (0, .class_ 8), (0, u "java/util/ArrayList"), (0, .methodref 7 3), (0, .fieldref 11 12), (0, .class_ 13), (0, .nameAndType 14 15), (0, u "com/example/hintikka/hintikka/domain/ConstraintNetwork"), (0, u "constants"), (0, u "Ljava/util/List;"), (0, .class_ 17), (0, u "java/util/HashMap"), (0, .methodref 16 3), (0, .fieldref 11 20), (0, .nameAndType 21 22), (0, u "constantVariables"), (0, u "Ljava/util/Map;"), (0, .fieldref 11 24), (0, .nameAndType 25 26), (0, u "lefts"), (0, u "[I"), (0, .fieldref 11 28), (0, .nameAndType 29 26), (0, u "relations"), (0, .fieldref 11 31), (0, .nameAndType 32 26), (0, u "rights"), (0, .interfaceMethodref 34 35), (0, .class_ 36), (0, .nameAndType 37 38), (0, u "java/util/List"), (0, u "add"), (0, u "(Ljava/lang/Object;)Z"), (0, .interfaceMethodref 34 40), (0, .nameAndType 41 42), (0, u "size"), (0, u "()I"), (18, u "addVariable"), (15, .methodref 11 78), (0, .nameAndType 79 80), (0, u "checkVariable"), (0, u "(I)I"), (3, .fieldref 11 85), (0, .nameAndType 41 86), (0, u "I"), (6, .methodref 11 94), (0, .nameAndType 95 80), (0, u "check"), (43, u "NO_VARIABLES"), (8, u "getVariableCount"), (1, u "(III)V"), (0, u "getLeft"), (0, u "getRelations"), (0, u "getRight"), (0, u "truncate"), (0, u "(I)V")] 39

def k2c0 : Code := { maxStack := 3, maxLocals := 1, code := prog_14_method_1_code, exceptionTable := #[], attributes := #[] }
def k2m0 : Method := { name := "<init>", desc := "()V", sig := { parameters := [], returnType := none }, accessFlags := 1, code := some k2c0 }
def k2c1 : Code := { maxStack := 2, maxLocals := 1, code := prog_14_method_2_code, exceptionTable := #[], attributes := #[] }
def k2m1 : Method := { name := "addVariable", desc := "()I", sig := { parameters := [], returnType := some .int }, accessFlags := 1, code := some k2c1 }
def k2c2 : Code := { maxStack := 1, maxLocals := 1, code := prog_14_method_4_code, exceptionTable := #[], attributes := #[] }
def k2m2 : Method := { name := "getVariableCount", desc := "()I", sig := { parameters := [], returnType := some .int }, accessFlags := 1, code := some k2c2 }
def k2c3 : Code := { maxStack := 4, maxLocals := 4, code := prog_14_method_6_code, exceptionTable := #[], attributes := #[] }
def k2m3 : Method := { name := "add", desc := "(III)V", sig := { parameters := [.int, .int, .int], returnType := none }, accessFlags := 1, code := some k2c3 }
def k2c4 : Code := { maxStack := 1, maxLocals := 1, code := prog_14_method_7_code, exceptionTable := #[], attributes := #[] }
def k2m4 : Method := { name := "size", desc := "()I", sig := { parameters := [], returnType := some .int }, accessFlags := 1, code := some k2c4 }
def k2c5 : Code := { maxStack := 3, maxLocals := 2, code := prog_14_method_8_code, exceptionTable := #[], attributes := #[] }
def k2m5 : Method := { name := "getLeft", desc := "(I)I", sig := { parameters := [.int], returnType := some .int }, accessFlags := 1, code := some k2c5 }
def k2c6 : Code := { maxStack := 3, maxLocals := 2, code := prog_14_method_9_code, exceptionTable := #[], attributes := #[] }
def k2m6 : Method := { name := "getRelations", desc := "(I)I", sig := { parameters := [.int], returnType := some .int }, accessFlags := 1, code := some k2c6 }
def k2c7 : Code := { maxStack := 3, maxLocals := 2, code := prog_14_method_10_code, exceptionTable := #[], attributes := #[] }
def k2m7 : Method := { name := "getRight", desc := "(I)I", sig := { parameters := [.int], returnType := some .int }, accessFlags := 1, code := some k2c7 }
def k2c8 : Code := { maxStack := 4, maxLocals := 2, code := prog_14_method_11_code, exceptionTable := #[], attributes := #[] }
def k2m8 : Method := { name := "truncate", desc := "(I)V", sig := { parameters := [.int], returnType := none }, accessFlags := 1, code := some k2c8 }
def k2c9 : Code := { maxStack := 3, maxLocals := 2, code := prog_14_method_16_code, exceptionTable := #[], attributes := #[] }
def k2m9 : Method := { name := "checkVariable", desc := "(I)I", sig := { parameters := [.int], returnType := some .int }, accessFlags := 2, code := some k2c9 }
def k2c10 : Code := { maxStack := 3, maxLocals := 2, code := prog_14_method_17_code, exceptionTable := #[], attributes := #[] }
def k2m10 : Method := { name := "check", desc := "(I)I", sig := { parameters := [.int], returnType := some .int }, accessFlags := 2, code := some k2c10 }
/-- com/example/hintikka/hintikka/domain/ConstraintNetwork -/
def k2 : Class := { plain "com/example/hintikka/hintikka/domain/ConstraintNetwork" (some 0) with
  accessFlags := 49
  interfaces := #[]
  cf := some (fileOf pool2 11 #[] #[{ accessFlags := 1, nameIndex := 5, descriptorIndex := 6, attributes := #[] }, { accessFlags := 1, nameIndex := 61, descriptorIndex := 42, attributes := #[] }, { accessFlags := 1, nameIndex := 148, descriptorIndex := 42, attributes := #[] }, { accessFlags := 1, nameIndex := 37, descriptorIndex := 150, attributes := #[] }, { accessFlags := 1, nameIndex := 41, descriptorIndex := 42, attributes := #[] }, { accessFlags := 1, nameIndex := 151, descriptorIndex := 80, attributes := #[] }, { accessFlags := 1, nameIndex := 152, descriptorIndex := 80, attributes := #[] }, { accessFlags := 1, nameIndex := 153, descriptorIndex := 80, attributes := #[] }, { accessFlags := 1, nameIndex := 154, descriptorIndex := 155, attributes := #[] }, { accessFlags := 2, nameIndex := 79, descriptorIndex := 80, attributes := #[] }, { accessFlags := 2, nameIndex := 95, descriptorIndex := 80, attributes := #[] }] 49 2 #[] #[{ accessFlags := 26, nameIndex := 139, descriptorIndex := 26, attributes := #[] }, { accessFlags := 18, nameIndex := 14, descriptorIndex := 15, attributes := #[] }, { accessFlags := 18, nameIndex := 21, descriptorIndex := 22, attributes := #[] }, { accessFlags := 2, nameIndex := 25, descriptorIndex := 26, attributes := #[] }, { accessFlags := 2, nameIndex := 29, descriptorIndex := 26, attributes := #[] }, { accessFlags := 2, nameIndex := 32, descriptorIndex := 26, attributes := #[] }, { accessFlags := 2, nameIndex := 41, descriptorIndex := 86, attributes := #[] }])
  fields := #[{ name := "NO_VARIABLES", type := (.array .int), accessFlags := 26, slot := 0, constantValue := 0 }, { name := "constants", type := (.object "java/util/List"), accessFlags := 18, slot := 0, constantValue := 0 }, { name := "constantVariables", type := (.object "java/util/Map"), accessFlags := 18, slot := 1, constantValue := 0 }, { name := "lefts", type := (.array .int), accessFlags := 2, slot := 2, constantValue := 0 }, { name := "relations", type := (.array .int), accessFlags := 2, slot := 3, constantValue := 0 }, { name := "rights", type := (.array .int), accessFlags := 2, slot := 4, constantValue := 0 }, { name := "size", type := .int, accessFlags := 2, slot := 5, constantValue := 0 }]
  methods := #[k2m0, k2m1, k2m2, k2m3, k2m4, k2m5, k2m6, k2m7, k2m8, k2m9, k2m10]
  instanceTypes := #[(.object "java/util/List"), (.object "java/util/Map"), (.array .int), (.array .int), (.array .int), .int]
  staticTypes := #[(.array .int)]
  resolved := Array.replicate 195 none
  statics := none }

def pool3 : Array CpInfo := pool [(8, .class_ 10), (1, u "java/lang/Iterable"), (24, .class_ 36), (0, u "java/lang/Object")] 25

/-- java/lang/Iterable -/
def k3 : Class := { plain "java/lang/Iterable" (some 0) with
  accessFlags := 1537
  interfaces := #[]
  cf := some (fileOf pool3 8 #[] #[] 1537 35 #[] #[])
  fields := #[]
  methods := #[]
  instanceTypes := #[]
  staticTypes := #[]
  resolved := Array.replicate 62 none
  statics := none }

def pool4 : Array CpInfo := pool [(10, .class_ 12), (1, u "java/util/Collection"), (47, .class_ 61), (0, u "java/lang/Object"), (0, .class_ 63), (0, u "java/lang/Iterable")] 51

/-- java/util/Collection -/
def k4 : Class := { plain "java/util/Collection" (some 0) with
  accessFlags := 1537
  interfaces := #[3]
  cf := some (fileOf pool4 10 #[] #[] 1537 60 #[62] #[])
  fields := #[]
  methods := #[]
  instanceTypes := #[]
  staticTypes := #[]
  resolved := Array.replicate 115 none
  statics := none }

def pool5 : Array CpInfo := pool [(1, .methodref 2 3), (0, .class_ 4), (0, .nameAndType 5 6), (0, u "java/lang/Object"), (0, u "<init>"), (0, u "()V"), (1, .class_ 10), (1, u "java/util/AbstractCollection"), (66, .class_ 78), (0, u "java/util/Collection")] 81

def k5c0 : Code := { maxStack := 1, maxLocals := 1, code := jdk_22_method_1_code, exceptionTable := #[], attributes := #[] }
def k5m0 : Method := { name := "<init>", desc := "()V", sig := { parameters := [], returnType := none }, accessFlags := 4, code := some k5c0 }
/-- java/util/AbstractCollection -/
def k5 : Class := { plain "java/util/AbstractCollection" (some 0) with
  accessFlags := 1057
  interfaces := #[4]
  cf := some (fileOf pool5 8 #[] #[{ accessFlags := 4, nameIndex := 5, descriptorIndex := 6, attributes := #[] }] 1057 2 #[77] #[])
  fields := #[]
  methods := #[k5m0]
  instanceTypes := #[]
  staticTypes := #[]
  resolved := Array.replicate 160 none
  statics := none }

def pool6 : Array CpInfo := pool [(8, .class_ 10), (1, u "java/util/SequencedCollection"), (15, .class_ 27), (0, u "java/lang/Object"), (0, .class_ 29), (0, u "java/util/Collection")] 27

/-- java/util/SequencedCollection -/
def k6 : Class := { plain "java/util/SequencedCollection" (some 0) with
  accessFlags := 1537
  interfaces := #[4]
  cf := some (fileOf pool6 8 #[] #[] 1537 26 #[28] #[])
  fields := #[]
  methods := #[]
  instanceTypes := #[]
  staticTypes := #[]
  resolved := Array.replicate 57 none
  statics := none }

def pool7 : Array CpInfo := pool [(8, .class_ 10), (1, u "java/util/List"), (49, u "add"), (3, u "(Ljava/lang/Object;)Z"), (14, u "size"), (0, u "()I"), (22, .class_ 104), (0, u "java/lang/Object"), (15, .class_ 121), (0, u "java/util/SequencedCollection")] 129

def k7m0 : Method := { name := "size", desc := "()I", sig := { parameters := [], returnType := some .int }, accessFlags := 1025, code := none }
def k7m1 : Method := { name := "add", desc := "(Ljava/lang/Object;)Z", sig := { parameters := [(.object "java/lang/Object")], returnType := some .boolean }, accessFlags := 1025, code := none }
/-- java/util/List -/
def k7 : Class := { plain "java/util/List" (some 0) with
  accessFlags := 1537
  interfaces := #[6]
  cf := some (fileOf pool7 8 #[] #[{ accessFlags := 1025, nameIndex := 79, descriptorIndex := 80, attributes := #[] }, { accessFlags := 1025, nameIndex := 60, descriptorIndex := 64, attributes := #[] }] 1537 103 #[120] #[])
  fields := #[]
  methods := #[k7m0, k7m1]
  instanceTypes := #[]
  staticTypes := #[]
  resolved := Array.replicate 251 none
  statics := none }

def pool8 : Array CpInfo := pool [(1, .methodref 2 3), (0, .class_ 4), (0, .nameAndType 5 6), (0, u "java/util/AbstractCollection"), (0, u "<init>"), (0, u "()V"), (0, .fieldref 8 9), (0, .class_ 10), (0, .nameAndType 11 12), (0, u "java/util/AbstractList"), (0, u "modCount"), (0, u "I"), (64, .class_ 78), (0, u "java/util/AbstractList$Itr"), (3, .class_ 83), (0, u "java/util/AbstractList$ListItr"), (9, .class_ 94), (0, u "java/util/AbstractList$RandomAccessSubList"), (3, .class_ 99), (0, u "java/util/AbstractList$SubList"), (33, .class_ 134), (0, u "java/util/List"), (73, .class_ 209), (0, u "java/util/AbstractList$SubList$1"), (0, .class_ 211), (0, u "java/util/AbstractList$RandomAccessSpliterator")] 6

def k8c0 : Code := { maxStack := 2, maxLocals := 1, code := jdk_39_method_1_code, exceptionTable := #[], attributes := #[] }
def k8m0 : Method := { name := "<init>", desc := "()V", sig := { parameters := [], returnType := none }, accessFlags := 4, code := some k8c0 }
/-- java/util/AbstractList -/
def k8 : Class := { plain "java/util/AbstractList" (some 5) with
  accessFlags := 1057
  interfaces := #[7]
  cf := some (fileOf pool8 8 #[.nestMembers #[93, 98, 208, 210, 82, 77]] #[{ accessFlags := 4, nameIndex := 5, descriptorIndex := 6, attributes := #[] }] 1057 2 #[133] #[{ accessFlags := 132, nameIndex := 11, descriptorIndex := 12, attributes := #[] }])
  fields := #[{ name := "modCount", type := .int, accessFlags := 132, slot := 0, constantValue := 0 }]
  methods := #[k8m0]
  instanceTypes := #[.int]
  staticTypes := #[]
  resolved := Array.replicate 218 none
  statics := none }

def pool9 : Array CpInfo := pool [(1, .class_ 2), (0, u "java/util/RandomAccess"), (0, .class_ 4), (0, u "java/lang/Object")] 2

/-- java/util/RandomAccess -/
def k9 : Class := { plain "java/util/RandomAccess" (some 0) with
  accessFlags := 1537
  interfaces := #[]
  cf := some (fileOf pool9 1 #[] #[] 1537 3 #[] #[])
  fields := #[]
  methods := #[]
  instanceTypes := #[]
  staticTypes := #[]
  resolved := Array.replicate 7 none
  statics := none }

def pool10 : Array CpInfo := pool [(1, .class_ 2), (0, u "java/lang/Cloneable"), (0, .class_ 4), (0, u "java/lang/Object")] 2

/-- java/lang/Cloneable -/
def k10 : Class := { plain "java/lang/Cloneable" (some 0) with
  accessFlags := 1537
  interfaces := #[]
  cf := some (fileOf pool10 1 #[] #[] 1537 3 #[] #[])
  fields := #[]
  methods := #[]
  instanceTypes := #[]
  staticTypes := #[]
  resolved := Array.replicate 7 none
  statics := none }

def pool11 : Array CpInfo := pool [(1, .class_ 2), (0, u "java/io/Serializable"), (0, .class_ 4), (0, u "java/lang/Object")] 2

/-- java/io/Serializable -/
def k11 : Class := { plain "java/io/Serializable" (some 0) with
  accessFlags := 1537
  interfaces := #[]
  cf := some (fileOf pool11 1 #[] #[] 1537 3 #[] #[])
  fields := #[]
  methods := #[]
  instanceTypes := #[]
  staticTypes := #[]
  resolved := Array.replicate 7 none
  statics := none }

def pool12 : Array CpInfo := pool [(1, .methodref 2 3), (0, .class_ 4), (0, .nameAndType 5 6), (0, u "java/util/AbstractList"), (0, u "<init>"), (0, u "()V"), (0, .class_ 8), (0, u "java/lang/Object"), (0, .fieldref 10 11), (0, .class_ 12), (0, .nameAndType 13 14), (0, u "java/util/ArrayList"), (0, u "elementData"), (0, u "[Ljava/lang/Object;"), (2, u "EMPTY_ELEMENTDATA"), (21, .fieldref 10 40), (0, .nameAndType 41 14), (0, u "DEFAULTCAPACITY_EMPTY_ELEMENTDATA"), (5, u "()[Ljava/lang/Object;"), (0, .fieldref 10 49), (0, .nameAndType 50 51), (0, u "size"), (0, u "I"), (11, .fieldref 10 64), (0, .nameAndType 65 51), (0, u "modCount"), (3, .methodref 10 70), (0, .nameAndType 71 72), (0, u "grow"), (0, u "(I)[Ljava/lang/Object;"), (6, .methodref 80 81), (0, .class_ 82), (0, .nameAndType 83 84), (0, u "java/lang/Math"), (0, u "max"), (0, u "(II)I"), (11, u "(Ljava/lang/Object;)Z"), (32, .methodref 10 130), (0, .nameAndType 71 47), (0, .methodref 10 132), (0, .nameAndType 133 134), (0, u "add"), (0, u "(Ljava/lang/Object;[Ljava/lang/Object;I)V"), (13, .class_ 149), (0, u "java/util/List"), (36, u "()I"), (75, .class_ 263), (0, u "java/util/ArrayList$ListItr"), (3, .class_ 268), (0, u "java/util/ArrayList$Itr"), (7, .class_ 277), (0, u "java/util/ArrayList$SubList"), (12, .class_ 291), (0, u "java/util/ArrayList$ArrayListSpliterator"), (37, .class_ 330), (0, u "java/util/RandomAccess"), (0, .class_ 332), (0, u "java/lang/Cloneable"), (0, .class_ 334), (0, u "java/io/Serializable"), (0, u "serialVersionUID"), (0, u "J"), (3, u "DEFAULT_CAPACITY"), (159, .class_ 501), (0, u "java/util/ArrayList$SubList$2"), (0, .class_ 503), (0, u "java/util/ArrayList$SubList$1")] 5

def k12c0 : Code := { maxStack := 2, maxLocals := 1, code := jdk_38_method_2_code, exceptionTable := #[], attributes := #[] }
def k12m0 : Method := { name := "<init>", desc := "()V", sig := { parameters := [], returnType := none }, accessFlags := 1, code := some k12c0 }
def k12c1 : Code := { maxStack := 4, maxLocals := 4, code := jdk_38_method_6_code, exceptionTable := #[], attributes := #[] }
def k12m1 : Method := { name := "grow", desc := "(I)[Ljava/lang/Object;", sig := { parameters := [.int], returnType := some (.array (.object "java/lang/Object")) }, accessFlags := 2, code := some k12c1 }
def k12c2 : Code := { maxStack := 3, maxLocals := 1, code := jdk_38_method_7_code, exceptionTable := #[], attributes := #[] }
def k12m2 : Method := { name := "grow", desc := "()[Ljava/lang/Object;", sig := { parameters := [], returnType := some (.array (.object "java/lang/Object")) }, accessFlags := 2, code := some k12c2 }
def k12c3 : Code := { maxStack := 1, maxLocals := 1, code := jdk_38_method_8_code, exceptionTable := #[], attributes := #[] }
def k12m3 : Method := { name := "size", desc := "()I", sig := { parameters := [], returnType := some .int }, accessFlags := 1, code := some k12c3 }
def k12c4 : Code := { maxStack := 3, maxLocals := 4, code := jdk_38_method_24_code, exceptionTable := #[], attributes := #[] }
def k12m4 : Method := { name := "add", desc := "(Ljava/lang/Object;[Ljava/lang/Object;I)V", sig := { parameters := [(.object "java/lang/Object"), (.array (.object "java/lang/Object")), .int], returnType := none }, accessFlags := 2, code := some k12c4 }
def k12c5 : Code := { maxStack := 4, maxLocals := 2, code := jdk_38_method_25_code, exceptionTable := #[], attributes := #[] }
def k12m5 : Method := { name := "add", desc := "(Ljava/lang/Object;)Z", sig := { parameters := [(.object "java/lang/Object")], returnType := some .boolean }, accessFlags := 1, code := some k12c5 }
/-- java/util/ArrayList -/
def k12 : Class := { plain "java/util/ArrayList" (some 8) with
  accessFlags := 33
  interfaces := #[7, 9, 10, 11]
  cf := some (fileOf pool12 10 #[.nestMembers #[290, 276, 500, 502, 262, 267]] #[{ accessFlags := 1, nameIndex := 5, descriptorIndex := 6, attributes := #[] }, { accessFlags := 2, nameIndex := 71, descriptorIndex := 72, attributes := #[] }, { accessFlags := 2, nameIndex := 71, descriptorIndex := 47, attributes := #[] }, { accessFlags := 1, nameIndex := 50, descriptorIndex := 186, attributes := #[] }, { accessFlags := 2, nameIndex := 133, descriptorIndex := 134, attributes := #[] }, { accessFlags := 1, nameIndex := 133, descriptorIndex := 96, attributes := #[] }] 33 2 #[148, 329, 331, 333] #[{ accessFlags := 26, nameIndex := 335, descriptorIndex := 336, attributes := #[] }, { accessFlags := 26, nameIndex := 340, descriptorIndex := 51, attributes := #[] }, { accessFlags := 26, nameIndex := 17, descriptorIndex := 14, attributes := #[] }, { accessFlags := 26, nameIndex := 41, descriptorIndex := 14, attributes := #[] }, { accessFlags := 128, nameIndex := 13, descriptorIndex := 14, attributes := #[] }, { accessFlags := 2, nameIndex := 50, descriptorIndex := 51, attributes := #[] }])
  fields := #[{ name := "serialVersionUID", type := .long, accessFlags := 26, slot := 0, constantValue := 0 }, { name := "DEFAULT_CAPACITY", type := .int, accessFlags := 26, slot := 1, constantValue := 0 }, { name := "EMPTY_ELEMENTDATA", type := (.array (.object "java/lang/Object")), accessFlags := 26, slot := 2, constantValue := 0 }, { name := "DEFAULTCAPACITY_EMPTY_ELEMENTDATA", type := (.array (.object "java/lang/Object")), accessFlags := 26, slot := 3, constantValue := 0 }, { name := "elementData", type := (.array (.object "java/lang/Object")), accessFlags := 128, slot := 1, constantValue := 0 }, { name := "size", type := .int, accessFlags := 2, slot := 2, constantValue := 0 }]
  methods := #[k12m0, k12m1, k12m2, k12m3, k12m4, k12m5]
  instanceTypes := #[.int, (.array (.object "java/lang/Object")), .int]
  staticTypes := #[.long, .int, (.array (.object "java/lang/Object")), (.array (.object "java/lang/Object"))]
  resolved := Array.replicate 509 none
  statics := some 0 }

def pool13 : Array CpInfo := pool [(2, .class_ 4), (1, u "java/util/Map"), (31, .class_ 37), (0, u "java/util/Map$Entry"), (55, .class_ 94), (0, u "java/lang/Object")] 168

/-- java/util/Map -/
def k13 : Class := { plain "java/util/Map" (some 0) with
  accessFlags := 1537
  interfaces := #[]
  cf := some (fileOf pool13 2 #[.nestMembers #[36]] #[] 1537 93 #[] #[])
  fields := #[]
  methods := #[]
  instanceTypes := #[]
  staticTypes := #[]
  resolved := Array.replicate 263 none
  statics := none }

def pool14 : Array CpInfo := pool [(1, .methodref 2 3), (0, .class_ 4), (0, .nameAndType 5 6), (0, u "java/lang/Object"), (0, u "<init>"), (0, u "()V"), (1, .class_ 10), (1, u "java/util/AbstractMap"), (42, .class_ 54), (0, u "java/util/Map"), (9, u "keySet"), (0, u "Ljava/util/Set;"), (0, .class_ 67), (0, u "java/util/AbstractMap$1"), (5, u "values"), (0, u "Ljava/util/Collection;"), (0, .class_ 76), (0, u "java/util/AbstractMap$2"), (104, .class_ 182), (0, u "java/util/AbstractMap$ViewCollection"), (0, .class_ 184), (0, u "java/util/AbstractMap$SimpleImmutableEntry"), (0, .class_ 186), (0, u "java/util/AbstractMap$SimpleEntry"), (0, .class_ 188), (0, u "java/util/AbstractMap$2$1"), (0, .class_ 190), (0, u "java/util/AbstractMap$1$1")] 5

def k14c0 : Code := { maxStack := 1, maxLocals := 1, code := jdk_71_method_1_code, exceptionTable := #[], attributes := #[] }
def k14m0 : Method := { name := "<init>", desc := "()V", sig := { parameters := [], returnType := none }, accessFlags := 4, code := some k14c0 }
/-- java/util/AbstractMap -/
def k14 : Class := { plain "java/util/AbstractMap" (some 0) with
  accessFlags := 1057
  interfaces := #[13]
  cf := some (fileOf pool14 8 #[.nestMembers #[181, 183, 185, 75, 187, 66, 189]] #[{ accessFlags := 4, nameIndex := 5, descriptorIndex := 6, attributes := #[] }] 1057 2 #[53] #[{ accessFlags := 128, nameIndex := 64, descriptorIndex := 65, attributes := #[] }, { accessFlags := 128, nameIndex := 73, descriptorIndex := 74, attributes := #[] }])
  fields := #[{ name := "keySet", type := (.object "java/util/Set"), accessFlags := 128, slot := 0, constantValue := 0 }, { name := "values", type := (.object "java/util/Collection"), accessFlags := 128, slot := 1, constantValue := 0 }]
  methods := #[k14m0]
  instanceTypes := #[(.object "java/util/Set"), (.object "java/util/Collection")]
  staticTypes := #[]
  resolved := Array.replicate 196 none
  statics := none }

def pool15 : Array CpInfo := pool [(40, .class_ 41), (0, u "java/util/HashMap"), (1, .methodref 44 45), (0, .class_ 46), (0, .nameAndType 47 48), (0, u "java/util/AbstractMap"), (0, u "<init>"), (0, u "()V"), (32, .fieldref 40 82), (0, .nameAndType 83 84), (0, u "loadFactor"), (0, u "F"), (5, u "threshold"), (0, u "I"), (0, .float 1061158912), (8, .class_ 103), (1, u "java/util/Map"), (0, u "size"), (2, u "table"), (0, u "[Ljava/util/HashMap$Node;"), (14, u "entrySet"), (39, .class_ 165), (1, u "java/util/HashMap$Node"), (14, .class_ 181), (0, u "java/util/HashMap$TreeNode"), (22, u "modCount"), (37, u "Ljava/util/Set;"), (0, .class_ 244), (0, u "java/util/HashMap$KeySet"), (18, .class_ 264), (0, u "java/util/HashMap$Values"), (3, .class_ 269), (0, u "java/util/HashMap$EntrySet"), (76, .class_ 348), (1, u "java/util/HashMap$UnsafeHolder"), (43, .class_ 393), (0, u "java/lang/Cloneable"), (0, .class_ 395), (0, u "java/io/Serializable"), (0, u "serialVersionUID"), (0, u "J"), (3, u "DEFAULT_INITIAL_CAPACITY"), (1, u "MAXIMUM_CAPACITY"), (0, u "DEFAULT_LOAD_FACTOR"), (0, u "TREEIFY_THRESHOLD"), (1, u "UNTREEIFY_THRESHOLD"), (1, u "MIN_TREEIFY_CAPACITY"), (186, .class_ 597), (0, u "java/util/HashMap$EntrySpliterator"), (0, .class_ 599), (0, u "java/util/HashMap$ValueSpliterator"), (0, .class_ 601), (0, u "java/util/HashMap$KeySpliterator"), (0, .class_ 603), (0, u "java/util/HashMap$HashMapSpliterator"), (0, .class_ 605), (0, u "java/util/HashMap$EntryIterator"), (0, .class_ 607), (0, u "java/util/HashMap$ValueIterator"), (0, .class_ 609), (0, u "java/util/HashMap$KeyIterator"), (0, .class_ 611), (0, u "java/util/HashMap$HashIterator")] 17

def k15c0 : Code := { maxStack := 2, maxLocals := 1, code := jdk_69_method_7_code, exceptionTable := #[], attributes := #[] }
def k15m0 : Method := { name := "<init>", desc := "()V", sig := { parameters := [], returnType := none }, accessFlags := 1, code := some k15c0 }
/-- java/util/HashMap -/
def k15 : Class := { plain "java/util/HashMap" (some 14) with
  accessFlags := 33
  interfaces := #[13, 10, 11]
  cf := some (fileOf pool15 40 #[.nestMembers #[180, 596, 598, 600, 602, 604, 606, 608, 610, 346, 268, 263, 243, 163]] #[{ accessFlags := 1, nameIndex := 47, descriptorIndex := 48, attributes := #[] }] 33 44 #[101, 392, 394] #[{ accessFlags := 26, nameIndex := 396, descriptorIndex := 397, attributes := #[] }, { accessFlags := 24, nameIndex := 401, descriptorIndex := 91, attributes := #[] }, { accessFlags := 24, nameIndex := 403, descriptorIndex := 91, attributes := #[] }, { accessFlags := 24, nameIndex := 404, descriptorIndex := 84, attributes := #[] }, { accessFlags := 24, nameIndex := 405, descriptorIndex := 91, attributes := #[] }, { accessFlags := 24, nameIndex := 407, descriptorIndex := 91, attributes := #[] }, { accessFlags := 24, nameIndex := 409, descriptorIndex := 91, attributes := #[] }, { accessFlags := 128, nameIndex := 107, descriptorIndex := 108, attributes := #[] }, { accessFlags := 128, nameIndex := 123, descriptorIndex := 242, attributes := #[] }, { accessFlags := 128, nameIndex := 104, descriptorIndex := 91, attributes := #[] }, { accessFlags := 128, nameIndex := 204, descriptorIndex := 91, attributes := #[] }, { accessFlags := 0, nameIndex := 90, descriptorIndex := 91, attributes := #[] }, { accessFlags := 16, nameIndex := 83, descriptorIndex := 84, attributes := #[] }])
  fields := #[{ name := "serialVersionUID", type := .long, accessFlags := 26, slot := 0, constantValue := 0 }, { name := "DEFAULT_INITIAL_CAPACITY", type := .int, accessFlags := 24, slot := 1, constantValue := 0 }, { name := "MAXIMUM_CAPACITY", type := .int, accessFlags := 24, slot := 2, constantValue := 0 }, { name := "DEFAULT_LOAD_FACTOR", type := .float, accessFlags := 24, slot := 3, constantValue := 0 }, { name := "TREEIFY_THRESHOLD", type := .int, accessFlags := 24, slot := 4, constantValue := 0 }, { name := "UNTREEIFY_THRESHOLD", type := .int, accessFlags := 24, slot := 5, constantValue := 0 }, { name := "MIN_TREEIFY_CAPACITY", type := .int, accessFlags := 24, slot := 6, constantValue := 0 }, { name := "table", type := (.array (.object "java/util/HashMap$Node")), accessFlags := 128, slot := 2, constantValue := 0 }, { name := "entrySet", type := (.object "java/util/Set"), accessFlags := 128, slot := 3, constantValue := 0 }, { name := "size", type := .int, accessFlags := 128, slot := 4, constantValue := 0 }, { name := "modCount", type := .int, accessFlags := 128, slot := 5, constantValue := 0 }, { name := "threshold", type := .int, accessFlags := 0, slot := 6, constantValue := 0 }, { name := "loadFactor", type := .float, accessFlags := 16, slot := 7, constantValue := 0 }]
  methods := #[k15m0]
  instanceTypes := #[(.object "java/util/Set"), (.object "java/util/Collection"), (.array (.object "java/util/HashMap$Node")), (.object "java/util/Set"), .int, .int, .int, .float]
  staticTypes := #[.long, .int, .int, .float, .int, .int, .int]
  resolved := Array.replicate 629 none
  statics := none }

def pool16 : Array CpInfo := pool [(1, .class_ 2), (0, u "java/lang/Math"), (1, .class_ 6), (1, u "java/lang/Object"), (0, u "<init>"), (0, u "()V"), (89, .class_ 100), (1, u "java/lang/Math$RandomNumberGeneratorHolder"), (71, u "negativeZeroFloatBits"), (0, u "J"), (2, u "negativeZeroDoubleBits"), (21, u "max"), (46, u "$assertionsDisabled"), (0, u "Z"), (88, u "(II)I"), (2, u "twoToTheDoubleScaleDown"), (0, u "D"), (4, u "twoToTheDoubleScaleUp"), (9, u "E"), (3, u "PI"), (2, u "TAU"), (2, u "DEGREES_TO_RADIANS"), (0, u "RADIANS_TO_DEGREES")] 94

def k16m0 : Method := { name := "<init>", desc := "()V", sig := { parameters := [], returnType := none }, accessFlags := 2, code := none }
def k16c1 : Code := { maxStack := 2, maxLocals := 2, code := jdk_29_method_65_code, exceptionTable := #[], attributes := #[] }
def k16m1 : Method := { name := "max", desc := "(II)I", sig := { parameters := [.int, .int], returnType := some .int }, accessFlags := 9, code := some k16c1 }
/-- java/lang/Math -/
def k16 : Class := { plain "java/lang/Math" (some 0) with
  accessFlags := 49
  interfaces := #[]
  cf := some (fileOf pool16 1 #[.nestMembers #[98]] #[{ accessFlags := 2, nameIndex := 7, descriptorIndex := 8, attributes := #[] }, { accessFlags := 9, nameIndex := 198, descriptorIndex := 335, attributes := #[] }] 49 4 #[] #[{ accessFlags := 25, nameIndex := 354, descriptorIndex := 339, attributes := #[] }, { accessFlags := 25, nameIndex := 358, descriptorIndex := 339, attributes := #[] }, { accessFlags := 25, nameIndex := 361, descriptorIndex := 339, attributes := #[] }, { accessFlags := 26, nameIndex := 364, descriptorIndex := 339, attributes := #[] }, { accessFlags := 26, nameIndex := 365, descriptorIndex := 339, attributes := #[] }, { accessFlags := 26, nameIndex := 172, descriptorIndex := 173, attributes := #[] }, { accessFlags := 26, nameIndex := 176, descriptorIndex := 173, attributes := #[] }, { accessFlags := 8, nameIndex := 344, descriptorIndex := 339, attributes := #[] }, { accessFlags := 8, nameIndex := 338, descriptorIndex := 339, attributes := #[] }, { accessFlags := 4120, nameIndex := 245, descriptorIndex := 246, attributes := #[] }])
  fields := #[{ name := "E", type := .double, accessFlags := 25, slot := 0, constantValue := 0 }, { name := "PI", type := .double, accessFlags := 25, slot := 1, constantValue := 0 }, { name := "TAU", type := .double, accessFlags := 25, slot := 2, constantValue := 0 }, { name := "DEGREES_TO_RADIANS", type := .double, accessFlags := 26, slot := 3, constantValue := 0 }, { name := "RADIANS_TO_DEGREES", type := .double, accessFlags := 26, slot := 4, constantValue := 0 }, { name := "negativeZeroFloatBits", type := .long, accessFlags := 26, slot := 5, constantValue := 0 }, { name := "negativeZeroDoubleBits", type := .long, accessFlags := 26, slot := 6, constantValue := 0 }, { name := "twoToTheDoubleScaleUp", type := .double, accessFlags := 8, slot := 7, constantValue := 0 }, { name := "twoToTheDoubleScaleDown", type := .double, accessFlags := 8, slot := 8, constantValue := 0 }, { name := "$assertionsDisabled", type := .boolean, accessFlags := 4120, slot := 9, constantValue := 0 }]
  methods := #[k16m0, k16m1]
  instanceTypes := #[]
  staticTypes := #[.double, .double, .double, .double, .double, .long, .long, .double, .double, .boolean]
  resolved := Array.replicate 460 none
  statics := none }

/-- the primitive byte -/
def k17 : Class := { plain "byte" none with kind := .primitive 'B', accessFlags := 0x411 }
/-- [B -/
def k18 : Class := { plain "[B" (some 0) with kind := .array 17 .byte, interfaces := #[10, 11], accessFlags := 1041 }

/-- the primitive int -/
def k19 : Class := { plain "int" none with kind := .primitive 'I', accessFlags := 0x411 }
/-- [I -/
def k20 : Class := { plain "[I" (some 0) with kind := .array 19 .int, interfaces := #[10, 11], accessFlags := 1041 }

/-- [Ljava/lang/Object; -/
def k21 : Class := { plain "[Ljava/lang/Object;" (some 0) with kind := .array 0 (.object "java/lang/Object"), interfaces := #[10, 11], accessFlags := 1041 }

def heap : Heap := #[{ cls := 12, slots := #[.long 0, .int 0, .ref 1, .ref 2], vm := .statics 12 },
  { cls := 21, slots := #[], vm := .none },
  { cls := 21, slots := #[], vm := .none }]
def classes : Array Class := #[k0, k1, k2, k3, k4, k5, k6, k7, k8, k9, k10, k11, k12, k13, k14, k15, k16, k17, k18, k19, k20, k21]
def interned : List (Array UInt16 × Addr) := []
def slotsUsed : Nat := 4
def theMethod : MethodId := ⟨1, 1⟩
def args0 : Array Value := #[.int 1, .int 2, .int 3, .int 4, .int 5, .int 6]
def aboutOver (below : List Frame) : State where
  vm := { classes := classes, interned := interned.toArray }
  heap := heap
  slotsUsed := slotsUsed
  threads := #[{ frames := .invoking theMethod args0 :: below }]
def below0 : List Frame := [.native { method := ⟨0, 0⟩, args := #[] }]
def about1 : State := aboutOver below0
def p0 : Program := .bare "" "" ""
def e0 : Env := launch0.env 0 0 0
theorem w_frames : about1.frames = Frame.invoking theMethod args0 :: below0 := rfl
set_option maxRecDepth 65536 in
theorem w_args : argsFit about1.vm theMethod args0 = true := by decide +kernel
set_option maxRecDepth 65536 in
theorem w_heap : heapFits about1 = true := by decide +kernel
set_option maxRecDepth 65536 in
theorem w_runnable : about1.curStatus? = some .runnable := by decide +kernel
set_option maxRecDepth 65536 in
theorem w_alone : about1.alone = true := by decide +kernel
set_option maxRecDepth 65536 in
theorem w_named : about1.methodNamed? x = some theMethod := by decide +kernel
set_option maxRecDepth 65536 in
theorem w_hears : about1.hears theMethod below0 = true := by decide +kernel
set_option maxRecDepth 65536 in
theorem w_ripe : about1.ripe theMethod args0 below0 = true := by decide +kernel
theorem w_running : about1.status = .running := rfl
set_option maxRecDepth 65536 in
theorem w_room : about1.hasRoom e0.platform room_1 = true :=
  launch0.hasRoom_least _ room_1 (by decide +kernel) (by decide +kernel) (by decide +kernel) (by decide +kernel) (by decide +kernel) (by decide +kernel)
theorem allAtoms_all (ts : List Jvm.Cond) (a : Array Jvm.Value) (st : Jvm.State) : (allAtoms ts).before a st = ts.all (fun c => c.before a st) := by
  induction ts with
  | nil => rfl
  | cons c t ih =>
    show (Jvm.Cond.and c (allAtoms t)).before a st = _
    rw [Jvm.Cond.before_and, ih, List.all_cons]
def words1 : List Jvm.Cond := Jvm.Cond.code x code maxLocals ret :: tables_1
/-- a 'code' word, met by the world's own term for the bytes: nothing is compared byte by byte -/
theorem code_word {y : MethodName} {bytes : ByteArray} {mx : Nat} {rt : Option FieldType} {a : Array Value} {s : State} {m : MethodId} {meth : Method} {c : Code} (h1 : s.methodNamed? y = some m) (h2 : s.vm.method? m = some meth) (h3 : meth.code = some c) (h4 : c.code = bytes)
    (h5 : (c.maxLocals == mx && c.exceptionTable.isEmpty && decide (c.maxStack ≤ mostOperands) && decide (meth.sig.returnType = rt) && !meth.locks && decide (parseMethodDescriptor y.desc = some meth.sig)) = true) : (Jvm.Cond.code y bytes mx rt).before a s = true := by
  simp only [Bool.and_eq_true, beq_iff_eq, Bool.not_eq_true', decide_eq_true_eq] at h5
  obtain ⟨⟨⟨⟨⟨g1, g2⟩, g3⟩, g4⟩, g5⟩, g6⟩ := h5
  simp [Cond.before, Cond.holds, Cond.value, h1, h2, h3, h4, g1, g2, g3, g4, g5, g6]
def isCode : Jvm.Cond → Bool
  | .code _ _ _ _ => true
  | _ => false
theorem all_split {L : List Jvm.Cond} {P : Jvm.Cond → Bool} (h1 : L.all (fun c => isCode c || P c) = true) (h2 : ∀ c ∈ L.filter isCode, P c = true) : L.all P = true := by
  refine List.all_eq_true.mpr fun c hc => ?_
  have h := List.all_eq_true.mp h1 c hc
  rcases Bool.eq_false_or_eq_true (isCode c) with hi | hi
  · exact h2 c (List.mem_filter.mpr ⟨hc, hi⟩)
  · simpa [hi] using h
set_option maxRecDepth 65536 in
theorem w_c0 : (Jvm.Cond.code x code maxLocals ret).before args0 about1 = true := code_word (m := ⟨1, 1⟩) (meth := k1m1) (c := k1c1) (by decide +kernel) rfl rfl rfl (by decide +kernel)
set_option maxRecDepth 65536 in
theorem w_c1 : (Jvm.Cond.code ({ cls := "com/example/hintikka/hintikka/domain/ConstraintNetwork", name := "<init>", desc := "()V" } : Jvm.MethodName) prog_14_method_1_code (1 : Nat) (Option.none : Option Jvm.ClassFile.FieldType)).before args0 about1 = true := code_word (m := ⟨2, 0⟩) (meth := k2m0) (c := k2c0) (by decide +kernel) rfl rfl rfl (by decide +kernel)
set_option maxRecDepth 65536 in
theorem w_c2 : (Jvm.Cond.code ({ cls := "java/lang/Object", name := "<init>", desc := "()V" } : Jvm.MethodName) object_method_1_code (1 : Nat) (Option.none : Option Jvm.ClassFile.FieldType)).before args0 about1 = true := code_word (m := ⟨0, 0⟩) (meth := k0m0) (c := k0c0) (by decide +kernel) rfl rfl rfl (by decide +kernel)
set_option maxRecDepth 65536 in
theorem w_c3 : (Jvm.Cond.code ({ cls := "java/util/ArrayList", name := "<init>", desc := "()V" } : Jvm.MethodName) jdk_38_method_2_code (1 : Nat) (Option.none : Option Jvm.ClassFile.FieldType)).before args0 about1 = true := code_word (m := ⟨12, 0⟩) (meth := k12m0) (c := k12c0) (by decide +kernel) rfl rfl rfl (by decide +kernel)
set_option maxRecDepth 65536 in
theorem w_c4 : (Jvm.Cond.code ({ cls := "java/util/AbstractList", name := "<init>", desc := "()V" } : Jvm.MethodName) jdk_39_method_1_code (1 : Nat) (Option.none : Option Jvm.ClassFile.FieldType)).before args0 about1 = true := code_word (m := ⟨8, 0⟩) (meth := k8m0) (c := k8c0) (by decide +kernel) rfl rfl rfl (by decide +kernel)
set_option maxRecDepth 65536 in
theorem w_c5 : (Jvm.Cond.code ({ cls := "java/util/AbstractCollection", name := "<init>", desc := "()V" } : Jvm.MethodName) jdk_22_method_1_code (1 : Nat) (Option.none : Option Jvm.ClassFile.FieldType)).before args0 about1 = true := code_word (m := ⟨5, 0⟩) (meth := k5m0) (c := k5c0) (by decide +kernel) rfl rfl rfl (by decide +kernel)
set_option maxRecDepth 65536 in
theorem w_c6 : (Jvm.Cond.code ({ cls := "java/util/HashMap", name := "<init>", desc := "()V" } : Jvm.MethodName) jdk_69_method_7_code (1 : Nat) (Option.none : Option Jvm.ClassFile.FieldType)).before args0 about1 = true := code_word (m := ⟨15, 0⟩) (meth := k15m0) (c := k15c0) (by decide +kernel) rfl rfl rfl (by decide +kernel)
set_option maxRecDepth 65536 in
theorem w_c7 : (Jvm.Cond.code ({ cls := "java/util/AbstractMap", name := "<init>", desc := "()V" } : Jvm.MethodName) jdk_71_method_1_code (1 : Nat) (Option.none : Option Jvm.ClassFile.FieldType)).before args0 about1 = true := code_word (m := ⟨14, 0⟩) (meth := k14m0) (c := k14c0) (by decide +kernel) rfl rfl rfl (by decide +kernel)
set_option maxRecDepth 65536 in
theorem w_c8 : (Jvm.Cond.code ({ cls := "com/example/hintikka/hintikka/domain/ConstraintNetwork", name := "addVariable", desc := "()I" } : Jvm.MethodName) prog_14_method_2_code (1 : Nat) (Option.some Jvm.ClassFile.FieldType.int)).before args0 about1 = true := code_word (m := ⟨2, 1⟩) (meth := k2m1) (c := k2c1) (by decide +kernel) rfl rfl rfl (by decide +kernel)
set_option maxRecDepth 65536 in
theorem w_c9 : (Jvm.Cond.code ({ cls := "java/util/ArrayList", name := "add", desc := "(Ljava/lang/Object;)Z" } : Jvm.MethodName) jdk_38_method_25_code (2 : Nat) (Option.some Jvm.ClassFile.FieldType.boolean)).before args0 about1 = true := code_word (m := ⟨12, 5⟩) (meth := k12m5) (c := k12c5) (by decide +kernel) rfl rfl rfl (by decide +kernel)
set_option maxRecDepth 65536 in
theorem w_c10 : (Jvm.Cond.code ({ cls := "java/util/ArrayList", name := "add", desc := "(Ljava/lang/Object;[Ljava/lang/Object;I)V" } : Jvm.MethodName) jdk_38_method_24_code (4 : Nat) (Option.none : Option Jvm.ClassFile.FieldType)).before args0 about1 = true := code_word (m := ⟨12, 4⟩) (meth := k12m4) (c := k12c4) (by decide +kernel) rfl rfl rfl (by decide +kernel)
set_option maxRecDepth 65536 in
theorem w_c11 : (Jvm.Cond.code ({ cls := "java/util/ArrayList", name := "grow", desc := "()[Ljava/lang/Object;" } : Jvm.MethodName) jdk_38_method_7_code (1 : Nat) (Option.some (Jvm.ClassFile.FieldType.array (Jvm.ClassFile.FieldType.object "java/lang/Object")))).before args0 about1 = true := code_word (m := ⟨12, 2⟩) (meth := k12m2) (c := k12c2) (by decide +kernel) rfl rfl rfl (by decide +kernel)
set_option maxRecDepth 65536 in
theorem w_c12 : (Jvm.Cond.code ({ cls := "java/util/ArrayList", name := "grow", desc := "(I)[Ljava/lang/Object;" } : Jvm.MethodName) jdk_38_method_6_code (4 : Nat) (Option.some (Jvm.ClassFile.FieldType.array (Jvm.ClassFile.FieldType.object "java/lang/Object")))).before args0 about1 = true := code_word (m := ⟨12, 1⟩) (meth := k12m1) (c := k12c1) (by decide +kernel) rfl rfl rfl (by decide +kernel)
set_option maxRecDepth 65536 in
theorem w_c13 : (Jvm.Cond.code ({ cls := "java/lang/Math", name := "max", desc := "(II)I" } : Jvm.MethodName) jdk_29_method_65_code (2 : Nat) (Option.some Jvm.ClassFile.FieldType.int)).before args0 about1 = true := code_word (m := ⟨16, 1⟩) (meth := k16m1) (c := k16c1) (by decide +kernel) rfl rfl rfl (by decide +kernel)
set_option maxRecDepth 65536 in
theorem w_c14 : (Jvm.Cond.code ({ cls := "java/util/ArrayList", name := "size", desc := "()I" } : Jvm.MethodName) jdk_38_method_8_code (1 : Nat) (Option.some Jvm.ClassFile.FieldType.int)).before args0 about1 = true := code_word (m := ⟨12, 3⟩) (meth := k12m3) (c := k12c3) (by decide +kernel) rfl rfl rfl (by decide +kernel)
set_option maxRecDepth 65536 in
theorem w_c15 : (Jvm.Cond.code ({ cls := "com/example/hintikka/hintikka/domain/ConstraintNetwork", name := "truncate", desc := "(I)V" } : Jvm.MethodName) prog_14_method_11_code (2 : Nat) (Option.none : Option Jvm.ClassFile.FieldType)).before args0 about1 = true := code_word (m := ⟨2, 8⟩) (meth := k2m8) (c := k2c8) (by decide +kernel) rfl rfl rfl (by decide +kernel)
set_option maxRecDepth 65536 in
theorem w_c16 : (Jvm.Cond.code ({ cls := "com/example/hintikka/hintikka/domain/ConstraintNetwork", name := "size", desc := "()I" } : Jvm.MethodName) prog_14_method_7_code (1 : Nat) (Option.some Jvm.ClassFile.FieldType.int)).before args0 about1 = true := code_word (m := ⟨2, 4⟩) (meth := k2m4) (c := k2c4) (by decide +kernel) rfl rfl rfl (by decide +kernel)
set_option maxRecDepth 65536 in
theorem w_c17 : (Jvm.Cond.code ({ cls := "com/example/hintikka/hintikka/domain/ConstraintNetwork", name := "getVariableCount", desc := "()I" } : Jvm.MethodName) prog_14_method_4_code (1 : Nat) (Option.some Jvm.ClassFile.FieldType.int)).before args0 about1 = true := code_word (m := ⟨2, 2⟩) (meth := k2m2) (c := k2c2) (by decide +kernel) rfl rfl rfl (by decide +kernel)
set_option maxRecDepth 65536 in
theorem w_c18 : (Jvm.Cond.code ({ cls := "com/example/hintikka/hintikka/domain/ConstraintNetwork", name := "add", desc := "(III)V" } : Jvm.MethodName) prog_14_method_6_code (4 : Nat) (Option.none : Option Jvm.ClassFile.FieldType)).before args0 about1 = true := code_word (m := ⟨2, 3⟩) (meth := k2m3) (c := k2c3) (by decide +kernel) rfl rfl rfl (by decide +kernel)
set_option maxRecDepth 65536 in
theorem w_c19 : (Jvm.Cond.code ({ cls := "com/example/hintikka/hintikka/domain/ConstraintNetwork", name := "checkVariable", desc := "(I)I" } : Jvm.MethodName) prog_14_method_16_code (2 : Nat) (Option.some Jvm.ClassFile.FieldType.int)).before args0 about1 = true := code_word (m := ⟨2, 9⟩) (meth := k2m9) (c := k2c9) (by decide +kernel) rfl rfl rfl (by decide +kernel)
set_option maxRecDepth 65536 in
theorem w_c20 : (Jvm.Cond.code ({ cls := "com/example/hintikka/hintikka/domain/ConstraintNetwork", name := "getRelations", desc := "(I)I" } : Jvm.MethodName) prog_14_method_9_code (2 : Nat) (Option.some Jvm.ClassFile.FieldType.int)).before args0 about1 = true := code_word (m := ⟨2, 6⟩) (meth := k2m6) (c := k2c6) (by decide +kernel) rfl rfl rfl (by decide +kernel)
set_option maxRecDepth 65536 in
theorem w_c21 : (Jvm.Cond.code ({ cls := "com/example/hintikka/hintikka/domain/ConstraintNetwork", name := "check", desc := "(I)I" } : Jvm.MethodName) prog_14_method_17_code (2 : Nat) (Option.some Jvm.ClassFile.FieldType.int)).before args0 about1 = true := code_word (m := ⟨2, 10⟩) (meth := k2m10) (c := k2c10) (by decide +kernel) rfl rfl rfl (by decide +kernel)
set_option maxRecDepth 65536 in
theorem w_c22 : (Jvm.Cond.code ({ cls := "com/example/hintikka/hintikka/domain/ConstraintNetwork", name := "getLeft", desc := "(I)I" } : Jvm.MethodName) prog_14_method_8_code (2 : Nat) (Option.some Jvm.ClassFile.FieldType.int)).before args0 about1 = true := code_word (m := ⟨2, 5⟩) (meth := k2m5) (c := k2c5) (by decide +kernel) rfl rfl rfl (by decide +kernel)
set_option maxRecDepth 65536 in
theorem w_c23 : (Jvm.Cond.code ({ cls := "com/example/hintikka/hintikka/domain/ConstraintNetwork", name := "getRight", desc := "(I)I" } : Jvm.MethodName) prog_14_method_10_code (2 : Nat) (Option.some Jvm.ClassFile.FieldType.int)).before args0 about1 = true := code_word (m := ⟨2, 7⟩) (meth := k2m7) (c := k2c7) (by decide +kernel) rfl rfl rfl (by decide +kernel)
def codes1 : List Jvm.Cond := [Jvm.Cond.code x code maxLocals ret, Jvm.Cond.code ({ cls := "com/example/hintikka/hintikka/domain/ConstraintNetwork", name := "<init>", desc := "()V" } : Jvm.MethodName) prog_14_method_1_code (1 : Nat) (Option.none : Option Jvm.ClassFile.FieldType), Jvm.Cond.code ({ cls := "java/lang/Object", name := "<init>", desc := "()V" } : Jvm.MethodName) object_method_1_code (1 : Nat) (Option.none : Option Jvm.ClassFile.FieldType), Jvm.Cond.code ({ cls := "java/util/ArrayList", name := "<init>", desc := "()V" } : Jvm.MethodName) jdk_38_method_2_code (1 : Nat) (Option.none : Option Jvm.ClassFile.FieldType), Jvm.Cond.code ({ cls := "java/util/AbstractList", name := "<init>", desc := "()V" } : Jvm.MethodName) jdk_39_method_1_code (1 : Nat) (Option.none : Option Jvm.ClassFile.FieldType), Jvm.Cond.code ({ cls := "java/util/AbstractCollection", name := "<init>", desc := "()V" } : Jvm.MethodName) jdk_22_method_1_code (1 : Nat) (Option.none : Option Jvm.ClassFile.FieldType), Jvm.Cond.code ({ cls := "java/util/HashMap", name := "<init>", desc := "()V" } : Jvm.MethodName) jdk_69_method_7_code (1 : Nat) (Option.none : Option Jvm.ClassFile.FieldType), Jvm.Cond.code ({ cls := "java/util/AbstractMap", name := "<init>", desc := "()V" } : Jvm.MethodName) jdk_71_method_1_code (1 : Nat) (Option.none : Option Jvm.ClassFile.FieldType), Jvm.Cond.code ({ cls := "com/example/hintikka/hintikka/domain/ConstraintNetwork", name := "addVariable", desc := "()I" } : Jvm.MethodName) prog_14_method_2_code (1 : Nat) (Option.some Jvm.ClassFile.FieldType.int), Jvm.Cond.code ({ cls := "java/util/ArrayList", name := "add", desc := "(Ljava/lang/Object;)Z" } : Jvm.MethodName) jdk_38_method_25_code (2 : Nat) (Option.some Jvm.ClassFile.FieldType.boolean), Jvm.Cond.code ({ cls := "java/util/ArrayList", name := "add", desc := "(Ljava/lang/Object;[Ljava/lang/Object;I)V" } : Jvm.MethodName) jdk_38_method_24_code (4 : Nat) (Option.none : Option Jvm.ClassFile.FieldType), Jvm.Cond.code ({ cls := "java/util/ArrayList", name := "grow", desc := "()[Ljava/lang/Object;" } : Jvm.MethodName) jdk_38_method_7_code (1 : Nat) (Option.some (Jvm.ClassFile.FieldType.array (Jvm.ClassFile.FieldType.object "java/lang/Object"))), Jvm.Cond.code ({ cls := "java/util/ArrayList", name := "grow", desc := "(I)[Ljava/lang/Object;" } : Jvm.MethodName) jdk_38_method_6_code (4 : Nat) (Option.some (Jvm.ClassFile.FieldType.array (Jvm.ClassFile.FieldType.object "java/lang/Object"))), Jvm.Cond.code ({ cls := "java/lang/Math", name := "max", desc := "(II)I" } : Jvm.MethodName) jdk_29_method_65_code (2 : Nat) (Option.some Jvm.ClassFile.FieldType.int), Jvm.Cond.code ({ cls := "java/util/ArrayList", name := "size", desc := "()I" } : Jvm.MethodName) jdk_38_method_8_code (1 : Nat) (Option.some Jvm.ClassFile.FieldType.int), Jvm.Cond.code ({ cls := "com/example/hintikka/hintikka/domain/ConstraintNetwork", name := "truncate", desc := "(I)V" } : Jvm.MethodName) prog_14_method_11_code (2 : Nat) (Option.none : Option Jvm.ClassFile.FieldType), Jvm.Cond.code ({ cls := "com/example/hintikka/hintikka/domain/ConstraintNetwork", name := "size", desc := "()I" } : Jvm.MethodName) prog_14_method_7_code (1 : Nat) (Option.some Jvm.ClassFile.FieldType.int), Jvm.Cond.code ({ cls := "com/example/hintikka/hintikka/domain/ConstraintNetwork", name := "getVariableCount", desc := "()I" } : Jvm.MethodName) prog_14_method_4_code (1 : Nat) (Option.some Jvm.ClassFile.FieldType.int), Jvm.Cond.code ({ cls := "com/example/hintikka/hintikka/domain/ConstraintNetwork", name := "add", desc := "(III)V" } : Jvm.MethodName) prog_14_method_6_code (4 : Nat) (Option.none : Option Jvm.ClassFile.FieldType), Jvm.Cond.code ({ cls := "com/example/hintikka/hintikka/domain/ConstraintNetwork", name := "checkVariable", desc := "(I)I" } : Jvm.MethodName) prog_14_method_16_code (2 : Nat) (Option.some Jvm.ClassFile.FieldType.int), Jvm.Cond.code ({ cls := "com/example/hintikka/hintikka/domain/ConstraintNetwork", name := "getRelations", desc := "(I)I" } : Jvm.MethodName) prog_14_method_9_code (2 : Nat) (Option.some Jvm.ClassFile.FieldType.int), Jvm.Cond.code ({ cls := "com/example/hintikka/hintikka/domain/ConstraintNetwork", name := "check", desc := "(I)I" } : Jvm.MethodName) prog_14_method_17_code (2 : Nat) (Option.some Jvm.ClassFile.FieldType.int), Jvm.Cond.code ({ cls := "com/example/hintikka/hintikka/domain/ConstraintNetwork", name := "getLeft", desc := "(I)I" } : Jvm.MethodName) prog_14_method_8_code (2 : Nat) (Option.some Jvm.ClassFile.FieldType.int), Jvm.Cond.code ({ cls := "com/example/hintikka/hintikka/domain/ConstraintNetwork", name := "getRight", desc := "(I)I" } : Jvm.MethodName) prog_14_method_10_code (2 : Nat) (Option.some Jvm.ClassFile.FieldType.int)]
set_option maxRecDepth 65536 in
theorem codes_eq : words1.filter isCode = codes1 := rfl
theorem w_codes : ∀ c ∈ words1.filter isCode, c.before args0 about1 = true := by
  rw [codes_eq]
  intro c hc
  simp only [codes1, List.mem_cons, List.not_mem_nil, or_false] at hc
  rcases hc with rfl | rfl | rfl | rfl | rfl | rfl | rfl | rfl | rfl | rfl | rfl | rfl | rfl | rfl | rfl | rfl | rfl | rfl | rfl | rfl | rfl | rfl | rfl | rfl
  · exact w_c0
  · exact w_c1
  · exact w_c2
  · exact w_c3
  · exact w_c4
  · exact w_c5
  · exact w_c6
  · exact w_c7
  · exact w_c8
  · exact w_c9
  · exact w_c10
  · exact w_c11
  · exact w_c12
  · exact w_c13
  · exact w_c14
  · exact w_c15
  · exact w_c16
  · exact w_c17
  · exact w_c18
  · exact w_c19
  · exact w_c20
  · exact w_c21
  · exact w_c22
  · exact w_c23
set_option maxRecDepth 65536 in
theorem w_t1 : (words1.take 24).all (fun c => isCode c || c.before args0 about1) = true := by decide +kernel
set_option maxRecDepth 65536 in
theorem w_t2 : ((words1.drop 24).take 24).all (fun c => isCode c || c.before args0 about1) = true := by decide +kernel
set_option maxRecDepth 65536 in
theorem w_t3 : (((words1.drop 24).drop 24).take 24).all (fun c => isCode c || c.before args0 about1) = true := by decide +kernel
set_option maxRecDepth 65536 in
theorem w_t4 : ((((words1.drop 24).drop 24).drop 24).take 24).all (fun c => isCode c || c.before args0 about1) = true := by decide +kernel
set_option maxRecDepth 65536 in
theorem w_t5 : (((((words1.drop 24).drop 24).drop 24).drop 24).take 24).all (fun c => isCode c || c.before args0 about1) = true := by decide +kernel
set_option maxRecDepth 65536 in
theorem w_t6 : ((((((words1.drop 24).drop 24).drop 24).drop 24).drop 24).take 24).all (fun c => isCode c || c.before args0 about1) = true := by decide +kernel
set_option maxRecDepth 65536 in
theorem w_t7 : ((((((words1.drop 24).drop 24).drop 24).drop 24).drop 24).drop 24).all (fun c => isCode c || c.before args0 about1) = true := by decide +kernel
theorem w_tables : (allAtoms (Jvm.Cond.code x code maxLocals ret :: tables_1)).before args0 about1 = true := by
  rw [allAtoms_all]
  show words1.all (fun c => c.before args0 about1) = true
  refine all_split ?_ w_codes
  rw [← List.take_append_drop 24 words1, List.all_append, w_t1, ← List.take_append_drop 24 (words1.drop 24), List.all_append, w_t2, ← List.take_append_drop 24 ((words1.drop 24).drop 24), List.all_append, w_t3, ← List.take_append_drop 24 (((words1.drop 24).drop 24).drop 24), List.all_append, w_t4, ← List.take_append_drop 24 ((((words1.drop 24).drop 24).drop 24).drop 24), List.all_append, w_t5, ← List.take_append_drop 24 (((((words1.drop 24).drop 24).drop 24).drop 24).drop 24), List.all_append, w_t6, w_t7]
  rfl
set_option maxRecDepth 65536 in
theorem w_rest : rest_1_c.before args0 about1 = true := by decide +kernel
set_option maxRecDepth 65536 in
theorem w_case : (Jvm.Cond.and given_1 narrow_1).before args0 about1 = true := by decide +kernel
theorem w_applies : (headSpec (Jvm.Cond.code x code maxLocals ret :: tables_1) room_1).applies x e0.platform about1 = true :=
  (Spec.applies_iff w_frames).mpr ⟨w_running, w_runnable, w_alone, w_named, w_hears, w_ripe, w_room, w_tables⟩
theorem atStart : AtStart classFile x code maxLocals ret World_1 tables_1 room_1 Calls_1 rest_1 Pre_1 launch0 p0 e0 about1 theMethod args0 below0 :=
  ⟨lists_1, trivial, launch0.admits_env _ _ _, launch0.least_env, fairChoices_fair.cas, fairChoices_fair.clock, w_frames, w_args, w_heap, w_applies, trivial, w_rest, w_case⟩
end start1
theorem witness_1 : WitnessClaimed_1 := ⟨start1.p0, start1.e0, start1.about1, start1.theMethod, start1.args0, start1.below0, start1.atStart⟩
end Jvm.Pilot.@@N@@
