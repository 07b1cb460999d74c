import JvmDerived
import JvmDerived.Pilot.@@N@@Statement
import JvmDerived.Pilot.@@N@@Code
set_option linter.unusedVariables false
set_option linter.unusedSimpArgs false
namespace Jvm.Pilot.@@N@@
open Jvm Jvm.ClassFile Sem Op Lib Jvm.Free Jvm.Stand Jvm.LawKit Jvm.RoadKit Bundle Jvm.Pilot.@@N@@.Jvm.D
def own_Go (tb : Tables) (e : Env) (below : List Frame) (G : State → Outcome → Prop) (s : State) : Prop := ∃ s₂ o, Steps tb e below s s₂ ∧ s₂.status = .running ∧ Ended s₂ below o ∧ G s₂ o
theorem own_up {tb : Tables} {e : Env} {below : List Frame} {G : State → Outcome → Prop} {s s' : State} (f : ∀ t, Steps tb e below s' t → Steps tb e below s t) (h : own_Go tb e below G s') : own_Go tb e below G s := by
  obtain ⟨s₂, o, h1, h2⟩ := h
  exact ⟨s₂, o, f _ h1, h2⟩
theorem own_selp {s : State} {args : Array Value} {y : MethodName} {n : Nat} (hi : (Cond.instantiable y.cls n).before args s = true) (hp : s.PrivateAt y) (hinst : (Cond.instanceMethod y).before args s = true) (hy : y.cls ≠ "java/lang/invoke/MethodHandle" ∧ y.cls ≠ "java/lang/invoke/VarHandle") : (Cond.selects y.cls y y).before args s = true := by
  obtain ⟨c, k, h1, h2, -, h4, -, -⟩ := Cond.instantiable_spec hi
  rw [Bool.or_eq_false_iff] at h4
  exact selects_self_of_private h1 h2 h4.1 hp hinst hy
theorem own_end {p : Program} {l : Launch} {e : Env} {R : Room} {s : State} {m : MethodId} {args : Array Value} {below : List Frame} {meth : Method} {c : Code} {T : State} {locs : List Loc} {cells slots : Nat} (X : Stand p l e R s m args below meth c T locs cells slots) (hlocks : meth.locks = false) {v : Option Value} (hv : meth.sig.returnType = none → v = none) {g : JFrame}
    (step : ∀ fs, (∀ (f : JFrame) (acts : List Action), f.method = m → f.locked = none → f.entered = [] → (doReturn e (T.setTop f) acts v).1 = T.setFrames fs) → Steps p.tables e below (T.setTop g) (T.setFrames fs)) {h : Heap} (eT : T.heap = h) {Q : Option Value → Heap → List Loc → Prop} {kc ks : Nat} (hQ : Q v h locs) (hc : cells ≤ kc) (hs : slots ≤ ks) :
    own_Go p.tables e below (fun u o => ∃ v L, o = .returned v ∧ Q v u.heap L ∧ FrameEnd s o u L kc ks) (T.setTop g) := by
  obtain ⟨fs, hr, hrun, hended, hW, hsame⟩ := X.leave (v := v) hv hlocks
  subst eT
  exact ⟨_, _, step fs hr, hrun, hended, _, _, rfl, hQ, ⟨_, rfl⟩, hW, hsame.mono hc hs⟩
theorem own_fld {s : State} {args : Array Value} {t : Term} {a : Addr} {C n d : String} {z : Int32} (ev : t.eval args s none [] s = some (.ref a)) (h : (Cond.eq (.field t C n d) (.int z)).value args s none s [] = some true) : Fld s s.heap a C n d (.int z) := by
  refine Fld.start ?_
  rw [← fld_at (C := C) (n := n) (dd := d) ev]
  simp only [Cond.value] at h
  cases hv : (Term.field t C n d).eval args s none [] s with
  | none => simp [hv] at h
  | some v =>
    rw [hv, Term.int_eval] at h
    cases v <;> simp at h
    rw [h]
theorem d_prog_3_m_4_0 : decode prog_3_method_4_code 0 = .ok (.aload_n 0, 1) := by decide +kernel
theorem d_prog_3_m_4_1 : decode prog_3_method_4_code 1 = .ok (.getstatic 19, 3) := by decide +kernel
theorem d_prog_3_m_4_4 : decode prog_3_method_4_code 4 = .ok (.if_acmp .eq 10, 3) := by decide +kernel
theorem d_prog_3_m_4_14 : decode prog_3_method_4_code 14 = .ok (.iconst 1, 1) := by decide +kernel
theorem d_prog_3_m_4_15 : decode prog_3_method_4_code 15 = .ok (.goto 4, 3) := by decide +kernel
theorem d_prog_3_m_4_19 : decode prog_3_method_4_code 19 = .ok (.ireturn, 1) := by decide +kernel
theorem d_prog_3_m_4_7 : decode prog_3_method_4_code 7 = .ok (.aload_n 0, 1) := by decide +kernel
theorem d_prog_3_m_4_8 : decode prog_3_method_4_code 8 = .ok (.getstatic 22, 3) := by decide +kernel
theorem d_prog_3_m_4_11 : decode prog_3_method_4_code 11 = .ok (.if_acmp .ne 7, 3) := by decide +kernel
theorem d_prog_3_m_4_18 : decode prog_3_method_4_code 18 = .ok (.iconst 0, 1) := by decide +kernel
theorem own_pn0 : plainName "com/example/rondel/rondel/Change" = true := by first | (simp [plainName, overriddenIn]; done) | decide +kernel
theorem ef_rm1 (m : MethodId) (y0 : Addr) : entryFrame m #[(.ref y0)] 1 = mkF m 0 #[.val (.ref y0)] [] := by first | (simp [entryFrame, mkF, argsToLocals, Value.category]; done) | rfl
def Q_rm1 (Z : State) (a : Addr) (r : Addr) (t : Addr) (h0 : Heap) (n0 : Nat) (v : Option Value) (h : Heap) (L : List Loc) : Prop := v = some (.int (if a = r ∨ a = t then (1 : Int32) else 0)) ∧ Fr n0 L ∧ h = h0
set_option maxRecDepth 65536 in
set_option maxHeartbeats 40000000 in
theorem rm1 (l : Launch) (Z : State) (a0 : Array Value) (hw : ∀ d ∈ tables_1, d.before a0 Z = true) (ws : List Jvm.Cond) (a : Addr) (r : Addr) (t : Addr) (h0 : Heap) (n0 : Nat) (Z0 : n0 ≤ h0.size) (O : Old Z n0 h0) (S1 : Sta Z Z.heap "com/example/rondel/rondel/Change" "REFUSED" "Lcom/example/rondel/rondel/Change;" (.ref r)) (S2 : Sta Z Z.heap "com/example/rondel/rondel/Change" "TOO_LARGE" "Lcom/example/rondel/rondel/Change;" (.ref t)) :
    MetFree l (⟨"com/example/rondel/rondel/Change", "isRefused", "()Z"⟩ : MethodName) (head1 (Jvm.Cond.code (⟨"com/example/rondel/rondel/Change", "isRefused", "()Z"⟩ : MethodName) prog_3_method_4_code 1 (some .boolean) :: ws) ({ frames := 0, cells := 0, slots := 0, locals := 0 } : Room)) (fun ar U => ar = #[(.ref a)] ∧ Z.Warmed39 U.vm ∧ U.heap = h0) (fun _ _ _ _ _ => True) (fun _ U o U' => ∃ v L, o = .returned v ∧ Q_rm1 Z a r t h0 n0 v U'.heap L ∧ FrameEnd U o U' L ({ frames := 0, cells := 0, slots := 0, locals := 0 } : Room).cells ({ frames := 0, cells := 0, slots := 0, locals := 0 } : Room).slots) := by
  refine MetFree.of_bodySF (plainFor_of_name own_pn0) hisR ?_
  intro p e s m args below meth c s₁ Bd hml0 hP hK
  obtain ⟨rfl, hZ, hh⟩ := hP
  have hx := Bd.exec
  have hby := Bd.bytes
  have hlk : meth.locks = false := BodyLoose.notSynchronized Bd
  have hml : c.maxLocals = 1 := hml0
  have hown : s.vm.findClass "com/example/rondel/rondel/Change" = some m.cls := findClass_of_methodNamed Bd.named
  have hnm := (name_of_methodNamed Bd.named Bd.method).1
  have X0 : Stand p l e ({ frames := 0, cells := 0, slots := 0, locals := 0 } : Room) s m #[(.ref a)] below meth c s₁ [] 0 0 := Stand.of_body Bd
  have e0 : s₁.heap = h0 := by rw [← hh, Bd.state]; rfl
  have N0 := Fr.nil n0
  show own_Go p.tables e below (fun u o => ∃ v L, o = .returned v ∧ Q_rm1 Z a r t h0 n0 v u.heap L ∧ FrameEnd s o u L ({ frames := 0, cells := 0, slots := 0, locals := 0 } : Room).cells ({ frames := 0, cells := 0, slots := 0, locals := 0 } : Room).slots) (s₁.setTop (entryFrame m #[(.ref a)] 1))
  refine own_up (fun _ k => castTop (ef_rm1 m a) k) ?_
  show own_Go p.tables e below _ (s₁.setTop (mkF m 0 #[.val (.ref a)] []))
  refine own_up (fun _ k => XS.aloadN X0.here hx rfl (hb hby d_prog_3_m_4_0) rfl rfl k) ?_
  show own_Go p.tables e below _ (s₁.setTop (mkF m 1 #[.val (.ref a)] [(.ref a)]))
  obtain ⟨T1, X1, e1, st1⟩ := getS2 X0 hx hZ hown (host := "") (Or.inl (hw _ (List.mem_of_getElem? (i := 8) rfl))) Via.refl e0 (S1.ext O.2) (g := (mkF m 1 #[.val (.ref a)] [(.ref a)])) rfl (hb hby d_prog_3_m_4_1)
  refine own_up st1 ?_
  show own_Go p.tables e below _ (T1.setTop (mkF m 4 #[.val (.ref a)] [(.ref r), (.ref a)]))
  by_cases h1 : a = r
  ·
    refine own_up (fun _ k => Jvm.RoadKit.acmp (g := (mkF m 4 #[.val (.ref a)] [(.ref r), (.ref a)])) X1 hx rfl rfl rfl (pc0 := 4) (pc' := 14) (same := true) rfl (hb hby d_prog_3_m_4_4) rfl (decide_eq_true (congrArg Value.ref h1)) (by decide) (by decide) k) ?_
    show own_Go p.tables e below _ (T1.setTop (mkF m 14 #[.val (.ref a)] []))
    refine own_up (fun _ k => XS.iconst X1.here hx rfl (hb hby d_prog_3_m_4_14) k) ?_
    show own_Go p.tables e below _ (T1.setTop (mkF m 15 #[.val (.ref a)] [(.int (1 : Int32))]))
    refine own_up (fun _ k => XS.goto X1.here hx rfl (pc0 := 15) (pc' := 19) rfl (hb hby d_prog_3_m_4_15) (by decide) (by decide) k) ?_
    show own_Go p.tables e below _ (T1.setTop (mkF m 19 #[.val (.ref a)] [(.int (1 : Int32))]))
    exact own_end X1 hlk (v := some (.int (1 : Int32))) (fun h => by rw [Bd.returns] at h; cases h) (fun fs hr => retN X1 hx (z := (1 : Int32)) (t := .boolean) Bd.returns (by simp) (hb hby d_prog_3_m_4_19) hr) e1 ⟨by rw [if_pos (Or.inl h1)], N0, rfl⟩ (by decide) (by decide)
  ·
    refine own_up (fun _ k => Jvm.RoadKit.acmp (g := (mkF m 4 #[.val (.ref a)] [(.ref r), (.ref a)])) X1 hx rfl rfl rfl (pc0 := 4) (pc' := 7) (same := false) rfl (hb hby d_prog_3_m_4_4) rfl (decide_eq_false fun q => h1 (Value.ref.inj q)) (by decide) (by decide) k) ?_
    show own_Go p.tables e below _ (T1.setTop (mkF m 7 #[.val (.ref a)] []))
    refine own_up (fun _ k => XS.aloadN X1.here hx rfl (hb hby d_prog_3_m_4_7) rfl rfl k) ?_
    show own_Go p.tables e below _ (T1.setTop (mkF m 8 #[.val (.ref a)] [(.ref a)]))
    obtain ⟨T2, X2, e2, st2⟩ := getS2 X1 hx hZ hown (host := "") (Or.inl (hw _ (List.mem_of_getElem? (i := 10) rfl))) Via.refl e1 (S2.ext O.2) (g := (mkF m 8 #[.val (.ref a)] [(.ref a)])) rfl (hb hby d_prog_3_m_4_8)
    refine own_up st2 ?_
    show own_Go p.tables e below _ (T2.setTop (mkF m 11 #[.val (.ref a)] [(.ref t), (.ref a)]))
    by_cases h2 : a = t
    ·
      refine own_up (fun _ k => Jvm.RoadKit.acmp (g := (mkF m 11 #[.val (.ref a)] [(.ref t), (.ref a)])) X2 hx rfl rfl rfl (pc0 := 11) (pc' := 14) (same := true) rfl (hb hby d_prog_3_m_4_11) rfl (decide_eq_true (congrArg Value.ref h2)) (by decide) (by decide) k) ?_
      show own_Go p.tables e below _ (T2.setTop (mkF m 14 #[.val (.ref a)] []))
      refine own_up (fun _ k => XS.iconst X2.here hx rfl (hb hby d_prog_3_m_4_14) k) ?_
      show own_Go p.tables e below _ (T2.setTop (mkF m 15 #[.val (.ref a)] [(.int (1 : Int32))]))
      refine own_up (fun _ k => XS.goto X2.here hx rfl (pc0 := 15) (pc' := 19) rfl (hb hby d_prog_3_m_4_15) (by decide) (by decide) k) ?_
      show own_Go p.tables e below _ (T2.setTop (mkF m 19 #[.val (.ref a)] [(.int (1 : Int32))]))
      exact own_end X2 hlk (v := some (.int (1 : Int32))) (fun h => by rw [Bd.returns] at h; cases h) (fun fs hr => retN X2 hx (z := (1 : Int32)) (t := .boolean) Bd.returns (by simp) (hb hby d_prog_3_m_4_19) hr) e2 ⟨by rw [if_pos (Or.inr h2)], N0, rfl⟩ (by decide) (by decide)
    ·
      refine own_up (fun _ k => Jvm.RoadKit.acmp (g := (mkF m 11 #[.val (.ref a)] [(.ref t), (.ref a)])) X2 hx rfl rfl rfl (pc0 := 11) (pc' := 18) (same := false) rfl (hb hby d_prog_3_m_4_11) rfl (decide_eq_false fun q => h2 (Value.ref.inj q)) (by decide) (by decide) k) ?_
      show own_Go p.tables e below _ (T2.setTop (mkF m 18 #[.val (.ref a)] []))
      refine own_up (fun _ k => XS.iconst X2.here hx rfl (hb hby d_prog_3_m_4_18) k) ?_
      show own_Go p.tables e below _ (T2.setTop (mkF m 19 #[.val (.ref a)] [(.int (0 : Int32))]))
      exact own_end X2 hlk (v := some (.int (0 : Int32))) (fun h => by rw [Bd.returns] at h; cases h) (fun fs hr => retN X2 hx (z := (0 : Int32)) (t := .boolean) Bd.returns (by simp) (hb hby d_prog_3_m_4_19) hr) e2 ⟨by rw [if_neg (not_or.mpr ⟨h1, h2⟩)], N0, rfl⟩ (by decide) (by decide)
theorem own_pd0 : parseMethodDescriptor "()Z" = some ⟨[], some .boolean⟩ := by decide +kernel
theorem own_pn1 : plainName "com/example/rondel/rondel/ChangeIsRefusedPinLaw" = true := by first | (simp [plainName, overriddenIn]; done) | decide +kernel
theorem ef_rm0 (m : MethodId) (y0 : Int32) : entryFrame m #[(.int y0)] maxLocals = mkF m 0 #[.val (.int y0), .unset, .unset, .unset] [] := by first | (simp [entryFrame, mkF, argsToLocals, Value.category, maxLocals]; done) | rfl
def Q_rm0 (Z : State) (p0 : Int32) (v0 : Addr) (v1 : Addr) (v2 : Addr) (v3 : Addr) (v4 : Addr) (v5 : Addr) (v6 : Addr) (v7 : Addr) (h0 : Heap) (n0 : Nat) (v : Option Value) (h : Heap) (L : List Loc) : Prop := v = some (.int (1 : Int32)) ∧ Fr n0 L
set_option maxRecDepth 65536 in
set_option maxHeartbeats 40000000 in
theorem rm0 (l : Launch) (Z : State) (a0 : Array Value) (hw : ∀ d ∈ tables_1, d.before a0 Z = true) (ws : List Jvm.Cond) (p0 : Int32) (v0 : Addr) (v1 : Addr) (v2 : Addr) (v3 : Addr) (v4 : Addr) (v5 : Addr) (v6 : Addr) (v7 : Addr) (h0 : Heap) (n0 : Nat) (Z0 : n0 ≤ h0.size) (O : Old Z n0 h0) (S0 : Sta Z Z.heap "com/example/rondel/rondel/Change" "CREATED" "Lcom/example/rondel/rondel/Change;" (.ref v0)) (S1 : Sta Z Z.heap "com/example/rondel/rondel/Change" "MADE" "Lcom/example/rondel/rondel/Change;" (.ref v1)) (S2 : Sta Z Z.heap "com/example/rondel/rondel/Change" "UNCHANGED" "Lcom/example/rondel/rondel/Change;" (.ref v2)) (S3 : Sta Z Z.heap "com/example/rondel/rondel/Change" "NOT_FOUND" "Lcom/example/rondel/rondel/Change;" (.ref v3)) (S4 : Sta Z Z.heap "com/example/rondel/rondel/Change" "ELSEWHERE" "Lcom/example/rondel/rondel/Change;" (.ref v4)) (S5 : Sta Z Z.heap "com/example/rondel/rondel/Change" "REFUSED" "Lcom/example/rondel/rondel/Change;" (.ref v5)) (S6 : Sta Z Z.heap "com/example/rondel/rondel/Change" "TOO_LARGE" "Lcom/example/rondel/rondel/Change;" (.ref v6)) (S7 : Sta Z Z.heap "com/example/rondel/rondel/Change" "UNHEARD" "Lcom/example/rondel/rondel/Change;" (.ref v7)) (E0 : Exa Z h0 v0 "com/example/rondel/rondel/Change") (E1 : Exa Z h0 v1 "com/example/rondel/rondel/Change") (E2 : Exa Z h0 v2 "com/example/rondel/rondel/Change") (E3 : Exa Z h0 v3 "com/example/rondel/rondel/Change") (E4 : Exa Z h0 v4 "com/example/rondel/rondel/Change") (E5 : Exa Z h0 v5 "com/example/rondel/rondel/Change") (E6 : Exa Z h0 v6 "com/example/rondel/rondel/Change") (E7 : Exa Z h0 v7 "com/example/rondel/rondel/Change") (F0 : Fld Z h0 v0 "java/lang/Enum" "ordinal" "I" (.int (0 : Int32))) (F1 : Fld Z h0 v1 "java/lang/Enum" "ordinal" "I" (.int (1 : Int32))) (F2 : Fld Z h0 v2 "java/lang/Enum" "ordinal" "I" (.int (2 : Int32))) (F3 : Fld Z h0 v3 "java/lang/Enum" "ordinal" "I" (.int (3 : Int32))) (F4 : Fld Z h0 v4 "java/lang/Enum" "ordinal" "I" (.int (4 : Int32))) (F5 : Fld Z h0 v5 "java/lang/Enum" "ordinal" "I" (.int (5 : Int32))) (F6 : Fld Z h0 v6 "java/lang/Enum" "ordinal" "I" (.int (6 : Int32))) (F7 : Fld Z h0 v7 "java/lang/Enum" "ordinal" "I" (.int (7 : Int32))) :
    MetFree l x (head1 (Jvm.Cond.code x code maxLocals ret :: ws) room_1) (fun ar U => ar = #[(.int p0)] ∧ Z.Warmed39 U.vm ∧ U.heap = h0) (fun _ _ _ _ _ => True) (fun _ U o U' => ∃ v L, o = .returned v ∧ Q_rm0 Z p0 v0 v1 v2 v3 v4 v5 v6 v7 h0 n0 v U'.heap L ∧ FrameEnd U o U' L room_1.cells room_1.slots) := by
  refine MetFree.of_bodySF (plainFor_of_name own_pn1) hisR ?_
  intro p e s m args below meth c s₁ Bd hml0 hP hK
  obtain ⟨rfl, hZ, hh⟩ := hP
  have hx := Bd.exec
  have hby := Bd.bytes
  have hlk : meth.locks = false := BodyLoose.notSynchronized Bd
  have hml : c.maxLocals = 4 := hml0
  have hown : s.vm.findClass "com/example/rondel/rondel/ChangeIsRefusedPinLaw" = some m.cls := findClass_of_methodNamed Bd.named
  have hnm := (name_of_methodNamed Bd.named Bd.method).1
  have X0 : Stand p l e room_1 s m #[(.int p0)] below meth c s₁ [] 0 0 := Stand.of_body Bd
  have e0 : s₁.heap = h0 := by rw [← hh, Bd.state]; rfl
  have N0 := Fr.nil n0
  show own_Go p.tables e below (fun u o => ∃ v L, o = .returned v ∧ Q_rm0 Z p0 v0 v1 v2 v3 v4 v5 v6 v7 h0 n0 v u.heap L ∧ FrameEnd s o u L room_1.cells room_1.slots) (s₁.setTop (entryFrame m #[(.int p0)] maxLocals))
  refine own_up (fun _ k => castTop (ef_rm0 m p0) k) ?_
  show own_Go p.tables e below _ (s₁.setTop (mkF m 0 #[.val (.int p0), .unset, .unset, .unset] []))
  have tail : ∀ (Tt1 : State) (Lt1 : List Loc) (Xt1 : Stand p l e room_1 s m #[(.int p0)] below meth c Tt1 Lt1 0 0) (et1 : Tt1.heap = h0) (Nt1 : Fr n0 Lt1) (sl : Slot) (a : Addr) (ex : Int32) (Ea : Exa Z h0 a "com/example/rondel/rondel/Change") (hex : (if a = v5 ∨ a = v6 then (1 : Int32) else 0) = ex), own_Go p.tables e below (fun u o => ∃ v L, o = .returned v ∧ Q_rm0 Z p0 v0 v1 v2 v3 v4 v5 v6 v7 h0 n0 v u.heap L ∧ FrameEnd s o u L room_1.cells room_1.slots) (Tt1.setTop (mkF m 109 #[.val (.int p0), sl, .val (.ref a), .val (.int ex)] [])) := by
    intro Tt1 Lt1 Xt1 et1 Nt1 sl a ex Ea hex
    refine own_up (fun _ k => XS.aloadN Xt1.here hx rfl (hb hby at_109) rfl rfl k) ?_
    show own_Go p.tables e below _ (Tt1.setTop (mkF m 110 #[.val (.int p0), sl, .val (.ref a), .val (.int ex)] [(.ref a)]))
    obtain ⟨cq2, kq2, q2a, q2b, q2c⟩ := isOf hZ et1 Ea
    obtain ⟨_, _, ⟨T2, L2, k2, n2⟩, -, X2, ⟨Lc2, hQ2, l2, y2, z2⟩, st2⟩ := Xt1.virtualBack hx (y := (⟨"com/example/rondel/rondel/Change", "isRefused", "()Z"⟩ : MethodName)) (z := (⟨"com/example/rondel/rondel/Change", "isRefused", "()Z"⟩ : MethodName)) hown (mvT hZ (hw _ (List.mem_of_getElem? (i := 3) rfl))) (mvT hZ (hw _ (List.mem_of_getElem? (i := 4) rfl))) (notFace_of_selects (args := #[]) (mvT hZ (hw _ (List.mem_of_getElem? (i := 6) rfl)))) (mvT hZ (hw _ (List.mem_of_getElem? (i := 6) rfl))) (mvT hZ (hw _ (List.mem_of_getElem? (i := 5) rfl))) (by decide) (backOf (W := 0) (rm1 l Z a0 hw [] a v5 v6 h0 n0 Z0 O S5 S6) hZ (hw _ (List.mem_of_getElem? (i := 7) rfl)) (hw _ (List.mem_of_getElem? (i := 1) rfl)) (by decide) (by decide)) q2a q2c (g := (mkF m 110 #[.val (.int p0), sl, .val (.ref a), .val (.int ex)] [(.ref a)])) rfl (by rw [hml]; rfl) (Steps.refl _) (argsL := []) (rest := []) (lenOf own_pd0 rfl) rfl (by show 2 * 0 + _ ≤ _; exact Nat.le_of_eq rfl) (hb hby at_110) (fun _ _ => ⟨rfl, et1, (by decide : 0 + 0 ≤ _), (by decide : 0 + 0 ≤ _)⟩)
    dsimp only [Pt.U, Pt.locs, Pt.cells, Pt.slots] at X2 l2 y2 z2 st2 hQ2
    subst l2 y2 z2
    obtain ⟨rfl, N2q, eq2⟩ := hQ2
    have N2 := Fr.app Nt1 N2q
    refine own_up (fun _ k => st2.trans k) ?_
    show own_Go p.tables e below _ (T2.setTop (mkF m 113 #[.val (.int p0), sl, .val (.ref a), .val (.int ex)] [(.int (if a = v5 ∨ a = v6 then (1 : Int32) else 0))]))
    refine own_up (fun _ k => XS.iloadN X2.here hx rfl (hb hby at_113) rfl k) ?_
    show own_Go p.tables e below _ (T2.setTop (mkF m 114 #[.val (.int p0), sl, .val (.ref a), .val (.int ex)] [(.int ex), (.int (if a = v5 ∨ a = v6 then (1 : Int32) else 0))]))
    refine own_up (fun _ k => XS.icmpNo X2.here hx rfl (hb hby at_114) rfl (teq hex).2 k) ?_
    show own_Go p.tables e below _ (T2.setTop (mkF m 117 #[.val (.int p0), sl, .val (.ref a), .val (.int ex)] []))
    refine own_up (fun _ k => XS.iconst X2.here hx rfl (hb hby at_117) k) ?_
    show own_Go p.tables e below _ (T2.setTop (mkF m 118 #[.val (.int p0), sl, .val (.ref a), .val (.int ex)] [(.int (1 : Int32))]))
    refine own_up (fun _ k => XS.goto X2.here hx rfl (pc0 := 118) (pc' := 122) rfl (hb hby at_118) (by decide) (by decide) k) ?_
    show own_Go p.tables e below _ (T2.setTop (mkF m 122 #[.val (.int p0), sl, .val (.ref a), .val (.int ex)] [(.int (1 : Int32))]))
    exact own_end X2 hlk (v := some (.int (1 : Int32))) (fun h => by rw [Bd.returns] at h; cases h) (fun fs hr => retN X2 hx (z := (1 : Int32)) (t := .boolean) Bd.returns (by simp) (hb hby at_122) hr) eq2 ⟨rfl, N2⟩ (by decide) (by decide)
  refine own_up (fun _ k => XS.iloadN X0.here hx rfl (hb hby at_0) rfl k) ?_
  show own_Go p.tables e below _ (s₁.setTop (mkF m 1 #[.val (.int p0), .unset, .unset, .unset] [(.int p0)]))
  refine own_up (fun _ k => XS.bipush X0.here hx rfl (hb hby at_1) k) ?_
  show own_Go p.tables e below _ (s₁.setTop (mkF m 3 #[.val (.int p0), .unset, .unset, .unset] [(.int (7 : Int32)), (.int p0)]))
  refine own_up (fun _ k => XS.iand X0.here hx rfl (hb hby at_3) rfl k) ?_
  show own_Go p.tables e below _ (s₁.setTop (mkF m 4 #[.val (.int p0), .unset, .unset, .unset] [(.int (p0 &&& (7 : Int32)))]))
  refine own_up (fun _ k => XS.istoreN X0.here hx rfl (hb hby at_4) rfl (l' := #[.val (.int p0), .val (.int (p0 &&& (7 : Int32))), .unset, .unset]) rfl k) ?_
  show own_Go p.tables e below _ (s₁.setTop (mkF m 5 #[.val (.int p0), .val (.int (p0 &&& (7 : Int32))), .unset, .unset] []))
  refine own_up (fun _ k => XS.iloadN X0.here hx rfl (hb hby at_5) rfl k) ?_
  show own_Go p.tables e below _ (s₁.setTop (mkF m 6 #[.val (.int p0), .val (.int (p0 &&& (7 : Int32))), .unset, .unset] [(.int (p0 &&& (7 : Int32)))]))
  by_cases c0 : (p0 &&& (7 : Int32)) = (0 : Int32)
  ·
    refine own_up (fun _ k => XS.ifNo X0.here hx rfl (hb hby at_6) rfl ((if0 _ _).trans (teq c0).2) k) ?_
    show own_Go p.tables e below _ (s₁.setTop (mkF m 9 #[.val (.int p0), .val (.int (p0 &&& (7 : Int32))), .unset, .unset] []))
    obtain ⟨T3, X3, e3, st3⟩ := getS2 X0 hx hZ hown (host := "") (Or.inl (hw _ (List.mem_of_getElem? (i := 0) rfl))) Via.refl e0 (S0.ext O.2) (g := (mkF m 9 #[.val (.int p0), .val (.int (p0 &&& (7 : Int32))), .unset, .unset] [])) rfl (hb hby at_9)
    refine own_up st3 ?_
    show own_Go p.tables e below _ (T3.setTop (mkF m 12 #[.val (.int p0), .val (.int (p0 &&& (7 : Int32))), .unset, .unset] [(.ref v0)]))
    refine own_up (fun _ k => XS.astoreN X3.here hx rfl (hb hby at_12) rfl rfl (l' := #[.val (.int p0), .val (.int (p0 &&& (7 : Int32))), .val (.ref v0), .unset]) rfl k) ?_
    show own_Go p.tables e below _ (T3.setTop (mkF m 13 #[.val (.int p0), .val (.int (p0 &&& (7 : Int32))), .val (.ref v0), .unset] []))
    refine own_up (fun _ k => XS.iconst X3.here hx rfl (hb hby at_13) k) ?_
    show own_Go p.tables e below _ (T3.setTop (mkF m 14 #[.val (.int p0), .val (.int (p0 &&& (7 : Int32))), .val (.ref v0), .unset] [(.int (0 : Int32))]))
    refine own_up (fun _ k => XS.istoreN X3.here hx rfl (hb hby at_14) rfl (l' := #[.val (.int p0), .val (.int (p0 &&& (7 : Int32))), .val (.ref v0), .val (.int (0 : Int32))]) rfl k) ?_
    show own_Go p.tables e below _ (T3.setTop (mkF m 15 #[.val (.int p0), .val (.int (p0 &&& (7 : Int32))), .val (.ref v0), .val (.int (0 : Int32))] []))
    refine own_up (fun _ k => XS.goto X3.here hx rfl (pc0 := 15) (pc' := 109) rfl (hb hby at_15) (by decide) (by decide) k) ?_
    show own_Go p.tables e below _ (T3.setTop (mkF m 109 #[.val (.int p0), .val (.int (p0 &&& (7 : Int32))), .val (.ref v0), .val (.int (0 : Int32))] []))
    exact tail T3 _ X3 e3 N0 (.val (.int (p0 &&& (7 : Int32)))) v0 (0 : Int32) E0 (if_neg (not_or.mpr ⟨Fld.ne F0 F5 (by decide), Fld.ne F0 F6 (by decide)⟩))
  ·
    refine own_up (fun _ k => XS.ifYes X0.here hx rfl (pc0 := 6) (pc' := 18) rfl (hb hby at_6) rfl ((if0 _ _).trans (feq c0).2) (by decide) (by decide) k) ?_
    show own_Go p.tables e below _ (s₁.setTop (mkF m 18 #[.val (.int p0), .val (.int (p0 &&& (7 : Int32))), .unset, .unset] []))
    refine own_up (fun _ k => XS.iloadN X0.here hx rfl (hb hby at_18) rfl k) ?_
    show own_Go p.tables e below _ (s₁.setTop (mkF m 19 #[.val (.int p0), .val (.int (p0 &&& (7 : Int32))), .unset, .unset] [(.int (p0 &&& (7 : Int32)))]))
    refine own_up (fun _ k => XS.iconst X0.here hx rfl (hb hby at_19) k) ?_
    show own_Go p.tables e below _ (s₁.setTop (mkF m 20 #[.val (.int p0), .val (.int (p0 &&& (7 : Int32))), .unset, .unset] [(.int (1 : Int32)), (.int (p0 &&& (7 : Int32)))]))
    by_cases c1 : (p0 &&& (7 : Int32)) = (1 : Int32)
    ·
      refine own_up (fun _ k => XS.icmpNo X0.here hx rfl (hb hby at_20) rfl (teq c1).2 k) ?_
      show own_Go p.tables e below _ (s₁.setTop (mkF m 23 #[.val (.int p0), .val (.int (p0 &&& (7 : Int32))), .unset, .unset] []))
      obtain ⟨T4, X4, e4, st4⟩ := getS2 X0 hx hZ hown (host := "") (Or.inl (hw _ (List.mem_of_getElem? (i := 19) rfl))) Via.refl e0 (S1.ext O.2) (g := (mkF m 23 #[.val (.int p0), .val (.int (p0 &&& (7 : Int32))), .unset, .unset] [])) rfl (hb hby at_23)
      refine own_up st4 ?_
      show own_Go p.tables e below _ (T4.setTop (mkF m 26 #[.val (.int p0), .val (.int (p0 &&& (7 : Int32))), .unset, .unset] [(.ref v1)]))
      refine own_up (fun _ k => XS.astoreN X4.here hx rfl (hb hby at_26) rfl rfl (l' := #[.val (.int p0), .val (.int (p0 &&& (7 : Int32))), .val (.ref v1), .unset]) rfl k) ?_
      show own_Go p.tables e below _ (T4.setTop (mkF m 27 #[.val (.int p0), .val (.int (p0 &&& (7 : Int32))), .val (.ref v1), .unset] []))
      refine own_up (fun _ k => XS.iconst X4.here hx rfl (hb hby at_27) k) ?_
      show own_Go p.tables e below _ (T4.setTop (mkF m 28 #[.val (.int p0), .val (.int (p0 &&& (7 : Int32))), .val (.ref v1), .unset] [(.int (0 : Int32))]))
      refine own_up (fun _ k => XS.istoreN X4.here hx rfl (hb hby at_28) rfl (l' := #[.val (.int p0), .val (.int (p0 &&& (7 : Int32))), .val (.ref v1), .val (.int (0 : Int32))]) rfl k) ?_
      show own_Go p.tables e below _ (T4.setTop (mkF m 29 #[.val (.int p0), .val (.int (p0 &&& (7 : Int32))), .val (.ref v1), .val (.int (0 : Int32))] []))
      refine own_up (fun _ k => XS.goto X4.here hx rfl (pc0 := 29) (pc' := 109) rfl (hb hby at_29) (by decide) (by decide) k) ?_
      show own_Go p.tables e below _ (T4.setTop (mkF m 109 #[.val (.int p0), .val (.int (p0 &&& (7 : Int32))), .val (.ref v1), .val (.int (0 : Int32))] []))
      exact tail T4 _ X4 e4 N0 (.val (.int (p0 &&& (7 : Int32)))) v1 (0 : Int32) E1 (if_neg (not_or.mpr ⟨Fld.ne F1 F5 (by decide), Fld.ne F1 F6 (by decide)⟩))
    ·
      refine own_up (fun _ k => XS.icmpYes X0.here hx rfl (pc0 := 20) (pc' := 32) rfl (hb hby at_20) rfl (feq c1).2 (by decide) (by decide) k) ?_
      show own_Go p.tables e below _ (s₁.setTop (mkF m 32 #[.val (.int p0), .val (.int (p0 &&& (7 : Int32))), .unset, .unset] []))
      refine own_up (fun _ k => XS.iloadN X0.here hx rfl (hb hby at_32) rfl k) ?_
      show own_Go p.tables e below _ (s₁.setTop (mkF m 33 #[.val (.int p0), .val (.int (p0 &&& (7 : Int32))), .unset, .unset] [(.int (p0 &&& (7 : Int32)))]))
      refine own_up (fun _ k => XS.iconst X0.here hx rfl (hb hby at_33) k) ?_
      show own_Go p.tables e below _ (s₁.setTop (mkF m 34 #[.val (.int p0), .val (.int (p0 &&& (7 : Int32))), .unset, .unset] [(.int (2 : Int32)), (.int (p0 &&& (7 : Int32)))]))
      by_cases c2 : (p0 &&& (7 : Int32)) = (2 : Int32)
      ·
        refine own_up (fun _ k => XS.icmpNo X0.here hx rfl (hb hby at_34) rfl (teq c2).2 k) ?_
        show own_Go p.tables e below _ (s₁.setTop (mkF m 37 #[.val (.int p0), .val (.int (p0 &&& (7 : Int32))), .unset, .unset] []))
        obtain ⟨T5, X5, e5, st5⟩ := getS2 X0 hx hZ hown (host := "") (Or.inl (hw _ (List.mem_of_getElem? (i := 17) rfl))) Via.refl e0 (S2.ext O.2) (g := (mkF m 37 #[.val (.int p0), .val (.int (p0 &&& (7 : Int32))), .unset, .unset] [])) rfl (hb hby at_37)
        refine own_up st5 ?_
        show own_Go p.tables e below _ (T5.setTop (mkF m 40 #[.val (.int p0), .val (.int (p0 &&& (7 : Int32))), .unset, .unset] [(.ref v2)]))
        refine own_up (fun _ k => XS.astoreN X5.here hx rfl (hb hby at_40) rfl rfl (l' := #[.val (.int p0), .val (.int (p0 &&& (7 : Int32))), .val (.ref v2), .unset]) rfl k) ?_
        show own_Go p.tables e below _ (T5.setTop (mkF m 41 #[.val (.int p0), .val (.int (p0 &&& (7 : Int32))), .val (.ref v2), .unset] []))
        refine own_up (fun _ k => XS.iconst X5.here hx rfl (hb hby at_41) k) ?_
        show own_Go p.tables e below _ (T5.setTop (mkF m 42 #[.val (.int p0), .val (.int (p0 &&& (7 : Int32))), .val (.ref v2), .unset] [(.int (0 : Int32))]))
        refine own_up (fun _ k => XS.istoreN X5.here hx rfl (hb hby at_42) rfl (l' := #[.val (.int p0), .val (.int (p0 &&& (7 : Int32))), .val (.ref v2), .val (.int (0 : Int32))]) rfl k) ?_
        show own_Go p.tables e below _ (T5.setTop (mkF m 43 #[.val (.int p0), .val (.int (p0 &&& (7 : Int32))), .val (.ref v2), .val (.int (0 : Int32))] []))
        refine own_up (fun _ k => XS.goto X5.here hx rfl (pc0 := 43) (pc' := 109) rfl (hb hby at_43) (by decide) (by decide) k) ?_
        show own_Go p.tables e below _ (T5.setTop (mkF m 109 #[.val (.int p0), .val (.int (p0 &&& (7 : Int32))), .val (.ref v2), .val (.int (0 : Int32))] []))
        exact tail T5 _ X5 e5 N0 (.val (.int (p0 &&& (7 : Int32)))) v2 (0 : Int32) E2 (if_neg (not_or.mpr ⟨Fld.ne F2 F5 (by decide), Fld.ne F2 F6 (by decide)⟩))
      ·
        refine own_up (fun _ k => XS.icmpYes X0.here hx rfl (pc0 := 34) (pc' := 46) rfl (hb hby at_34) rfl (feq c2).2 (by decide) (by decide) k) ?_
        show own_Go p.tables e below _ (s₁.setTop (mkF m 46 #[.val (.int p0), .val (.int (p0 &&& (7 : Int32))), .unset, .unset] []))
        refine own_up (fun _ k => XS.iloadN X0.here hx rfl (hb hby at_46) rfl k) ?_
        show own_Go p.tables e below _ (s₁.setTop (mkF m 47 #[.val (.int p0), .val (.int (p0 &&& (7 : Int32))), .unset, .unset] [(.int (p0 &&& (7 : Int32)))]))
        refine own_up (fun _ k => XS.iconst X0.here hx rfl (hb hby at_47) k) ?_
        show own_Go p.tables e below _ (s₁.setTop (mkF m 48 #[.val (.int p0), .val (.int (p0 &&& (7 : Int32))), .unset, .unset] [(.int (3 : Int32)), (.int (p0 &&& (7 : Int32)))]))
        by_cases c3 : (p0 &&& (7 : Int32)) = (3 : Int32)
        ·
          refine own_up (fun _ k => XS.icmpNo X0.here hx rfl (hb hby at_48) rfl (teq c3).2 k) ?_
          show own_Go p.tables e below _ (s₁.setTop (mkF m 51 #[.val (.int p0), .val (.int (p0 &&& (7 : Int32))), .unset, .unset] []))
          obtain ⟨T6, X6, e6, st6⟩ := getS2 X0 hx hZ hown (host := "") (Or.inl (hw _ (List.mem_of_getElem? (i := 12) rfl))) Via.refl e0 (S3.ext O.2) (g := (mkF m 51 #[.val (.int p0), .val (.int (p0 &&& (7 : Int32))), .unset, .unset] [])) rfl (hb hby at_51)
          refine own_up st6 ?_
          show own_Go p.tables e below _ (T6.setTop (mkF m 54 #[.val (.int p0), .val (.int (p0 &&& (7 : Int32))), .unset, .unset] [(.ref v3)]))
          refine own_up (fun _ k => XS.astoreN X6.here hx rfl (hb hby at_54) rfl rfl (l' := #[.val (.int p0), .val (.int (p0 &&& (7 : Int32))), .val (.ref v3), .unset]) rfl k) ?_
          show own_Go p.tables e below _ (T6.setTop (mkF m 55 #[.val (.int p0), .val (.int (p0 &&& (7 : Int32))), .val (.ref v3), .unset] []))
          refine own_up (fun _ k => XS.iconst X6.here hx rfl (hb hby at_55) k) ?_
          show own_Go p.tables e below _ (T6.setTop (mkF m 56 #[.val (.int p0), .val (.int (p0 &&& (7 : Int32))), .val (.ref v3), .unset] [(.int (0 : Int32))]))
          refine own_up (fun _ k => XS.istoreN X6.here hx rfl (hb hby at_56) rfl (l' := #[.val (.int p0), .val (.int (p0 &&& (7 : Int32))), .val (.ref v3), .val (.int (0 : Int32))]) rfl k) ?_
          show own_Go p.tables e below _ (T6.setTop (mkF m 57 #[.val (.int p0), .val (.int (p0 &&& (7 : Int32))), .val (.ref v3), .val (.int (0 : Int32))] []))
          refine own_up (fun _ k => XS.goto X6.here hx rfl (pc0 := 57) (pc' := 109) rfl (hb hby at_57) (by decide) (by decide) k) ?_
          show own_Go p.tables e below _ (T6.setTop (mkF m 109 #[.val (.int p0), .val (.int (p0 &&& (7 : Int32))), .val (.ref v3), .val (.int (0 : Int32))] []))
          exact tail T6 _ X6 e6 N0 (.val (.int (p0 &&& (7 : Int32)))) v3 (0 : Int32) E3 (if_neg (not_or.mpr ⟨Fld.ne F3 F5 (by decide), Fld.ne F3 F6 (by decide)⟩))
        ·
          refine own_up (fun _ k => XS.icmpYes X0.here hx rfl (pc0 := 48) (pc' := 60) rfl (hb hby at_48) rfl (feq c3).2 (by decide) (by decide) k) ?_
          show own_Go p.tables e below _ (s₁.setTop (mkF m 60 #[.val (.int p0), .val (.int (p0 &&& (7 : Int32))), .unset, .unset] []))
          refine own_up (fun _ k => XS.iloadN X0.here hx rfl (hb hby at_60) rfl k) ?_
          show own_Go p.tables e below _ (s₁.setTop (mkF m 61 #[.val (.int p0), .val (.int (p0 &&& (7 : Int32))), .unset, .unset] [(.int (p0 &&& (7 : Int32)))]))
          refine own_up (fun _ k => XS.iconst X0.here hx rfl (hb hby at_61) k) ?_
          show own_Go p.tables e below _ (s₁.setTop (mkF m 62 #[.val (.int p0), .val (.int (p0 &&& (7 : Int32))), .unset, .unset] [(.int (4 : Int32)), (.int (p0 &&& (7 : Int32)))]))
          by_cases c4 : (p0 &&& (7 : Int32)) = (4 : Int32)
          ·
            refine own_up (fun _ k => XS.icmpNo X0.here hx rfl (hb hby at_62) rfl (teq c4).2 k) ?_
            show own_Go p.tables e below _ (s₁.setTop (mkF m 65 #[.val (.int p0), .val (.int (p0 &&& (7 : Int32))), .unset, .unset] []))
            obtain ⟨T7, X7, e7, st7⟩ := getS2 X0 hx hZ hown (host := "") (Or.inl (hw _ (List.mem_of_getElem? (i := 21) rfl))) Via.refl e0 (S4.ext O.2) (g := (mkF m 65 #[.val (.int p0), .val (.int (p0 &&& (7 : Int32))), .unset, .unset] [])) rfl (hb hby at_65)
            refine own_up st7 ?_
            show own_Go p.tables e below _ (T7.setTop (mkF m 68 #[.val (.int p0), .val (.int (p0 &&& (7 : Int32))), .unset, .unset] [(.ref v4)]))
            refine own_up (fun _ k => XS.astoreN X7.here hx rfl (hb hby at_68) rfl rfl (l' := #[.val (.int p0), .val (.int (p0 &&& (7 : Int32))), .val (.ref v4), .unset]) rfl k) ?_
            show own_Go p.tables e below _ (T7.setTop (mkF m 69 #[.val (.int p0), .val (.int (p0 &&& (7 : Int32))), .val (.ref v4), .unset] []))
            refine own_up (fun _ k => XS.iconst X7.here hx rfl (hb hby at_69) k) ?_
            show own_Go p.tables e below _ (T7.setTop (mkF m 70 #[.val (.int p0), .val (.int (p0 &&& (7 : Int32))), .val (.ref v4), .unset] [(.int (0 : Int32))]))
            refine own_up (fun _ k => XS.istoreN X7.here hx rfl (hb hby at_70) rfl (l' := #[.val (.int p0), .val (.int (p0 &&& (7 : Int32))), .val (.ref v4), .val (.int (0 : Int32))]) rfl k) ?_
            show own_Go p.tables e below _ (T7.setTop (mkF m 71 #[.val (.int p0), .val (.int (p0 &&& (7 : Int32))), .val (.ref v4), .val (.int (0 : Int32))] []))
            refine own_up (fun _ k => XS.goto X7.here hx rfl (pc0 := 71) (pc' := 109) rfl (hb hby at_71) (by decide) (by decide) k) ?_
            show own_Go p.tables e below _ (T7.setTop (mkF m 109 #[.val (.int p0), .val (.int (p0 &&& (7 : Int32))), .val (.ref v4), .val (.int (0 : Int32))] []))
            exact tail T7 _ X7 e7 N0 (.val (.int (p0 &&& (7 : Int32)))) v4 (0 : Int32) E4 (if_neg (not_or.mpr ⟨Fld.ne F4 F5 (by decide), Fld.ne F4 F6 (by decide)⟩))
          ·
            refine own_up (fun _ k => XS.icmpYes X0.here hx rfl (pc0 := 62) (pc' := 74) rfl (hb hby at_62) rfl (feq c4).2 (by decide) (by decide) k) ?_
            show own_Go p.tables e below _ (s₁.setTop (mkF m 74 #[.val (.int p0), .val (.int (p0 &&& (7 : Int32))), .unset, .unset] []))
            refine own_up (fun _ k => XS.iloadN X0.here hx rfl (hb hby at_74) rfl k) ?_
            show own_Go p.tables e below _ (s₁.setTop (mkF m 75 #[.val (.int p0), .val (.int (p0 &&& (7 : Int32))), .unset, .unset] [(.int (p0 &&& (7 : Int32)))]))
            refine own_up (fun _ k => XS.iconst X0.here hx rfl (hb hby at_75) k) ?_
            show own_Go p.tables e below _ (s₁.setTop (mkF m 76 #[.val (.int p0), .val (.int (p0 &&& (7 : Int32))), .unset, .unset] [(.int (5 : Int32)), (.int (p0 &&& (7 : Int32)))]))
            by_cases c5 : (p0 &&& (7 : Int32)) = (5 : Int32)
            ·
              refine own_up (fun _ k => XS.icmpNo X0.here hx rfl (hb hby at_76) rfl (teq c5).2 k) ?_
              show own_Go p.tables e below _ (s₁.setTop (mkF m 79 #[.val (.int p0), .val (.int (p0 &&& (7 : Int32))), .unset, .unset] []))
              obtain ⟨T8, X8, e8, st8⟩ := getS2 X0 hx hZ hown (host := "") (Or.inl (hw _ (List.mem_of_getElem? (i := 23) rfl))) Via.refl e0 (S5.ext O.2) (g := (mkF m 79 #[.val (.int p0), .val (.int (p0 &&& (7 : Int32))), .unset, .unset] [])) rfl (hb hby at_79)
              refine own_up st8 ?_
              show own_Go p.tables e below _ (T8.setTop (mkF m 82 #[.val (.int p0), .val (.int (p0 &&& (7 : Int32))), .unset, .unset] [(.ref v5)]))
              refine own_up (fun _ k => XS.astoreN X8.here hx rfl (hb hby at_82) rfl rfl (l' := #[.val (.int p0), .val (.int (p0 &&& (7 : Int32))), .val (.ref v5), .unset]) rfl k) ?_
              show own_Go p.tables e below _ (T8.setTop (mkF m 83 #[.val (.int p0), .val (.int (p0 &&& (7 : Int32))), .val (.ref v5), .unset] []))
              refine own_up (fun _ k => XS.iconst X8.here hx rfl (hb hby at_83) k) ?_
              show own_Go p.tables e below _ (T8.setTop (mkF m 84 #[.val (.int p0), .val (.int (p0 &&& (7 : Int32))), .val (.ref v5), .unset] [(.int (1 : Int32))]))
              refine own_up (fun _ k => XS.istoreN X8.here hx rfl (hb hby at_84) rfl (l' := #[.val (.int p0), .val (.int (p0 &&& (7 : Int32))), .val (.ref v5), .val (.int (1 : Int32))]) rfl k) ?_
              show own_Go p.tables e below _ (T8.setTop (mkF m 85 #[.val (.int p0), .val (.int (p0 &&& (7 : Int32))), .val (.ref v5), .val (.int (1 : Int32))] []))
              refine own_up (fun _ k => XS.goto X8.here hx rfl (pc0 := 85) (pc' := 109) rfl (hb hby at_85) (by decide) (by decide) k) ?_
              show own_Go p.tables e below _ (T8.setTop (mkF m 109 #[.val (.int p0), .val (.int (p0 &&& (7 : Int32))), .val (.ref v5), .val (.int (1 : Int32))] []))
              exact tail T8 _ X8 e8 N0 (.val (.int (p0 &&& (7 : Int32)))) v5 (1 : Int32) E5 (if_pos (Or.inl rfl))
            ·
              refine own_up (fun _ k => XS.icmpYes X0.here hx rfl (pc0 := 76) (pc' := 88) rfl (hb hby at_76) rfl (feq c5).2 (by decide) (by decide) k) ?_
              show own_Go p.tables e below _ (s₁.setTop (mkF m 88 #[.val (.int p0), .val (.int (p0 &&& (7 : Int32))), .unset, .unset] []))
              refine own_up (fun _ k => XS.iloadN X0.here hx rfl (hb hby at_88) rfl k) ?_
              show own_Go p.tables e below _ (s₁.setTop (mkF m 89 #[.val (.int p0), .val (.int (p0 &&& (7 : Int32))), .unset, .unset] [(.int (p0 &&& (7 : Int32)))]))
              refine own_up (fun _ k => XS.bipush X0.here hx rfl (hb hby at_89) k) ?_
              show own_Go p.tables e below _ (s₁.setTop (mkF m 91 #[.val (.int p0), .val (.int (p0 &&& (7 : Int32))), .unset, .unset] [(.int (6 : Int32)), (.int (p0 &&& (7 : Int32)))]))
              by_cases c6 : (p0 &&& (7 : Int32)) = (6 : Int32)
              ·
                refine own_up (fun _ k => XS.icmpNo X0.here hx rfl (hb hby at_91) rfl (teq c6).2 k) ?_
                show own_Go p.tables e below _ (s₁.setTop (mkF m 94 #[.val (.int p0), .val (.int (p0 &&& (7 : Int32))), .unset, .unset] []))
                obtain ⟨T9, X9, e9, st9⟩ := getS2 X0 hx hZ hown (host := "") (Or.inl (hw _ (List.mem_of_getElem? (i := 14) rfl))) Via.refl e0 (S6.ext O.2) (g := (mkF m 94 #[.val (.int p0), .val (.int (p0 &&& (7 : Int32))), .unset, .unset] [])) rfl (hb hby at_94)
                refine own_up st9 ?_
                show own_Go p.tables e below _ (T9.setTop (mkF m 97 #[.val (.int p0), .val (.int (p0 &&& (7 : Int32))), .unset, .unset] [(.ref v6)]))
                refine own_up (fun _ k => XS.astoreN X9.here hx rfl (hb hby at_97) rfl rfl (l' := #[.val (.int p0), .val (.int (p0 &&& (7 : Int32))), .val (.ref v6), .unset]) rfl k) ?_
                show own_Go p.tables e below _ (T9.setTop (mkF m 98 #[.val (.int p0), .val (.int (p0 &&& (7 : Int32))), .val (.ref v6), .unset] []))
                refine own_up (fun _ k => XS.iconst X9.here hx rfl (hb hby at_98) k) ?_
                show own_Go p.tables e below _ (T9.setTop (mkF m 99 #[.val (.int p0), .val (.int (p0 &&& (7 : Int32))), .val (.ref v6), .unset] [(.int (1 : Int32))]))
                refine own_up (fun _ k => XS.istoreN X9.here hx rfl (hb hby at_99) rfl (l' := #[.val (.int p0), .val (.int (p0 &&& (7 : Int32))), .val (.ref v6), .val (.int (1 : Int32))]) rfl k) ?_
                show own_Go p.tables e below _ (T9.setTop (mkF m 100 #[.val (.int p0), .val (.int (p0 &&& (7 : Int32))), .val (.ref v6), .val (.int (1 : Int32))] []))
                refine own_up (fun _ k => XS.goto X9.here hx rfl (pc0 := 100) (pc' := 109) rfl (hb hby at_100) (by decide) (by decide) k) ?_
                show own_Go p.tables e below _ (T9.setTop (mkF m 109 #[.val (.int p0), .val (.int (p0 &&& (7 : Int32))), .val (.ref v6), .val (.int (1 : Int32))] []))
                exact tail T9 _ X9 e9 N0 (.val (.int (p0 &&& (7 : Int32)))) v6 (1 : Int32) E6 (if_pos (Or.inr rfl))
              ·
                refine own_up (fun _ k => XS.icmpYes X0.here hx rfl (pc0 := 91) (pc' := 103) rfl (hb hby at_91) rfl (feq c6).2 (by decide) (by decide) k) ?_
                show own_Go p.tables e below _ (s₁.setTop (mkF m 103 #[.val (.int p0), .val (.int (p0 &&& (7 : Int32))), .unset, .unset] []))
                obtain ⟨T10, X10, e10, st10⟩ := getS2 X0 hx hZ hown (host := "") (Or.inl (hw _ (List.mem_of_getElem? (i := 15) rfl))) Via.refl e0 (S7.ext O.2) (g := (mkF m 103 #[.val (.int p0), .val (.int (p0 &&& (7 : Int32))), .unset, .unset] [])) rfl (hb hby at_103)
                refine own_up st10 ?_
                show own_Go p.tables e below _ (T10.setTop (mkF m 106 #[.val (.int p0), .val (.int (p0 &&& (7 : Int32))), .unset, .unset] [(.ref v7)]))
                refine own_up (fun _ k => XS.astoreN X10.here hx rfl (hb hby at_106) rfl rfl (l' := #[.val (.int p0), .val (.int (p0 &&& (7 : Int32))), .val (.ref v7), .unset]) rfl k) ?_
                show own_Go p.tables e below _ (T10.setTop (mkF m 107 #[.val (.int p0), .val (.int (p0 &&& (7 : Int32))), .val (.ref v7), .unset] []))
                refine own_up (fun _ k => XS.iconst X10.here hx rfl (hb hby at_107) k) ?_
                show own_Go p.tables e below _ (T10.setTop (mkF m 108 #[.val (.int p0), .val (.int (p0 &&& (7 : Int32))), .val (.ref v7), .unset] [(.int (0 : Int32))]))
                refine own_up (fun _ k => XS.istoreN X10.here hx rfl (hb hby at_108) rfl (l' := #[.val (.int p0), .val (.int (p0 &&& (7 : Int32))), .val (.ref v7), .val (.int (0 : Int32))]) rfl k) ?_
                show own_Go p.tables e below _ (T10.setTop (mkF m 109 #[.val (.int p0), .val (.int (p0 &&& (7 : Int32))), .val (.ref v7), .val (.int (0 : Int32))] []))
                exact tail T10 _ X10 e10 N0 (.val (.int (p0 &&& (7 : Int32)))) v7 (0 : Int32) E7 (if_neg (not_or.mpr ⟨Fld.ne F7 F5 (by decide), Fld.ne F7 F6 (by decide)⟩))
set_option maxRecDepth 65536 in
set_option maxHeartbeats 40000000 in
theorem comes_1 {Post : Tables → Env → Array Value → State → Outcome → State → Prop} (hpost : ∀ tb e args s v u, (limb_1_1.after args s (.returned v) u = true ∧ limb_1_2.after args s (.returned v) u = true ∧ True) → FrameEnd s (.returned v) u (Jvm.fieldLocs frame_1_writes args s ++ Jvm.arrayLocs frame_1_arrays args s ++ Jvm.staticLocs frame_1_statics s) 0 0 → Post tb e args s (.returned v) u) :
    ArmFor flags0 classFile x code maxLocals ret World_1 tables_1 room_1 Calls_1 rest_1 Pre_1 Post := by
  intro l hfl _ _ p e ha hc hk s m args below hf hA hF happ hP
  obtain ⟨hcalls, hrest, hpre⟩ := hP
  obtain ⟨-, -, -, hnamed, -, -, -, hat⟩ := (Spec.applies_iff hf).mp happ
  obtain ⟨hg, hn⟩ := and_e (Cond.before_iff.mp (show (Jvm.Cond.and given_1 narrow_1).before args s = true from hpre))
  obtain ⟨hcnt, hgr0⟩ := and_e hg
  obtain ⟨w0, rfl⟩ : ∃ w0 : Value, args = #[w0] := by
    have hs : args.size = 1 := by simpa [Cond.value, given_1] using hcnt
    obtain ⟨L⟩ := args
    match L, hs with
    | [w0], _ => exact ⟨w0, rfl⟩
  have hw := fun d (hd : d ∈ tables_1) => atoms_spec (ws := Jvm.Cond.code x code maxLocals ret :: tables_1) hat d (List.mem_cons_of_mem _ hd)
  have hfit : Fit s := fun {y c} hc i hi => by
    obtain ⟨ha, rfl⟩ := Array.getElem?_eq_some_iff.mp hc
    have q := List.all_eq_true.mp ((Array.all_eq_true_iff_forall_mem.mp hF) _ (Array.getElem_mem ha)) i (List.mem_range.mpr hi)
    simpa [Array.getElem?_eq_getElem hi] using q
  obtain ⟨i0, ei0⟩ := is_v hgr0
  obtain rfl : w0 = (.int i0) := Option.some.inj ei0
  obtain ⟨na0, nr0⟩ := and_e hn
  obtain ⟨na1, nr1⟩ := and_e nr0
  obtain ⟨na2, nr2⟩ := and_e nr1
  obtain ⟨na3, nr3⟩ := and_e nr2
  obtain ⟨na4, nr4⟩ := and_e nr3
  obtain ⟨na5, nr5⟩ := and_e nr4
  obtain ⟨na6, nr6⟩ := and_e nr5
  obtain ⟨na7, nr7⟩ := and_e nr6
  obtain ⟨na8, nr8⟩ := and_e nr7
  obtain ⟨na9, nr9⟩ := and_e nr8
  obtain ⟨na10, nr10⟩ := and_e nr9
  obtain ⟨na11, nr11⟩ := and_e nr10
  obtain ⟨na12, nr12⟩ := and_e nr11
  obtain ⟨na13, nr13⟩ := and_e nr12
  obtain ⟨na14, nr14⟩ := and_e nr13
  obtain ⟨v0, ev0⟩ := exa_v na0
  have E0 := Exa.start ev0 na0
  have S0 := Sta.start ev0 (Or.inr ⟨(hw _ (List.mem_of_getElem? (i := 1) rfl)), (hw _ (List.mem_of_getElem? (i := 2) rfl))⟩)
  have F0 := own_fld ev0 na2
  obtain ⟨v1, ev1⟩ := exa_v na12
  have E1 := Exa.start ev1 na12
  have S1 := Sta.start ev1 (Or.inr ⟨(hw _ (List.mem_of_getElem? (i := 1) rfl)), (hw _ (List.mem_of_getElem? (i := 20) rfl))⟩)
  have F1 := own_fld ev1 na13
  obtain ⟨v2, ev2⟩ := exa_v na10
  have E2 := Exa.start ev2 na10
  have S2 := Sta.start ev2 (Or.inr ⟨(hw _ (List.mem_of_getElem? (i := 1) rfl)), (hw _ (List.mem_of_getElem? (i := 18) rfl))⟩)
  have F2 := own_fld ev2 na11
  obtain ⟨v3, ev3⟩ := exa_v na6
  have E3 := Exa.start ev3 na6
  have S3 := Sta.start ev3 (Or.inr ⟨(hw _ (List.mem_of_getElem? (i := 1) rfl)), (hw _ (List.mem_of_getElem? (i := 13) rfl))⟩)
  have F3 := own_fld ev3 na7
  obtain ⟨v4, ev4⟩ := exa_v na14
  have E4 := Exa.start ev4 na14
  have S4 := Sta.start ev4 (Or.inr ⟨(hw _ (List.mem_of_getElem? (i := 1) rfl)), (hw _ (List.mem_of_getElem? (i := 22) rfl))⟩)
  have F4 := own_fld ev4 nr14
  obtain ⟨v5, ev5⟩ := exa_v na1
  have E5 := Exa.start ev5 na1
  have S5 := Sta.start ev5 (Or.inr ⟨(hw _ (List.mem_of_getElem? (i := 1) rfl)), (hw _ (List.mem_of_getElem? (i := 9) rfl))⟩)
  have F5 := own_fld ev5 na3
  obtain ⟨v6, ev6⟩ := exa_v na4
  have E6 := Exa.start ev6 na4
  have S6 := Sta.start ev6 (Or.inr ⟨(hw _ (List.mem_of_getElem? (i := 1) rfl)), (hw _ (List.mem_of_getElem? (i := 11) rfl))⟩)
  have F6 := own_fld ev6 na5
  obtain ⟨v7, ev7⟩ := exa_v na8
  have E7 := Exa.start ev7 na8
  have S7 := Sta.start ev7 (Or.inr ⟨(hw _ (List.mem_of_getElem? (i := 1) rfl)), (hw _ (List.mem_of_getElem? (i := 16) rfl))⟩)
  have F7 := own_fld ev7 na9
  obtain ⟨n, o, h1, h2, h3, _, L, rfl, ⟨rfl, N⟩, hq⟩ := rm0 l s _ hw tables_1 i0 v0 v1 v2 v3 v4 v5 v6 v7 s.heap s.heap.size (Nat.le_refl _) (Old.start s) S0 S1 S2 S3 S4 S5 S6 S7 E0 E1 E2 E3 E4 E5 E6 E7 F0 F1 F2 F3 F4 F5 F6 F7 p e ha hc hk s m _ below hf ((Spec.applies_iff_loose hf).mp happ).1 ⟨rfl, State.Warmed39.refl s, rfl⟩ trivial
  refine ⟨n, _, h1, h2, h3, hpost _ _ _ _ _ _ ⟨Cond.after_iff.mpr rfl, Cond.after_iff.mpr (eq_i res_at (Term.int_eval (1)) rfl), trivial⟩ ⟨hq.1, hq.2.1, (hq.2.2.sift fun y hy => Or.inr (N y hy)).mono (by decide) (by decide)⟩⟩
theorem main_1_1 : Claimed_1_1 := comes_1 fun _ _ _ _ _ _ h hF => ⟨h.1, hF⟩
theorem main_1_2 : Claimed_1_2 := comes_1 fun _ _ _ _ _ _ h hF => ⟨h.2.1, hF⟩
end Jvm.Pilot.@@N@@
namespace Jvm.Pilot.@@N@@
open Jvm Jvm.ClassFile Sem Op Lib Jvm.Free Jvm.Stand Jvm.Pilot.@@N@@.Jvm.D
/-! MADE BY PROGRAM (witnessworld.py) out of the Statement's table words and the real class files: 12 classes; the members and pool entries that the words name. The judged class is class 1, her method 1. -/
namespace start1
open Jvm.ClassFile
def u (s : String) : CpInfo := .utf8 (stringToUtf16 s)
/-- a pool by its gaps: so many unusable entries, then the entry; so many at the end -/
def gap : Nat → List CpInfo → List CpInfo
  | 0, r => r
  | n + 1, r => .unusable :: gap n r
def poolList (es : List (Nat × CpInfo)) (last : Nat) : List CpInfo := es.foldr (fun e r => gap e.1 (e.2 :: r)) (gap last [])
def pool (es : List (Nat × CpInfo)) (last : Nat) : Array CpInfo := ⟨poolList es last⟩
def fileOf (pool : Array CpInfo) (this : Nat) (attrs : Array Attribute := #[]) (ms : Array MethodInfo := #[]) (fl : Nat := 33) (sup : Nat := 0) (ifs : Array Nat := #[]) (fds : Array FieldInfo := #[]) : ClassFile where
  minorVersion := 0
  majorVersion := 65
  constantPool := pool
  accessFlags := fl
  thisClass := this
  superClass := sup
  interfaces := ifs
  fields := fds
  methods := ms
  attributes := attrs
def plain (name : String) (sup : Option ClassId) : Class where
  name := name
  kind := .ordinary
  loader := none
  accessFlags := 33
  super := sup
  interfaces := #[]
  cf := none
  fields := #[]
  methods := #[]
  instanceTypes := #[]
  staticTypes := #[]
  resolved := #[]
  callSites := []
  init := .initialized
  statics := none
  mirror := none

def pool0 : Array CpInfo := pool [(5, u "<init>"), (0, u "()V"), (1, .class_ 10), (1, u "java/lang/Object")] 113

def k0m0 : Method := { name := "<init>", desc := "()V", sig := { parameters := [], returnType := none }, accessFlags := 1, code := none }
/-- java/lang/Object -/
def k0 : Class := { plain "java/lang/Object" none with
  accessFlags := 33
  interfaces := #[]
  cf := some (fileOf pool0 8 #[] #[{ accessFlags := 1, nameIndex := 5, descriptorIndex := 6, attributes := #[] }] 33 0 #[] #[])
  fields := #[]
  methods := #[k0m0]
  instanceTypes := #[]
  staticTypes := #[]
  resolved := Array.replicate 124 none
  statics := none }

def pool1 : Array CpInfo := pool [(2, .class_ 4), (1, u "java/lang/Object"), (0, u "<init>"), (0, u "()V"), (0, .fieldref 8 9), (0, .class_ 10), (0, .nameAndType 11 12), (0, u "com/example/rondel/rondel/Change"), (0, u "CREATED"), (0, u "Lcom/example/rondel/rondel/Change;"), (0, .fieldref 8 14), (0, .nameAndType 15 12), (0, u "MADE"), (0, .fieldref 8 17), (0, .nameAndType 18 12), (0, u "UNCHANGED"), (0, .fieldref 8 20), (0, .nameAndType 21 12), (0, u "NOT_FOUND"), (0, .fieldref 8 23), (0, .nameAndType 24 12), (0, u "ELSEWHERE"), (0, .fieldref 8 26), (0, .nameAndType 27 12), (0, u "REFUSED"), (0, .fieldref 8 29), (0, .nameAndType 30 12), (0, u "TOO_LARGE"), (0, .fieldref 8 32), (0, .nameAndType 33 12), (0, u "UNHEARD"), (0, .methodref 8 35), (0, .nameAndType 36 37), (0, u "isRefused"), (0, u "()Z"), (0, .class_ 39), (0, u "com/example/rondel/rondel/ChangeIsRefusedPinLaw"), (2, u "law"), (0, u "(I)Z")] 3

def k1m0 : Method := { name := "<init>", desc := "()V", sig := { parameters := [], returnType := none }, accessFlags := 1, code := none }
def k1c1 : Code := { maxStack := 2, maxLocals := 4, code := code, exceptionTable := #[], attributes := #[] }
def k1m1 : Method := { name := "law", desc := "(I)Z", sig := { parameters := [.int], returnType := some .boolean }, accessFlags := 9, code := some k1c1 }
/-- com/example/rondel/rondel/ChangeIsRefusedPinLaw -/
def k1 : Class := { plain "com/example/rondel/rondel/ChangeIsRefusedPinLaw" (some 0) with
  accessFlags := 49
  interfaces := #[]
  cf := some (fileOf pool1 38 #[] #[{ accessFlags := 1, nameIndex := 5, descriptorIndex := 6, attributes := #[] }, { accessFlags := 9, nameIndex := 42, descriptorIndex := 43, attributes := #[] }] 49 2 #[] #[])
  fields := #[]
  methods := #[k1m0, k1m1]
  instanceTypes := #[]
  staticTypes := #[]
  resolved := Array.replicate 47 none
  statics := none }

def pool2 : Array CpInfo := pool [(1, .class_ 2), (0, u "java/lang/constant/Constable"), (0, .class_ 4), (0, u "java/lang/Object")] 6

/-- java/lang/constant/Constable -/
def k2 : Class := { plain "java/lang/constant/Constable" (some 0) with
  accessFlags := 1537
  interfaces := #[]
  cf := some (fileOf pool2 1 #[] #[] 1537 3 #[] #[])
  fields := #[]
  methods := #[]
  instanceTypes := #[]
  staticTypes := #[]
  resolved := Array.replicate 11 none
  statics := none }

def pool3 : Array CpInfo := pool [(1, .class_ 2), (0, u "java/lang/Comparable"), (0, .class_ 4), (0, u "java/lang/Object")] 7

/-- java/lang/Comparable -/
def k3 : Class := { plain "java/lang/Comparable" (some 0) with
  accessFlags := 1537
  interfaces := #[]
  cf := some (fileOf pool3 1 #[] #[] 1537 3 #[] #[])
  fields := #[]
  methods := #[]
  instanceTypes := #[]
  staticTypes := #[]
  resolved := Array.replicate 12 none
  statics := none }

def pool4 : Array CpInfo := pool [(1, .class_ 2), (0, u "java/io/Serializable"), (0, .class_ 4), (0, u "java/lang/Object")] 2

/-- java/io/Serializable -/
def k4 : Class := { plain "java/io/Serializable" (some 0) with
  accessFlags := 1537
  interfaces := #[]
  cf := some (fileOf pool4 1 #[] #[] 1537 3 #[] #[])
  fields := #[]
  methods := #[]
  instanceTypes := #[]
  staticTypes := #[]
  resolved := Array.replicate 7 none
  statics := none }

def pool5 : Array CpInfo := pool [(2, .class_ 4), (1, u "java/lang/Enum"), (0, u "name"), (0, u "Ljava/lang/String;"), (2, u "ordinal"), (0, u "I"), (1, .class_ 14), (1, u "java/lang/Object"), (4, u "hash"), (86, .class_ 108), (1, u "java/lang/Enum$EnumDesc"), (2, .class_ 112), (0, u "java/lang/constant/Constable"), (0, .class_ 114), (0, u "java/lang/Comparable"), (0, .class_ 116), (0, u "java/io/Serializable")] 87

/-- java/lang/Enum -/
def k5 : Class := { plain "java/lang/Enum" (some 0) with
  accessFlags := 1057
  interfaces := #[2, 3, 4]
  cf := some (fileOf pool5 2 #[.nestMembers #[106]] #[] 1057 12 #[111, 113, 115] #[{ accessFlags := 18, nameIndex := 5, descriptorIndex := 6, attributes := #[] }, { accessFlags := 18, nameIndex := 9, descriptorIndex := 10, attributes := #[] }, { accessFlags := 2, nameIndex := 19, descriptorIndex := 10, attributes := #[] }])
  fields := #[{ name := "name", type := (.object "java/lang/String"), accessFlags := 18, slot := 0, constantValue := 0 }, { name := "ordinal", type := .int, accessFlags := 18, slot := 1, constantValue := 0 }, { name := "hash", type := .int, accessFlags := 2, slot := 2, constantValue := 0 }]
  methods := #[]
  instanceTypes := #[(.object "java/lang/String"), .int, .int]
  staticTypes := #[]
  resolved := Array.replicate 204 none
  statics := none }

def pool6 : Array CpInfo := pool [(1, .class_ 2), (0, u "com/example/rondel/rondel/Change"), (2, u "CREATED"), (0, u "Lcom/example/rondel/rondel/Change;"), (2, u "MADE"), (2, u "UNCHANGED"), (2, u "NOT_FOUND"), (2, u "ELSEWHERE"), (0, .fieldref 1 20), (0, .nameAndType 21 6), (0, u "REFUSED"), (0, .fieldref 1 23), (0, .nameAndType 24 6), (0, u "TOO_LARGE"), (2, u "UNHEARD"), (2, u "$VALUES"), (0, u "[Lcom/example/rondel/rondel/Change;"), (6, .class_ 40), (1, u "java/lang/Enum"), (26, u "isRefused"), (0, u "()Z")] 5

def k6c0 : Code := { maxStack := 2, maxLocals := 1, code := prog_3_method_4_code, exceptionTable := #[], attributes := #[] }
def k6m0 : Method := { name := "isRefused", desc := "()Z", sig := { parameters := [], returnType := some .boolean }, accessFlags := 0, code := some k6c0 }
/-- com/example/rondel/rondel/Change -/
def k6 : Class := { plain "com/example/rondel/rondel/Change" (some 5) with
  accessFlags := 16432
  interfaces := #[]
  cf := some (fileOf pool6 1 #[] #[{ accessFlags := 0, nameIndex := 67, descriptorIndex := 68, attributes := #[] }] 16432 38 #[] #[{ accessFlags := 16409, nameIndex := 5, descriptorIndex := 6, attributes := #[] }, { accessFlags := 16409, nameIndex := 9, descriptorIndex := 6, attributes := #[] }, { accessFlags := 16409, nameIndex := 12, descriptorIndex := 6, attributes := #[] }, { accessFlags := 16409, nameIndex := 15, descriptorIndex := 6, attributes := #[] }, { accessFlags := 16409, nameIndex := 18, descriptorIndex := 6, attributes := #[] }, { accessFlags := 16409, nameIndex := 21, descriptorIndex := 6, attributes := #[] }, { accessFlags := 16409, nameIndex := 24, descriptorIndex := 6, attributes := #[] }, { accessFlags := 16409, nameIndex := 27, descriptorIndex := 6, attributes := #[] }, { accessFlags := 4122, nameIndex := 30, descriptorIndex := 31, attributes := #[] }])
  fields := #[{ name := "CREATED", type := (.object "com/example/rondel/rondel/Change"), accessFlags := 16409, slot := 0, constantValue := 0 }, { name := "MADE", type := (.object "com/example/rondel/rondel/Change"), accessFlags := 16409, slot := 1, constantValue := 0 }, { name := "UNCHANGED", type := (.object "com/example/rondel/rondel/Change"), accessFlags := 16409, slot := 2, constantValue := 0 }, { name := "NOT_FOUND", type := (.object "com/example/rondel/rondel/Change"), accessFlags := 16409, slot := 3, constantValue := 0 }, { name := "ELSEWHERE", type := (.object "com/example/rondel/rondel/Change"), accessFlags := 16409, slot := 4, constantValue := 0 }, { name := "REFUSED", type := (.object "com/example/rondel/rondel/Change"), accessFlags := 16409, slot := 5, constantValue := 0 }, { name := "TOO_LARGE", type := (.object "com/example/rondel/rondel/Change"), accessFlags := 16409, slot := 6, constantValue := 0 }, { name := "UNHEARD", type := (.object "com/example/rondel/rondel/Change"), accessFlags := 16409, slot := 7, constantValue := 0 }, { name := "$VALUES", type := (.array (.object "com/example/rondel/rondel/Change")), accessFlags := 4122, slot := 8, constantValue := 0 }]
  methods := #[k6m0]
  instanceTypes := #[(.object "java/lang/String"), .int, .int]
  staticTypes := #[(.object "com/example/rondel/rondel/Change"), (.object "com/example/rondel/rondel/Change"), (.object "com/example/rondel/rondel/Change"), (.object "com/example/rondel/rondel/Change"), (.object "com/example/rondel/rondel/Change"), (.object "com/example/rondel/rondel/Change"), (.object "com/example/rondel/rondel/Change"), (.object "com/example/rondel/rondel/Change"), (.array (.object "com/example/rondel/rondel/Change"))]
  resolved := Array.replicate 74 none
  statics := some 0 }

def pool7 : Array CpInfo := pool [(1, u "java/lang/Cloneable"), (0, .class_ 1), (0, u "java/lang/Object"), (0, .class_ 3)] 3

/-- java/lang/Cloneable -/
def k7 : Class := { plain "java/lang/Cloneable" (some 0) with
  accessFlags := 1537
  interfaces := #[]
  cf := some (fileOf pool7 2 #[] #[] 1537 4 #[] #[])
  fields := #[]
  methods := #[]
  instanceTypes := #[]
  staticTypes := #[]
  resolved := Array.replicate 8 none
  statics := none }

/-- the primitive byte -/
def k8 : Class := { plain "byte" none with kind := .primitive 'B', accessFlags := 0x411 }
/-- [B -/
def k9 : Class := { plain "[B" (some 0) with kind := .array 8 .byte, interfaces := #[7, 4], accessFlags := 1041 }

/-- the primitive int -/
def k10 : Class := { plain "int" none with kind := .primitive 'I', accessFlags := 0x411 }
/-- [I -/
def k11 : Class := { plain "[I" (some 0) with kind := .array 10 .int, interfaces := #[7, 4], accessFlags := 1041 }

def heap : Heap := #[{ cls := 6, slots := #[.ref 1, .ref 2, .ref 3, .ref 4, .ref 5, .ref 6, .ref 7, .ref 8, .null], vm := .statics 6 },
  { cls := 6, slots := #[.null, .int 0, .int 0], vm := .none },
  { cls := 6, slots := #[.null, .int 1, .int 0], vm := .none },
  { cls := 6, slots := #[.null, .int 2, .int 0], vm := .none },
  { cls := 6, slots := #[.null, .int 3, .int 0], vm := .none },
  { cls := 6, slots := #[.null, .int 4, .int 0], vm := .none },
  { cls := 6, slots := #[.null, .int 5, .int 0], vm := .none },
  { cls := 6, slots := #[.null, .int 6, .int 0], vm := .none },
  { cls := 6, slots := #[.null, .int 7, .int 0], vm := .none }]
def classes : Array Class := #[k0, k1, k2, k3, k4, k5, k6, k7, k8, k9, k10, k11]
def interned : List (Array UInt16 × Addr) := []
def slotsUsed : Nat := 33
def theMethod : MethodId := ⟨1, 1⟩
def args0 : Array Value := #[.int 5]
def aboutOver (below : List Frame) : State where
  vm := { classes := classes, interned := interned.toArray }
  heap := heap
  slotsUsed := slotsUsed
  threads := #[{ frames := .invoking theMethod args0 :: below }]
def below0 : List Frame := [.native { method := ⟨0, 0⟩, args := #[] }]
def about1 : State := aboutOver below0
def p0 : Program := .bare "" "" ""
def e0 : Env := launch0.env 0 0 0
theorem w_frames : about1.frames = Frame.invoking theMethod args0 :: below0 := rfl
set_option maxRecDepth 65536 in
theorem w_args : argsFit about1.vm theMethod args0 = true := by decide +kernel
set_option maxRecDepth 65536 in
theorem w_heap : heapFits about1 = true := by decide +kernel
set_option maxRecDepth 65536 in
theorem w_runnable : about1.curStatus? = some .runnable := by decide +kernel
set_option maxRecDepth 65536 in
theorem w_alone : about1.alone = true := by decide +kernel
set_option maxRecDepth 65536 in
theorem w_named : about1.methodNamed? x = some theMethod := by decide +kernel
set_option maxRecDepth 65536 in
theorem w_hears : about1.hears theMethod below0 = true := by decide +kernel
set_option maxRecDepth 65536 in
theorem w_ripe : about1.ripe theMethod args0 below0 = true := by decide +kernel
theorem w_running : about1.status = .running := rfl
set_option maxRecDepth 65536 in
theorem w_room : about1.hasRoom e0.platform room_1 = true :=
  launch0.hasRoom_least _ room_1 (by decide +kernel) (by decide +kernel) (by decide +kernel) (by decide +kernel) (by decide +kernel) (by decide +kernel)
theorem allAtoms_all (ts : List Jvm.Cond) (a : Array Jvm.Value) (st : Jvm.State) : (allAtoms ts).before a st = ts.all (fun c => c.before a st) := by
  induction ts with
  | nil => rfl
  | cons c t ih =>
    show (Jvm.Cond.and c (allAtoms t)).before a st = _
    rw [Jvm.Cond.before_and, ih, List.all_cons]
def words1 : List Jvm.Cond := Jvm.Cond.code x code maxLocals ret :: tables_1
/-- a 'code' word, met by the world's own term for the bytes: nothing is compared byte by byte -/
theorem code_word {y : MethodName} {bytes : ByteArray} {mx : Nat} {rt : Option FieldType} {a : Array Value} {s : State} {m : MethodId} {meth : Method} {c : Code} (h1 : s.methodNamed? y = some m) (h2 : s.vm.method? m = some meth) (h3 : meth.code = some c) (h4 : c.code = bytes)
    (h5 : (c.maxLocals == mx && c.exceptionTable.isEmpty && decide (c.maxStack ≤ mostOperands) && decide (meth.sig.returnType = rt) && !meth.locks && decide (parseMethodDescriptor y.desc = some meth.sig)) = true) : (Jvm.Cond.code y bytes mx rt).before a s = true := by
  simp only [Bool.and_eq_true, beq_iff_eq, Bool.not_eq_true', decide_eq_true_eq] at h5
  obtain ⟨⟨⟨⟨⟨g1, g2⟩, g3⟩, g4⟩, g5⟩, g6⟩ := h5
  simp [Cond.before, Cond.holds, Cond.value, h1, h2, h3, h4, g1, g2, g3, g4, g5, g6]
def isCode : Jvm.Cond → Bool
  | .code _ _ _ _ => true
  | _ => false
theorem all_split {L : List Jvm.Cond} {P : Jvm.Cond → Bool} (h1 : L.all (fun c => isCode c || P c) = true) (h2 : ∀ c ∈ L.filter isCode, P c = true) : L.all P = true := by
  refine List.all_eq_true.mpr fun c hc => ?_
  have h := List.all_eq_true.mp h1 c hc
  rcases Bool.eq_false_or_eq_true (isCode c) with hi | hi
  · exact h2 c (List.mem_filter.mpr ⟨hc, hi⟩)
  · simpa [hi] using h
set_option maxRecDepth 65536 in
theorem w_c0 : (Jvm.Cond.code x code maxLocals ret).before args0 about1 = true := code_word (m := ⟨1, 1⟩) (meth := k1m1) (c := k1c1) (by decide +kernel) rfl rfl rfl (by decide +kernel)
set_option maxRecDepth 65536 in
theorem w_c1 : (Jvm.Cond.code ({ cls := "com/example/rondel/rondel/Change", name := "isRefused", desc := "()Z" } : Jvm.MethodName) prog_3_method_4_code (1 : Nat) (Option.some Jvm.ClassFile.FieldType.boolean)).before args0 about1 = true := code_word (m := ⟨6, 0⟩) (meth := k6m0) (c := k6c0) (by decide +kernel) rfl rfl rfl (by decide +kernel)
def codes1 : List Jvm.Cond := [Jvm.Cond.code x code maxLocals ret, Jvm.Cond.code ({ cls := "com/example/rondel/rondel/Change", name := "isRefused", desc := "()Z" } : Jvm.MethodName) prog_3_method_4_code (1 : Nat) (Option.some Jvm.ClassFile.FieldType.boolean)]
set_option maxRecDepth 65536 in
theorem codes_eq : words1.filter isCode = codes1 := rfl
theorem w_codes : ∀ c ∈ words1.filter isCode, c.before args0 about1 = true := by
  rw [codes_eq]
  intro c hc
  simp only [codes1, List.mem_cons, List.not_mem_nil, or_false] at hc
  rcases hc with rfl | rfl
  · exact w_c0
  · exact w_c1
set_option maxRecDepth 65536 in
theorem w_t1 : (words1.take 24).all (fun c => isCode c || c.before args0 about1) = true := by decide +kernel
set_option maxRecDepth 65536 in
theorem w_t2 : (words1.drop 24).all (fun c => isCode c || c.before args0 about1) = true := by decide +kernel
theorem w_tables : (allAtoms (Jvm.Cond.code x code maxLocals ret :: tables_1)).before args0 about1 = true := by
  rw [allAtoms_all]
  show words1.all (fun c => c.before args0 about1) = true
  refine all_split ?_ w_codes
  rw [← List.take_append_drop 24 words1, List.all_append, w_t1, w_t2]
  rfl
set_option maxRecDepth 65536 in
theorem w_case : (Jvm.Cond.and given_1 narrow_1).before args0 about1 = true := by decide +kernel
theorem w_applies : (headSpec (Jvm.Cond.code x code maxLocals ret :: tables_1) room_1).applies x e0.platform about1 = true :=
  (Spec.applies_iff w_frames).mpr ⟨w_running, w_runnable, w_alone, w_named, w_hears, w_ripe, w_room, w_tables⟩
theorem atStart : AtStart classFile x code maxLocals ret World_1 tables_1 room_1 Calls_1 rest_1 Pre_1 launch0 p0 e0 about1 theMethod args0 below0 :=
  ⟨lists_1, trivial, launch0.admits_env _ _ _, launch0.least_env, fairChoices_fair.cas, fairChoices_fair.clock, w_frames, w_args, w_heap, w_applies, trivial, trivial, w_case⟩
end start1
theorem witness_1 : WitnessClaimed_1 := ⟨start1.p0, start1.e0, start1.about1, start1.theMethod, start1.args0, start1.below0, start1.atStart⟩
end Jvm.Pilot.@@N@@
