import JvmDerived
import JvmDerived.Pilot.@@N@@Statement
import JvmDerived.Pilot.@@N@@Code
set_option linter.unusedVariables false
set_option linter.unusedSimpArgs false
namespace Jvm.Pilot.@@N@@
open Jvm Jvm.ClassFile Sem Op Lib Jvm.Free Jvm.Stand Jvm.LawKit Jvm.RoadKit Bundle Jvm.Pilot.@@N@@.Jvm.D
def own_Go (tb : Tables) (e : Env) (below : List Frame) (G : State → Outcome → Prop) (s : State) : Prop := ∃ s₂ o, Steps tb e below s s₂ ∧ s₂.status = .running ∧ Ended s₂ below o ∧ G s₂ o
theorem own_up {tb : Tables} {e : Env} {below : List Frame} {G : State → Outcome → Prop} {s s' : State} (f : ∀ t, Steps tb e below s' t → Steps tb e below s t) (h : own_Go tb e below G s') : own_Go tb e below G s := by
  obtain ⟨s₂, o, h1, h2⟩ := h
  exact ⟨s₂, o, f _ h1, h2⟩
theorem own_selp {s : State} {args : Array Value} {y : MethodName} {n : Nat} (hi : (Cond.instantiable y.cls n).before args s = true) (hp : s.PrivateAt y) (hinst : (Cond.instanceMethod y).before args s = true) (hy : y.cls ≠ "java/lang/invoke/MethodHandle" ∧ y.cls ≠ "java/lang/invoke/VarHandle") : (Cond.selects y.cls y y).before args s = true := by
  obtain ⟨c, k, h1, h2, -, h4, -, -⟩ := Cond.instantiable_spec hi
  rw [Bool.or_eq_false_iff] at h4
  exact selects_self_of_private h1 h2 h4.1 hp hinst hy
theorem own_end {p : Program} {l : Launch} {e : Env} {R : Room} {s : State} {m : MethodId} {args : Array Value} {below : List Frame} {meth : Method} {c : Code} {T : State} {locs : List Loc} {cells slots : Nat} (X : Stand p l e R s m args below meth c T locs cells slots) (hlocks : meth.locks = false) {v : Option Value} (hv : meth.sig.returnType = none → v = none) {g : JFrame}
    (step : ∀ fs, (∀ (f : JFrame) (acts : List Action), f.method = m → f.locked = none → f.entered = [] → (doReturn e (T.setTop f) acts v).1 = T.setFrames fs) → Steps p.tables e below (T.setTop g) (T.setFrames fs)) {h : Heap} (eT : T.heap = h) {Q : Option Value → Heap → List Loc → Prop} {kc ks : Nat} (hQ : Q v h locs) (hc : cells ≤ kc) (hs : slots ≤ ks) :
    own_Go p.tables e below (fun u o => ∃ v L, o = .returned v ∧ Q v u.heap L ∧ FrameEnd s o u L kc ks) (T.setTop g) := by
  obtain ⟨fs, hr, hrun, hended, hW, hsame⟩ := X.leave (v := v) hv hlocks
  subst eT
  exact ⟨_, _, step fs hr, hrun, hended, _, _, rfl, hQ, ⟨_, rfl⟩, hW, hsame.mono hc hs⟩
theorem own_ltn {i n : Nat} (hi : i < 2147483648) (hn : n < 2147483648) : Int32.ofNat i < Int32.ofNat n ↔ i < n := by
  rw [Int32.lt_iff_toInt_lt, Int32.toInt_ofNat_of_lt (by omega), Int32.toInt_ofNat_of_lt (by omega)]
  omega
theorem own_one (i : Nat) : Int32.ofNat i + (1 : Int32) = Int32.ofNat (i + 1) := (Int32.ofNat_add i 1).symm
theorem own_nat {z : Int32} {k : Nat} (h0 : 0 ≤ z.toInt) (h1 : z.toInt ≤ k) (hk : k < 2147483648) : ∃ n : Nat, n ≤ k ∧ z = Int32.ofNat n := by
  refine ⟨z.toInt.toNat, by omega, ?_⟩
  apply Int32.toInt_inj.mp
  rw [Int32.toInt_ofNat_of_lt (by omega)]
  omega
theorem own_clamp {i : Nat} (hi : i < 2147483648) : (Int32.ofNat i).toNatClampNeg = i := by
  rw [Int32.toNatClampNeg, Int32.toInt_ofNat_of_lt hi]; rfl
theorem own_nonneg {i : Nat} (hi : i < 2147483648) : ¬ Int32.ofNat i < 0 := by
  rw [show (0 : Int32) = Int32.ofNat 0 from rfl, own_ltn hi (by omega)]; omega
def own_c (s i e x : Int32) : Prop := ¬ i < s ∧ i < e ∧ x < 0
def own_bad (s e x0 x1 x2 x3 : Int32) : Prop := ((own_c s 0 e x0 ∨ own_c s 1 e x1) ∨ own_c s 2 e x2) ∨ own_c s 3 e x3
instance (s i e x : Int32) : Decidable (own_c s i e x) := inferInstanceAs (Decidable (¬ i < s ∧ i < e ∧ x < 0))
instance (s e x0 x1 x2 x3 : Int32) : Decidable (own_bad s e x0 x1 x2 x3) := inferInstanceAs (Decidable (((own_c s 0 e x0 ∨ own_c s 1 e x1) ∨ own_c s 2 e x2) ∨ own_c s 3 e x3))
theorem own_start (x : Int32) : ∃ n : Nat, n ≤ 4 ∧ (x &&& (7 : Int32)) % (5 : Int32) = Int32.ofNat n := by
  have h1 := c_mask x 7 3 (by decide) (by decide)
  have h2 := (c_irem (x &&& 7) 5 5 (by decide)).1
  have h3 : (0 : Int) ≤ x.toInt % (2 ^ 3 : Nat) := Int.emod_nonneg _ (by decide)
  exact own_nat (by omega) (by omega) (by decide)
theorem own_five {n : Nat} (hn : n ≤ 4) : ((5 : Int32) - Int32.ofNat n).toInt = 5 - n := by
  have h := c_isub 5 (Int32.ofNat n)
  have r := rng32 ((5 : Int32) - Int32.ofNat n)
  rw [Int32.toInt_ofNat_of_lt (by omega), show (5 : Int32).toInt = 5 from by decide] at h
  omega
theorem own_five0 {n : Nat} (hn : n ≤ 4) : (5 : Int32) - Int32.ofNat n ≠ 0 := fun q => by
  have h := own_five hn
  rw [q, show (0 : Int32).toInt = 0 from by decide] at h
  omega
theorem own_stop (x : Int32) {n : Nat} (hn : n ≤ 4) : ∃ k : Nat, n ≤ k ∧ k ≤ 4 ∧ Int32.ofNat n + (x &&& (7 : Int32)) % ((5 : Int32) - Int32.ofNat n) = Int32.ofNat k := by
  have h1 := c_mask x 7 3 (by decide) (by decide)
  have h5 := own_five hn
  have h2 := (c_iremV (x &&& 7) ((5 : Int32) - Int32.ofNat n)).1
  have h3 : (0 : Int) ≤ x.toInt % (2 ^ 3 : Nat) := Int.emod_nonneg _ (by decide)
  obtain ⟨h6, h7, -⟩ := h2 (by omega) (by omega)
  have h8 := c_iadd (Int32.ofNat n) ((x &&& (7 : Int32)) % ((5 : Int32) - Int32.ofNat n))
  have r := rng32 (Int32.ofNat n + (x &&& (7 : Int32)) % ((5 : Int32) - Int32.ofNat n))
  rw [Int32.toInt_ofNat_of_lt (by omega)] at h8
  obtain ⟨k, hk, e⟩ := own_nat (z := Int32.ofNat n + (x &&& (7 : Int32)) % ((5 : Int32) - Int32.ofNat n)) (k := 4) (by omega) (by omega) (by decide)
  refine ⟨k, ?_, hk, e⟩
  rw [e, Int32.toInt_ofNat_of_lt (by omega)] at h8
  omega
theorem own_good {s e : Nat} (hs : s ≤ 4) (he : e ≤ 4) {x0 x1 x2 x3 : Int32} (h : ∀ j, s ≤ j → j < e → ¬ [x0, x1, x2, x3].getD j 0 < 0) : ¬ own_bad (Int32.ofNat s) (Int32.ofNat e) x0 x1 x2 x3 := by
  rintro (((⟨a, b, d⟩ | ⟨a, b, d⟩) | ⟨a, b, d⟩) | ⟨a, b, d⟩)
  · rw [show (0 : Int32) = Int32.ofNat 0 from rfl, own_ltn (by omega) (by omega)] at a b
    exact h 0 (by omega) b d
  · rw [show (1 : Int32) = Int32.ofNat 1 from rfl, own_ltn (by omega) (by omega)] at a b
    exact h 1 (by omega) b d
  · rw [show (2 : Int32) = Int32.ofNat 2 from rfl, own_ltn (by omega) (by omega)] at a b
    exact h 2 (by omega) b d
  · rw [show (3 : Int32) = Int32.ofNat 3 from rfl, own_ltn (by omega) (by omega)] at a b
    exact h 3 (by omega) b d
theorem own_evil {s e j : Nat} (he : e ≤ 4) (h1 : s ≤ j) (h2 : j < e) {x0 x1 x2 x3 : Int32} (h : [x0, x1, x2, x3].getD j 0 < 0) : own_bad (Int32.ofNat s) (Int32.ofNat e) x0 x1 x2 x3 := by
  have k : ∀ i : Nat, i = j → ¬ Int32.ofNat i < Int32.ofNat s ∧ Int32.ofNat i < Int32.ofNat e := fun i q => ⟨by rw [own_ltn (by omega) (by omega)]; omega, by rw [own_ltn (by omega) (by omega)]; omega⟩
  match j, h, k with
  | 0, h, k => exact Or.inl (Or.inl (Or.inl ⟨(k 0 rfl).1, (k 0 rfl).2, h⟩))
  | 1, h, k => exact Or.inl (Or.inl (Or.inr ⟨(k 1 rfl).1, (k 1 rfl).2, h⟩))
  | 2, h, k => exact Or.inl (Or.inr ⟨(k 2 rfl).1, (k 2 rfl).2, h⟩)
  | 3, h, k => exact Or.inr ⟨(k 3 rfl).1, (k 3 rfl).2, h⟩
  | j + 4, h, k => omega
theorem own_at (x0 x1 x2 x3 : Int32) {i : Nat} (hi : i < 4) : [Value.int x0, .int x1, .int x2, .int x3].getD (Int32.ofNat i).toNatClampNeg (.int 0) = .int ([x0, x1, x2, x3].getD i 0) := by
  rw [own_clamp (by omega)]
  match i, hi with
  | 0, _ => rfl
  | 1, _ => rfl
  | 2, _ => rfl
  | 3, _ => rfl
theorem own_more0 {P Q : Prop} [Decidable P] [Decidable Q] {ex : Int32} (hex : ex = if P then (0 : Int32) else 1) (h : (if Q then (1 : Int32) else 0) = 0) : ex = if P ∨ Q then (0 : Int32) else 1 := by
  by_cases q : Q <;> simp [q] at h ⊢
  exact hex
theorem own_more1 {P Q : Prop} [Decidable P] [Decidable Q] (h : ¬ (if Q then (1 : Int32) else 0) = 0) : (0 : Int32) = if P ∨ Q then (0 : Int32) else 1 := by
  by_cases q : Q <;> simp [q] at h ⊢
theorem own_first0 {P : Prop} [Decidable P] (h : (if P then (1 : Int32) else 0) = 0) : (1 : Int32) = if P then (0 : Int32) else 1 := by
  by_cases q : P <;> simp [q] at h ⊢
theorem own_first1 {P : Prop} [Decidable P] (h : ¬ (if P then (1 : Int32) else 0) = 0) : (0 : Int32) = if P then (0 : Int32) else 1 := by
  by_cases q : P <;> simp [q] at h ⊢
theorem d_m_3_0 : decode method_3_code 0 = .ok (.iload_n 2, 1) := by decide +kernel
theorem d_m_3_1 : decode method_3_code 1 = .ok (.iload_n 1, 1) := by decide +kernel
theorem d_m_3_2 : decode method_3_code 2 = .ok (.if_icmp .gt 18, 3) := by decide +kernel
theorem d_m_3_20 : decode method_3_code 20 = .ok (.iconst 0, 1) := by decide +kernel
theorem d_m_3_21 : decode method_3_code 21 = .ok (.ireturn, 1) := by decide +kernel
theorem d_m_3_5 : decode method_3_code 5 = .ok (.iload_n 1, 1) := by decide +kernel
theorem d_m_3_6 : decode method_3_code 6 = .ok (.iload_n 3, 1) := by decide +kernel
theorem d_m_3_7 : decode method_3_code 7 = .ok (.if_icmp .ge 13, 3) := by decide +kernel
theorem d_m_3_10 : decode method_3_code 10 = .ok (.aload_n 0, 1) := by decide +kernel
theorem d_m_3_11 : decode method_3_code 11 = .ok (.iload_n 1, 1) := by decide +kernel
theorem d_m_3_12 : decode method_3_code 12 = .ok (.baload, 1) := by decide +kernel
theorem d_m_3_13 : decode method_3_code 13 = .ok (.ifCond .ge 7, 3) := by decide +kernel
theorem d_m_3_16 : decode method_3_code 16 = .ok (.iconst 1, 1) := by decide +kernel
theorem d_m_3_17 : decode method_3_code 17 = .ok (.goto 4, 3) := by decide +kernel
theorem own_pn0 : plainName "com/example/hoptrail/hoptrail/io/Utf8IsAsciiPinLaw" = true := by first | (simp [plainName, overriddenIn]; done) | decide +kernel
theorem ef_rm1 (m : MethodId) (y0 : Addr) (y1 : Int32) (y2 : Int32) (y3 : Int32) : entryFrame m #[(.ref y0), (.int y1), (.int y2), (.int y3)] 4 = mkF m 0 #[.val (.ref y0), .val (.int y1), .val (.int y2), .val (.int y3)] [] := by first | (simp [entryFrame, mkF, argsToLocals, Value.category]; done) | rfl
def Q_rm1 (Z : State) (ab : Addr) (pi : Int32) (ps : Int32) (pe : Int32) (kb : ClassId) (x0 : Int32) (x1 : Int32) (x2 : Int32) (x3 : Int32) (xi : Int32) (h0 : Heap) (n0 : Nat) (v : Option Value) (h : Heap) (L : List Loc) : Prop := v = some (.int (if own_c ps pi pe xi then (1 : Int32) else 0)) ∧ Fr n0 L ∧ h = h0
set_option maxRecDepth 65536 in
set_option maxHeartbeats 40000000 in
theorem rm1 (l : Launch) (Z : State) (a0 : Array Value) (hw : ∀ d ∈ tables_1, d.before a0 Z = true) (ws : List Jvm.Cond) (ab : Addr) (pi : Int32) (ps : Int32) (pe : Int32) (kb : ClassId) (x0 : Int32) (x1 : Int32) (x2 : Int32) (x3 : Int32) (xi : Int32) (h0 : Heap) (n0 : Nat) (Z0 : n0 ≤ h0.size) (V : Arv Z h0 ab kb .byte (4 : Int32) [(.int x0), (.int x1), (.int x2), (.int x3)] (.int (0 : Int32))) (hii : ¬ pi < 0 ∧ pi < (4 : Int32)) (hxi : ([(.int x0), (.int x1), (.int x2), (.int x3)] : List Value).getD pi.toNatClampNeg (.int (0 : Int32)) = .int xi) :
    MetFree l (⟨"com/example/hoptrail/hoptrail/io/Utf8IsAsciiPinLaw", "nonAsciiInside", "([BIII)Z"⟩ : MethodName) (head1 (Jvm.Cond.code (⟨"com/example/hoptrail/hoptrail/io/Utf8IsAsciiPinLaw", "nonAsciiInside", "([BIII)Z"⟩ : MethodName) method_3_code 4 (some .boolean) :: ws) ({ frames := 0, cells := 0, slots := 0, locals := 0 } : Room)) (fun ar U => ar = #[(.ref ab), (.int pi), (.int ps), (.int pe)] ∧ Z.Warmed39 U.vm ∧ U.heap = h0) (fun _ _ _ _ _ => True) (fun _ U o U' => ∃ v L, o = .returned v ∧ Q_rm1 Z ab pi ps pe kb x0 x1 x2 x3 xi h0 n0 v U'.heap L ∧ FrameEnd U o U' L ({ frames := 0, cells := 0, slots := 0, locals := 0 } : Room).cells ({ frames := 0, cells := 0, slots := 0, locals := 0 } : Room).slots) := by
  refine MetFree.of_bodySF (plainFor_of_name own_pn0) hisR ?_
  intro p e s m args below meth c s₁ Bd hml0 hP hK
  obtain ⟨rfl, hZ, hh⟩ := hP
  have hx := Bd.exec
  have hby := Bd.bytes
  have hlk : meth.locks = false := BodyLoose.notSynchronized Bd
  have hml : c.maxLocals = 4 := hml0
  have hown : s.vm.findClass "com/example/hoptrail/hoptrail/io/Utf8IsAsciiPinLaw" = some m.cls := findClass_of_methodNamed Bd.named
  have hnm := (name_of_methodNamed Bd.named Bd.method).1
  have X0 : Stand p l e ({ frames := 0, cells := 0, slots := 0, locals := 0 } : Room) s m #[(.ref ab), (.int pi), (.int ps), (.int pe)] below meth c s₁ [] 0 0 := Stand.of_body Bd
  have e0 : s₁.heap = h0 := by rw [← hh, Bd.state]; rfl
  have N0 := Fr.nil n0
  show own_Go p.tables e below (fun u o => ∃ v L, o = .returned v ∧ Q_rm1 Z ab pi ps pe kb x0 x1 x2 x3 xi h0 n0 v u.heap L ∧ FrameEnd s o u L ({ frames := 0, cells := 0, slots := 0, locals := 0 } : Room).cells ({ frames := 0, cells := 0, slots := 0, locals := 0 } : Room).slots) (s₁.setTop (entryFrame m #[(.ref ab), (.int pi), (.int ps), (.int pe)] 4))
  refine own_up (fun _ k => castTop (ef_rm1 m ab pi ps pe) k) ?_
  show own_Go p.tables e below _ (s₁.setTop (mkF m 0 #[.val (.ref ab), .val (.int pi), .val (.int ps), .val (.int pe)] []))
  refine own_up (fun _ k => XS.iloadN X0.here hx rfl (hb hby d_m_3_0) rfl k) ?_
  show own_Go p.tables e below _ (s₁.setTop (mkF m 1 #[.val (.ref ab), .val (.int pi), .val (.int ps), .val (.int pe)] [(.int ps)]))
  refine own_up (fun _ k => XS.iloadN X0.here hx rfl (hb hby d_m_3_1) rfl k) ?_
  show own_Go p.tables e below _ (s₁.setTop (mkF m 2 #[.val (.ref ab), .val (.int pi), .val (.int ps), .val (.int pe)] [(.int pi), (.int ps)]))
  by_cases c1 : pi < ps
  ·
    refine own_up (fun _ k => XS.icmpYes X0.here hx rfl (pc0 := 2) (pc' := 20) rfl (hb hby d_m_3_2) rfl (tlt c1).2.2.1 (by decide) (by decide) k) ?_
    show own_Go p.tables e below _ (s₁.setTop (mkF m 20 #[.val (.ref ab), .val (.int pi), .val (.int ps), .val (.int pe)] []))
    refine own_up (fun _ k => XS.iconst X0.here hx rfl (hb hby d_m_3_20) k) ?_
    show own_Go p.tables e below _ (s₁.setTop (mkF m 21 #[.val (.ref ab), .val (.int pi), .val (.int ps), .val (.int pe)] [(.int (0 : Int32))]))
    exact own_end X0 hlk (v := some (.int (0 : Int32))) (fun h => by rw [Bd.returns] at h; cases h) (fun fs hr => retN X0 hx (z := (0 : Int32)) (t := .boolean) Bd.returns (by simp) (hb hby d_m_3_21) hr) e0 ⟨by rw [if_neg (fun q => q.1 c1)], N0, rfl⟩ (by decide) (by decide)
  ·
    refine own_up (fun _ k => XS.icmpNo X0.here hx rfl (hb hby d_m_3_2) rfl (flt c1).2.2.1 k) ?_
    show own_Go p.tables e below _ (s₁.setTop (mkF m 5 #[.val (.ref ab), .val (.int pi), .val (.int ps), .val (.int pe)] []))
    refine own_up (fun _ k => XS.iloadN X0.here hx rfl (hb hby d_m_3_5) rfl k) ?_
    show own_Go p.tables e below _ (s₁.setTop (mkF m 6 #[.val (.ref ab), .val (.int pi), .val (.int ps), .val (.int pe)] [(.int pi)]))
    refine own_up (fun _ k => XS.iloadN X0.here hx rfl (hb hby d_m_3_6) rfl k) ?_
    show own_Go p.tables e below _ (s₁.setTop (mkF m 7 #[.val (.ref ab), .val (.int pi), .val (.int ps), .val (.int pe)] [(.int pe), (.int pi)]))
    by_cases c2 : pi < pe
    ·
      refine own_up (fun _ k => XS.icmpNo X0.here hx rfl (hb hby d_m_3_7) rfl (tlt c2).2.1 k) ?_
      show own_Go p.tables e below _ (s₁.setTop (mkF m 10 #[.val (.ref ab), .val (.int pi), .val (.int ps), .val (.int pe)] []))
      refine own_up (fun _ k => XS.aloadN X0.here hx rfl (hb hby d_m_3_10) rfl rfl k) ?_
      show own_Go p.tables e below _ (s₁.setTop (mkF m 11 #[.val (.ref ab), .val (.int pi), .val (.int ps), .val (.int pe)] [(.ref ab)]))
      refine own_up (fun _ k => XS.iloadN X0.here hx rfl (hb hby d_m_3_11) rfl k) ?_
      show own_Go p.tables e below _ (s₁.setTop (mkF m 12 #[.val (.ref ab), .val (.int pi), .val (.int ps), .val (.int pe)] [(.int pi), (.ref ab)]))
      obtain ⟨cl1_, Ar1, q1, S1, M1, Hs1, G1⟩ := V
      have hin2 : ¬ (pi < 0 ∨ cl1_.slots.size ≤ (pi).toNatClampNeg) := inb_of S1 hii
      have hat2 : cl1_.slots[(pi).toNatClampNeg]? = some (.int xi) := Has.at Hs1 hin2 hxi
      refine own_up (fun _ k => X0.baloadBytes hx (j := pi) (v := (.int xi)) (by rw [e0]; exact Ar1.1) (State.isArrayOf_alike hZ.alike Ar1.2.1) Ar1.2.2 hin2 hat2 (g := (mkF m 12 #[.val (.ref ab), .val (.int pi), .val (.int ps), .val (.int pe)] [(.int pi), (.ref ab)])) rfl rfl (hb hby d_m_3_12) _ k) ?_
      show own_Go p.tables e below _ (s₁.setTop (mkF m 13 #[.val (.ref ab), .val (.int pi), .val (.int ps), .val (.int pe)] [(.int xi)]))
      by_cases c3 : xi < (0 : Int32)
      ·
        refine own_up (fun _ k => XS.ifNo X0.here hx rfl (hb hby d_m_3_13) rfl ((if0 _ _).trans (tlt c3).2.1) k) ?_
        show own_Go p.tables e below _ (s₁.setTop (mkF m 16 #[.val (.ref ab), .val (.int pi), .val (.int ps), .val (.int pe)] []))
        refine own_up (fun _ k => XS.iconst X0.here hx rfl (hb hby d_m_3_16) k) ?_
        show own_Go p.tables e below _ (s₁.setTop (mkF m 17 #[.val (.ref ab), .val (.int pi), .val (.int ps), .val (.int pe)] [(.int (1 : Int32))]))
        refine own_up (fun _ k => XS.goto X0.here hx rfl (pc0 := 17) (pc' := 21) rfl (hb hby d_m_3_17) (by decide) (by decide) k) ?_
        show own_Go p.tables e below _ (s₁.setTop (mkF m 21 #[.val (.ref ab), .val (.int pi), .val (.int ps), .val (.int pe)] [(.int (1 : Int32))]))
        exact own_end X0 hlk (v := some (.int (1 : Int32))) (fun h => by rw [Bd.returns] at h; cases h) (fun fs hr => retN X0 hx (z := (1 : Int32)) (t := .boolean) Bd.returns (by simp) (hb hby d_m_3_21) hr) e0 ⟨by rw [if_pos ⟨c1, c2, c3⟩], N0, rfl⟩ (by decide) (by decide)
      ·
        refine own_up (fun _ k => XS.ifYes X0.here hx rfl (pc0 := 13) (pc' := 20) rfl (hb hby d_m_3_13) rfl ((if0 _ _).trans (flt c3).2.1) (by decide) (by decide) k) ?_
        show own_Go p.tables e below _ (s₁.setTop (mkF m 20 #[.val (.ref ab), .val (.int pi), .val (.int ps), .val (.int pe)] []))
        refine own_up (fun _ k => XS.iconst X0.here hx rfl (hb hby d_m_3_20) k) ?_
        show own_Go p.tables e below _ (s₁.setTop (mkF m 21 #[.val (.ref ab), .val (.int pi), .val (.int ps), .val (.int pe)] [(.int (0 : Int32))]))
        exact own_end X0 hlk (v := some (.int (0 : Int32))) (fun h => by rw [Bd.returns] at h; cases h) (fun fs hr => retN X0 hx (z := (0 : Int32)) (t := .boolean) Bd.returns (by simp) (hb hby d_m_3_21) hr) e0 ⟨by rw [if_neg (fun q => c3 q.2.2)], N0, rfl⟩ (by decide) (by decide)
    ·
      refine own_up (fun _ k => XS.icmpYes X0.here hx rfl (pc0 := 7) (pc' := 20) rfl (hb hby d_m_3_7) rfl (flt c2).2.1 (by decide) (by decide) k) ?_
      show own_Go p.tables e below _ (s₁.setTop (mkF m 20 #[.val (.ref ab), .val (.int pi), .val (.int ps), .val (.int pe)] []))
      refine own_up (fun _ k => XS.iconst X0.here hx rfl (hb hby d_m_3_20) k) ?_
      show own_Go p.tables e below _ (s₁.setTop (mkF m 21 #[.val (.ref ab), .val (.int pi), .val (.int ps), .val (.int pe)] [(.int (0 : Int32))]))
      exact own_end X0 hlk (v := some (.int (0 : Int32))) (fun h => by rw [Bd.returns] at h; cases h) (fun fs hr => retN X0 hx (z := (0 : Int32)) (t := .boolean) Bd.returns (by simp) (hb hby d_m_3_21) hr) e0 ⟨by rw [if_neg (fun q => c2 q.2.1)], N0, rfl⟩ (by decide) (by decide)
theorem d_prog_10_m_6_0 : decode prog_10_method_6_code 0 = .ok (.iload_n 1, 1) := by decide +kernel
theorem d_prog_10_m_6_1 : decode prog_10_method_6_code 1 = .ok (.istore_n 3, 1) := by decide +kernel
theorem d_prog_10_m_6_2 : decode prog_10_method_6_code 2 = .ok (.iload_n 3, 1) := by decide +kernel
theorem d_prog_10_m_6_3 : decode prog_10_method_6_code 3 = .ok (.iload_n 2, 1) := by decide +kernel
theorem d_prog_10_m_6_4 : decode prog_10_method_6_code 4 = .ok (.if_icmp .ge 17, 3) := by decide +kernel
theorem d_prog_10_m_6_21 : decode prog_10_method_6_code 21 = .ok (.iconst 1, 1) := by decide +kernel
theorem d_prog_10_m_6_22 : decode prog_10_method_6_code 22 = .ok (.ireturn, 1) := by decide +kernel
theorem d_prog_10_m_6_7 : decode prog_10_method_6_code 7 = .ok (.aload_n 0, 1) := by decide +kernel
theorem d_prog_10_m_6_8 : decode prog_10_method_6_code 8 = .ok (.iload_n 3, 1) := by decide +kernel
theorem d_prog_10_m_6_9 : decode prog_10_method_6_code 9 = .ok (.baload, 1) := by decide +kernel
theorem d_prog_10_m_6_10 : decode prog_10_method_6_code 10 = .ok (.ifCond .ge 5, 3) := by decide +kernel
theorem d_prog_10_m_6_13 : decode prog_10_method_6_code 13 = .ok (.iconst 0, 1) := by decide +kernel
theorem d_prog_10_m_6_14 : decode prog_10_method_6_code 14 = .ok (.ireturn, 1) := by decide +kernel
theorem d_prog_10_m_6_15 : decode prog_10_method_6_code 15 = .ok (.iinc 3 1, 3) := by decide +kernel
theorem d_prog_10_m_6_18 : decode prog_10_method_6_code 18 = .ok (.goto (-16), 3) := by decide +kernel
theorem own_pn1 : plainName "com/example/hoptrail/hoptrail/io/Utf8" = true := by first | (simp [plainName, overriddenIn]; done) | decide +kernel
theorem ef_rm2 (m : MethodId) (y0 : Addr) (y1 : Int32) (y2 : Int32) : entryFrame m #[(.ref y0), (.int y1), (.int y2)] 4 = mkF m 0 #[.val (.ref y0), .val (.int y1), .val (.int y2), .unset] [] := by first | (simp [entryFrame, mkF, argsToLocals, Value.category]; done) | rfl
def Q_rm2 (Z : State) (ab : Addr) (kb : ClassId) (x0 : Int32) (x1 : Int32) (x2 : Int32) (x3 : Int32) (ns : Nat) (ne : Nat) (h0 : Heap) (n0 : Nat) (v : Option Value) (h : Heap) (L : List Loc) : Prop := v = some (.int (if own_bad (Int32.ofNat ns) (Int32.ofNat ne) x0 x1 x2 x3 then (0 : Int32) else 1)) ∧ Fr n0 L ∧ h = h0
set_option maxRecDepth 65536 in
set_option maxHeartbeats 40000000 in
theorem rm2 (l : Launch) (Z : State) (a0 : Array Value) (hw : ∀ d ∈ tables_1, d.before a0 Z = true) (ws : List Jvm.Cond) (ab : Addr) (kb : ClassId) (x0 : Int32) (x1 : Int32) (x2 : Int32) (x3 : Int32) (ns : Nat) (ne : Nat) (h0 : Heap) (n0 : Nat) (Z0 : n0 ≤ h0.size) (V : Arv Z h0 ab kb .byte (4 : Int32) [(.int x0), (.int x1), (.int x2), (.int x3)] (.int (0 : Int32))) (hs : ns ≤ 4) (he : ne ≤ 4) (hse : ns ≤ ne) :
    MetFree l (⟨"com/example/hoptrail/hoptrail/io/Utf8", "isAscii", "([BII)Z"⟩ : MethodName) (head1 (Jvm.Cond.code (⟨"com/example/hoptrail/hoptrail/io/Utf8", "isAscii", "([BII)Z"⟩ : MethodName) prog_10_method_6_code 4 (some .boolean) :: ws) ({ frames := 0, cells := 0, slots := 0, locals := 0 } : Room)) (fun ar U => ar = #[(.ref ab), (.int (Int32.ofNat ns)), (.int (Int32.ofNat ne))] ∧ Z.Warmed39 U.vm ∧ U.heap = h0) (fun _ _ _ _ _ => True) (fun _ U o U' => ∃ v L, o = .returned v ∧ Q_rm2 Z ab kb x0 x1 x2 x3 ns ne h0 n0 v U'.heap L ∧ FrameEnd U o U' L ({ frames := 0, cells := 0, slots := 0, locals := 0 } : Room).cells ({ frames := 0, cells := 0, slots := 0, locals := 0 } : Room).slots) := by
  refine MetFree.of_bodySF (plainFor_of_name own_pn1) hisR ?_
  intro p e s m args below meth c s₁ Bd hml0 hP hK
  obtain ⟨rfl, hZ, hh⟩ := hP
  have hx := Bd.exec
  have hby := Bd.bytes
  have hlk : meth.locks = false := BodyLoose.notSynchronized Bd
  have hml : c.maxLocals = 4 := hml0
  have hown : s.vm.findClass "com/example/hoptrail/hoptrail/io/Utf8" = some m.cls := findClass_of_methodNamed Bd.named
  have hnm := (name_of_methodNamed Bd.named Bd.method).1
  have X0 : Stand p l e ({ frames := 0, cells := 0, slots := 0, locals := 0 } : Room) s m #[(.ref ab), (.int (Int32.ofNat ns)), (.int (Int32.ofNat ne))] below meth c s₁ [] 0 0 := Stand.of_body Bd
  have e0 : s₁.heap = h0 := by rw [← hh, Bd.state]; rfl
  have N0 := Fr.nil n0
  show own_Go p.tables e below (fun u o => ∃ v L, o = .returned v ∧ Q_rm2 Z ab kb x0 x1 x2 x3 ns ne h0 n0 v u.heap L ∧ FrameEnd s o u L ({ frames := 0, cells := 0, slots := 0, locals := 0 } : Room).cells ({ frames := 0, cells := 0, slots := 0, locals := 0 } : Room).slots) (s₁.setTop (entryFrame m #[(.ref ab), (.int (Int32.ofNat ns)), (.int (Int32.ofNat ne))] 4))
  refine own_up (fun _ k => castTop (ef_rm2 m ab (Int32.ofNat ns) (Int32.ofNat ne)) k) ?_
  show own_Go p.tables e below _ (s₁.setTop (mkF m 0 #[.val (.ref ab), .val (.int (Int32.ofNat ns)), .val (.int (Int32.ofNat ne)), .unset] []))
  refine own_up (fun _ k => XS.iloadN X0.here hx rfl (hb hby d_prog_10_m_6_0) rfl k) ?_
  show own_Go p.tables e below _ (s₁.setTop (mkF m 1 #[.val (.ref ab), .val (.int (Int32.ofNat ns)), .val (.int (Int32.ofNat ne)), .unset] [(.int (Int32.ofNat ns))]))
  refine own_up (fun _ k => XS.istoreN X0.here hx rfl (hb hby d_prog_10_m_6_1) rfl (l' := #[.val (.ref ab), .val (.int (Int32.ofNat ns)), .val (.int (Int32.ofNat ne)), .val (.int (Int32.ofNat ns))]) rfl k) ?_
  show own_Go p.tables e below _ (s₁.setTop (mkF m 2 #[.val (.ref ab), .val (.int (Int32.ofNat ns)), .val (.int (Int32.ofNat ne)), .val (.int (Int32.ofNat ns))] []))
  have loop : ∀ (k i : Nat) (hk : i + k = ne) (hi : ns ≤ i) (Tt1 : State) (Lt1 : List Loc) (Xt1 : Stand p l e ({ frames := 0, cells := 0, slots := 0, locals := 0 } : Room) s m #[(.ref ab), (.int (Int32.ofNat ns)), (.int (Int32.ofNat ne))] below meth c Tt1 Lt1 0 0) (et1 : Tt1.heap = h0) (Nt1 : Fr n0 Lt1) (hg : ∀ j, ns ≤ j → j < i → ¬ [x0, x1, x2, x3].getD j 0 < 0), own_Go p.tables e below (fun u o => ∃ v L, o = .returned v ∧ Q_rm2 Z ab kb x0 x1 x2 x3 ns ne h0 n0 v u.heap L ∧ FrameEnd s o u L ({ frames := 0, cells := 0, slots := 0, locals := 0 } : Room).cells ({ frames := 0, cells := 0, slots := 0, locals := 0 } : Room).slots) (Tt1.setTop (mkF m 2 #[.val (.ref ab), .val (.int (Int32.ofNat ns)), .val (.int (Int32.ofNat ne)), .val (.int (Int32.ofNat i))] [])) := by
    intro k
    induction k with
    | zero =>
      intro i hk hi Tt1 Lt1 Xt1 et1 Nt1 hg
      have hie : i = ne := by omega
      refine own_up (fun _ k => XS.iloadN Xt1.here hx rfl (hb hby d_prog_10_m_6_2) rfl k) ?_
      show own_Go p.tables e below _ (Tt1.setTop (mkF m 3 #[.val (.ref ab), .val (.int (Int32.ofNat ns)), .val (.int (Int32.ofNat ne)), .val (.int (Int32.ofNat i))] [(.int (Int32.ofNat i))]))
      refine own_up (fun _ k => XS.iloadN Xt1.here hx rfl (hb hby d_prog_10_m_6_3) rfl k) ?_
      show own_Go p.tables e below _ (Tt1.setTop (mkF m 4 #[.val (.ref ab), .val (.int (Int32.ofNat ns)), .val (.int (Int32.ofNat ne)), .val (.int (Int32.ofNat i))] [(.int (Int32.ofNat ne)), (.int (Int32.ofNat i))]))
      refine own_up (fun _ k => XS.icmpYes Xt1.here hx rfl (pc0 := 4) (pc' := 21) rfl (hb hby d_prog_10_m_6_4) rfl (flt (by rw [hie]; exact Int32.lt_irrefl)).2.1 (by decide) (by decide) k) ?_
      show own_Go p.tables e below _ (Tt1.setTop (mkF m 21 #[.val (.ref ab), .val (.int (Int32.ofNat ns)), .val (.int (Int32.ofNat ne)), .val (.int (Int32.ofNat i))] []))
      refine own_up (fun _ k => XS.iconst Xt1.here hx rfl (hb hby d_prog_10_m_6_21) k) ?_
      show own_Go p.tables e below _ (Tt1.setTop (mkF m 22 #[.val (.ref ab), .val (.int (Int32.ofNat ns)), .val (.int (Int32.ofNat ne)), .val (.int (Int32.ofNat i))] [(.int (1 : Int32))]))
      exact own_end Xt1 hlk (v := some (.int (1 : Int32))) (fun h => by rw [Bd.returns] at h; cases h) (fun fs hr => retN Xt1 hx (z := (1 : Int32)) (t := .boolean) Bd.returns (by simp) (hb hby d_prog_10_m_6_22) hr) et1 ⟨by rw [if_neg (own_good hs he (hie ▸ hg))], Nt1, rfl⟩ (by decide) (by decide)
    | succ k ih =>
      intro i hk hi Tt1 Lt1 Xt1 et1 Nt1 hg
      refine own_up (fun _ k => XS.iloadN Xt1.here hx rfl (hb hby d_prog_10_m_6_2) rfl k) ?_
      show own_Go p.tables e below _ (Tt1.setTop (mkF m 3 #[.val (.ref ab), .val (.int (Int32.ofNat ns)), .val (.int (Int32.ofNat ne)), .val (.int (Int32.ofNat i))] [(.int (Int32.ofNat i))]))
      refine own_up (fun _ k => XS.iloadN Xt1.here hx rfl (hb hby d_prog_10_m_6_3) rfl k) ?_
      show own_Go p.tables e below _ (Tt1.setTop (mkF m 4 #[.val (.ref ab), .val (.int (Int32.ofNat ns)), .val (.int (Int32.ofNat ne)), .val (.int (Int32.ofNat i))] [(.int (Int32.ofNat ne)), (.int (Int32.ofNat i))]))
      refine own_up (fun _ k => XS.icmpNo Xt1.here hx rfl (hb hby d_prog_10_m_6_4) rfl (tlt ((own_ltn (by omega) (by omega)).mpr (by omega))).2.1 k) ?_
      show own_Go p.tables e below _ (Tt1.setTop (mkF m 7 #[.val (.ref ab), .val (.int (Int32.ofNat ns)), .val (.int (Int32.ofNat ne)), .val (.int (Int32.ofNat i))] []))
      refine own_up (fun _ k => XS.aloadN Xt1.here hx rfl (hb hby d_prog_10_m_6_7) rfl rfl k) ?_
      show own_Go p.tables e below _ (Tt1.setTop (mkF m 8 #[.val (.ref ab), .val (.int (Int32.ofNat ns)), .val (.int (Int32.ofNat ne)), .val (.int (Int32.ofNat i))] [(.ref ab)]))
      refine own_up (fun _ k => XS.iloadN Xt1.here hx rfl (hb hby d_prog_10_m_6_8) rfl k) ?_
      show own_Go p.tables e below _ (Tt1.setTop (mkF m 9 #[.val (.ref ab), .val (.int (Int32.ofNat ns)), .val (.int (Int32.ofNat ne)), .val (.int (Int32.ofNat i))] [(.int (Int32.ofNat i)), (.ref ab)]))
      obtain ⟨cl2_, Ar2, q2, S2, M2, Hs2, G2⟩ := V
      have hin3 : ¬ ((Int32.ofNat i) < 0 ∨ cl2_.slots.size ≤ ((Int32.ofNat i)).toNatClampNeg) := inb_of S2 ⟨own_nonneg (by omega), (own_ltn (n := 4) (by omega) (by omega)).mpr (by omega)⟩
      have hat3 : cl2_.slots[((Int32.ofNat i)).toNatClampNeg]? = some (.int ([x0, x1, x2, x3].getD i 0)) := Has.at Hs2 hin3 (own_at x0 x1 x2 x3 (by omega))
      refine own_up (fun _ k => Xt1.baloadBytes hx (j := (Int32.ofNat i)) (v := (.int ([x0, x1, x2, x3].getD i 0))) (by rw [et1]; exact Ar2.1) (State.isArrayOf_alike hZ.alike Ar2.2.1) Ar2.2.2 hin3 hat3 (g := (mkF m 9 #[.val (.ref ab), .val (.int (Int32.ofNat ns)), .val (.int (Int32.ofNat ne)), .val (.int (Int32.ofNat i))] [(.int (Int32.ofNat i)), (.ref ab)])) rfl rfl (hb hby d_prog_10_m_6_9) _ k) ?_
      show own_Go p.tables e below _ (Tt1.setTop (mkF m 10 #[.val (.ref ab), .val (.int (Int32.ofNat ns)), .val (.int (Int32.ofNat ne)), .val (.int (Int32.ofNat i))] [(.int ([x0, x1, x2, x3].getD i 0))]))
      by_cases c3 : ([x0, x1, x2, x3].getD i 0) < (0 : Int32)
      ·
        refine own_up (fun _ k => XS.ifNo Xt1.here hx rfl (hb hby d_prog_10_m_6_10) rfl ((if0 _ _).trans (tlt c3).2.1) k) ?_
        show own_Go p.tables e below _ (Tt1.setTop (mkF m 13 #[.val (.ref ab), .val (.int (Int32.ofNat ns)), .val (.int (Int32.ofNat ne)), .val (.int (Int32.ofNat i))] []))
        refine own_up (fun _ k => XS.iconst Xt1.here hx rfl (hb hby d_prog_10_m_6_13) k) ?_
        show own_Go p.tables e below _ (Tt1.setTop (mkF m 14 #[.val (.ref ab), .val (.int (Int32.ofNat ns)), .val (.int (Int32.ofNat ne)), .val (.int (Int32.ofNat i))] [(.int (0 : Int32))]))
        exact own_end Xt1 hlk (v := some (.int (0 : Int32))) (fun h => by rw [Bd.returns] at h; cases h) (fun fs hr => retN Xt1 hx (z := (0 : Int32)) (t := .boolean) Bd.returns (by simp) (hb hby d_prog_10_m_6_14) hr) et1 ⟨by rw [if_pos (own_evil he hi (by omega) c3)], Nt1, rfl⟩ (by decide) (by decide)
      ·
        refine own_up (fun _ k => XS.ifYes Xt1.here hx rfl (pc0 := 10) (pc' := 15) rfl (hb hby d_prog_10_m_6_10) rfl ((if0 _ _).trans (flt c3).2.1) (by decide) (by decide) k) ?_
        show own_Go p.tables e below _ (Tt1.setTop (mkF m 15 #[.val (.ref ab), .val (.int (Int32.ofNat ns)), .val (.int (Int32.ofNat ne)), .val (.int (Int32.ofNat i))] []))
        refine own_up (fun _ k => XS.iinc Xt1.here hx rfl (hb hby d_prog_10_m_6_15) rfl (l' := #[.val (.ref ab), .val (.int (Int32.ofNat ns)), .val (.int (Int32.ofNat ne)), .val (.int ((Int32.ofNat i) + (1 : Int32)))]) rfl k) ?_
        show own_Go p.tables e below _ (Tt1.setTop (mkF m 18 #[.val (.ref ab), .val (.int (Int32.ofNat ns)), .val (.int (Int32.ofNat ne)), .val (.int ((Int32.ofNat i) + (1 : Int32)))] []))
        rw [own_one]
        show own_Go p.tables e below _ (Tt1.setTop (mkF m 18 #[.val (.ref ab), .val (.int (Int32.ofNat ns)), .val (.int (Int32.ofNat ne)), .val (.int (Int32.ofNat (i + 1)))] []))
        refine own_up (fun _ k => XS.goto Xt1.here hx rfl (pc0 := 18) (pc' := 2) rfl (hb hby d_prog_10_m_6_18) (by decide) (by decide) k) ?_
        show own_Go p.tables e below _ (Tt1.setTop (mkF m 2 #[.val (.ref ab), .val (.int (Int32.ofNat ns)), .val (.int (Int32.ofNat ne)), .val (.int (Int32.ofNat (i + 1)))] []))
        refine ih (i + 1) (by omega) (by omega) _ _ Xt1 et1 Nt1 (fun j h1 h2 => ?_)
        rcases Nat.lt_or_eq_of_le (Nat.lt_succ_iff.mp h2) with h3 | h3
        · exact hg j h1 h3
        · subst h3; exact c3
  exact loop (ne - ns) ns (by omega) (by omega) _ _ X0 e0 N0 (fun j h1 h2 => by omega)
theorem own_pd0 : parseMethodDescriptor "([BII)Z" = some ⟨[(.array .byte), .int, .int], some .boolean⟩ := by decide +kernel
theorem own_pd1 : parseMethodDescriptor "([BIII)Z" = some ⟨[(.array .byte), .int, .int, .int], some .boolean⟩ := by decide +kernel
theorem ef_rm0 (m : MethodId) (y0 : Int32) (y1 : Int32) (y2 : Int32) : entryFrame m #[(.int y0), (.int y1), (.int y2)] maxLocals = mkF m 0 #[.val (.int y0), .val (.int y1), .val (.int y2), .unset, .unset, .unset, .unset, .unset] [] := by first | (simp [entryFrame, mkF, argsToLocals, Value.category, maxLocals]; done) | rfl
def Q_rm0 (Z : State) (p0 : Int32) (p1 : Int32) (p2 : Int32) (h0 : Heap) (n0 : Nat) (v : Option Value) (h : Heap) (L : List Loc) : Prop := v = some (.int (1 : Int32)) ∧ Fr n0 L
set_option maxRecDepth 65536 in
set_option maxHeartbeats 40000000 in
theorem rm0 (l : Launch) (Z : State) (a0 : Array Value) (hw : ∀ d ∈ tables_1, d.before a0 Z = true) (ws : List Jvm.Cond) (p0 : Int32) (p1 : Int32) (p2 : Int32) (h0 : Heap) (n0 : Nat) (Z0 : n0 ≤ h0.size) :
    MetFree l x (head1 (Jvm.Cond.code x code maxLocals ret :: ws) room_1) (fun ar U => ar = #[(.int p0), (.int p1), (.int p2)] ∧ Z.Warmed39 U.vm ∧ U.heap = h0) (fun _ _ _ _ _ => True) (fun _ U o U' => ∃ v L, o = .returned v ∧ Q_rm0 Z p0 p1 p2 h0 n0 v U'.heap L ∧ FrameEnd U o U' L room_1.cells room_1.slots) := by
  refine MetFree.of_bodySF (plainFor_of_name own_pn0) hisR ?_
  intro p e s m args below meth c s₁ Bd hml0 hP hK
  obtain ⟨rfl, hZ, hh⟩ := hP
  have hx := Bd.exec
  have hby := Bd.bytes
  have hlk : meth.locks = false := BodyLoose.notSynchronized Bd
  have hml : c.maxLocals = 8 := hml0
  have hown : s.vm.findClass "com/example/hoptrail/hoptrail/io/Utf8IsAsciiPinLaw" = some m.cls := findClass_of_methodNamed Bd.named
  have hnm := (name_of_methodNamed Bd.named Bd.method).1
  have X0 : Stand p l e room_1 s m #[(.int p0), (.int p1), (.int p2)] below meth c s₁ [] 0 0 := Stand.of_body Bd
  have e0 : s₁.heap = h0 := by rw [← hh, Bd.state]; rfl
  have N0 := Fr.nil n0
  show own_Go p.tables e below (fun u o => ∃ v L, o = .returned v ∧ Q_rm0 Z p0 p1 p2 h0 n0 v u.heap L ∧ FrameEnd s o u L room_1.cells room_1.slots) (s₁.setTop (entryFrame m #[(.int p0), (.int p1), (.int p2)] maxLocals))
  refine own_up (fun _ k => castTop (ef_rm0 m p0 p1 p2) k) ?_
  show own_Go p.tables e below _ (s₁.setTop (mkF m 0 #[.val (.int p0), .val (.int p1), .val (.int p2), .unset, .unset, .unset, .unset, .unset] []))
  obtain ⟨ns, hns, es⟩ := own_start p1
  obtain ⟨ne, hse, hne, ee⟩ := own_stop p2 hns
  refine own_up (fun _ k => XS.iconst X0.here hx rfl (hb hby at_0) k) ?_
  show own_Go p.tables e below _ (s₁.setTop (mkF m 1 #[.val (.int p0), .val (.int p1), .val (.int p2), .unset, .unset, .unset, .unset, .unset] [(.int (4 : Int32))]))
  obtain ⟨T1, h1, k1, X1, e1, E1, A1, st1⟩ := newP X0 hx hZ (hw _ (List.mem_of_getElem? (i := 0) rfl)) e0 (g := (mkF m 1 #[.val (.int p0), .val (.int p1), .val (.int p2), .unset, .unset, .unset, .unset, .unset] [(.int (4 : Int32))])) rfl (hb hby at_1) rfl (by decide) (cap := 4) (by decide) (by decide) (by decide) (by decide)
  obtain ⟨b1, g1⟩ : ∃ z, z = h0.size := ⟨_, rfl⟩
  rw [← g1] at A1 st1
  have ge1 : n0 ≤ b1 := Nat.le_trans Z0 (Nat.le_of_eq g1.symm)
  refine own_up st1 ?_
  have V1 : Arv Z h1 b1 k1 .byte (4 : Int32) [(.int (0 : Int32)), (.int (0 : Int32)), (.int (0 : Int32)), (.int (0 : Int32))] (.int (0 : Int32)) := (Arv.new A1 (by decide)).pad (pad_rep [] (.int (0 : Int32)) 4)
  show own_Go p.tables e below _ (T1.setTop (mkF m 3 #[.val (.int p0), .val (.int p1), .val (.int p2), .unset, .unset, .unset, .unset, .unset] [(.ref b1)]))
  refine own_up (fun _ k => XS.astoreN X1.here hx rfl (hb hby at_3) rfl rfl (l' := #[.val (.int p0), .val (.int p1), .val (.int p2), .val (.ref b1), .unset, .unset, .unset, .unset]) rfl k) ?_
  show own_Go p.tables e below _ (T1.setTop (mkF m 4 #[.val (.int p0), .val (.int p1), .val (.int p2), .val (.ref b1), .unset, .unset, .unset, .unset] []))
  refine own_up (fun _ k => XS.aloadN X1.here hx rfl (hb hby at_4) rfl rfl k) ?_
  show own_Go p.tables e below _ (T1.setTop (mkF m 5 #[.val (.int p0), .val (.int p1), .val (.int p2), .val (.ref b1), .unset, .unset, .unset, .unset] [(.ref b1)]))
  refine own_up (fun _ k => XS.iconst X1.here hx rfl (hb hby at_5) k) ?_
  show own_Go p.tables e below _ (T1.setTop (mkF m 6 #[.val (.int p0), .val (.int p1), .val (.int p2), .val (.ref b1), .unset, .unset, .unset, .unset] [(.int (0 : Int32)), (.ref b1)]))
  refine own_up (fun _ k => XS.iloadN X1.here hx rfl (hb hby at_6) rfl k) ?_
  show own_Go p.tables e below _ (T1.setTop (mkF m 7 #[.val (.int p0), .val (.int p1), .val (.int p2), .val (.ref b1), .unset, .unset, .unset, .unset] [(.int p0), (.int (0 : Int32)), (.ref b1)]))
  refine own_up (fun _ k => XS.i2b X1.here hx rfl (hb hby at_7) rfl k) ?_
  show own_Go p.tables e below _ (T1.setTop (mkF m 8 #[.val (.int p0), .val (.int p1), .val (.int p2), .val (.ref b1), .unset, .unset, .unset, .unset] [(.int (p0.toInt8.toInt32)), (.int (0 : Int32)), (.ref b1)]))
  obtain ⟨cl2_, Ar2, q2, S2, M2, Hs2, G2⟩ := V1
  have hin3 : ¬ ((0 : Int32) < 0 ∨ cl2_.slots.size ≤ ((0 : Int32)).toNatClampNeg) := inb_of S2 ⟨by decide, by decide⟩
  obtain ⟨T3, h3, X3, e3, W3, st3⟩ := stB X1 hx hZ e1 Ar2 (j := (0 : Int32)) hin3 (g := (mkF m 8 #[.val (.int p0), .val (.int p1), .val (.int p2), .val (.ref b1), .unset, .unset, .unset, .unset] [(.int (p0.toInt8.toInt32)), (.int (0 : Int32)), (.ref b1)])) rfl rfl (hb hby at_8)
  have V3 : Arv Z h3 b1 k1 .byte (4 : Int32) [(.int (nar .byte (p0.toInt8.toInt32))), (.int (0 : Int32)), (.int (0 : Int32)), (.int (0 : Int32))] (.int (0 : Int32)) := Arv.set Ar2 q2 S2 M2 Hs2 G2 (fits_nar_byte _) W3 0 rfl (Nat.le_of_ble_eq_true rfl)
  have N3 := Fr.snoc X3 N0 ge1
  refine own_up st3 ?_
  show own_Go p.tables e below _ (T3.setTop (mkF m 9 #[.val (.int p0), .val (.int p1), .val (.int p2), .val (.ref b1), .unset, .unset, .unset, .unset] []))
  refine own_up (fun _ k => XS.aloadN X3.here hx rfl (hb hby at_9) rfl rfl k) ?_
  show own_Go p.tables e below _ (T3.setTop (mkF m 10 #[.val (.int p0), .val (.int p1), .val (.int p2), .val (.ref b1), .unset, .unset, .unset, .unset] [(.ref b1)]))
  refine own_up (fun _ k => XS.iconst X3.here hx rfl (hb hby at_10) k) ?_
  show own_Go p.tables e below _ (T3.setTop (mkF m 11 #[.val (.int p0), .val (.int p1), .val (.int p2), .val (.ref b1), .unset, .unset, .unset, .unset] [(.int (1 : Int32)), (.ref b1)]))
  refine own_up (fun _ k => XS.iloadN X3.here hx rfl (hb hby at_11) rfl k) ?_
  show own_Go p.tables e below _ (T3.setTop (mkF m 12 #[.val (.int p0), .val (.int p1), .val (.int p2), .val (.ref b1), .unset, .unset, .unset, .unset] [(.int p0), (.int (1 : Int32)), (.ref b1)]))
  refine own_up (fun _ k => XS.bipush X3.here hx rfl (hb hby at_12) k) ?_
  show own_Go p.tables e below _ (T3.setTop (mkF m 14 #[.val (.int p0), .val (.int p1), .val (.int p2), .val (.ref b1), .unset, .unset, .unset, .unset] [(.int (8 : Int32)), (.int p0), (.int (1 : Int32)), (.ref b1)]))
  refine own_up (fun _ k => XS.iushr X3.here hx rfl (hb hby at_14) rfl k) ?_
  show own_Go p.tables e below _ (T3.setTop (mkF m 15 #[.val (.int p0), .val (.int p1), .val (.int p2), .val (.ref b1), .unset, .unset, .unset, .unset] [(.int ((p0.toUInt32 >>> ((8 : Int32) &&& 31).toUInt32).toInt32)), (.int (1 : Int32)), (.ref b1)]))
  refine own_up (fun _ k => XS.i2b X3.here hx rfl (hb hby at_15) rfl k) ?_
  show own_Go p.tables e below _ (T3.setTop (mkF m 16 #[.val (.int p0), .val (.int p1), .val (.int p2), .val (.ref b1), .unset, .unset, .unset, .unset] [(.int (((p0.toUInt32 >>> ((8 : Int32) &&& 31).toUInt32).toInt32).toInt8.toInt32)), (.int (1 : Int32)), (.ref b1)]))
  obtain ⟨cl4_, Ar4, q4, S4, M4, Hs4, G4⟩ := V3
  have hin5 : ¬ ((1 : Int32) < 0 ∨ cl4_.slots.size ≤ ((1 : Int32)).toNatClampNeg) := inb_of S4 ⟨by decide, by decide⟩
  obtain ⟨T5, h5, X5, e5, W5, st5⟩ := stB X3 hx hZ e3 Ar4 (j := (1 : Int32)) hin5 (g := (mkF m 16 #[.val (.int p0), .val (.int p1), .val (.int p2), .val (.ref b1), .unset, .unset, .unset, .unset] [(.int (((p0.toUInt32 >>> ((8 : Int32) &&& 31).toUInt32).toInt32).toInt8.toInt32)), (.int (1 : Int32)), (.ref b1)])) rfl rfl (hb hby at_16)
  have V5 : Arv Z h5 b1 k1 .byte (4 : Int32) [(.int (nar .byte (p0.toInt8.toInt32))), (.int (nar .byte (((p0.toUInt32 >>> ((8 : Int32) &&& 31).toUInt32).toInt32).toInt8.toInt32))), (.int (0 : Int32)), (.int (0 : Int32))] (.int (0 : Int32)) := Arv.set Ar4 q4 S4 M4 Hs4 G4 (fits_nar_byte _) W5 1 rfl (Nat.le_of_ble_eq_true rfl)
  have N5 := Fr.snoc X5 N3 ge1
  refine own_up st5 ?_
  show own_Go p.tables e below _ (T5.setTop (mkF m 17 #[.val (.int p0), .val (.int p1), .val (.int p2), .val (.ref b1), .unset, .unset, .unset, .unset] []))
  refine own_up (fun _ k => XS.aloadN X5.here hx rfl (hb hby at_17) rfl rfl k) ?_
  show own_Go p.tables e below _ (T5.setTop (mkF m 18 #[.val (.int p0), .val (.int p1), .val (.int p2), .val (.ref b1), .unset, .unset, .unset, .unset] [(.ref b1)]))
  refine own_up (fun _ k => XS.iconst X5.here hx rfl (hb hby at_18) k) ?_
  show own_Go p.tables e below _ (T5.setTop (mkF m 19 #[.val (.int p0), .val (.int p1), .val (.int p2), .val (.ref b1), .unset, .unset, .unset, .unset] [(.int (2 : Int32)), (.ref b1)]))
  refine own_up (fun _ k => XS.iloadN X5.here hx rfl (hb hby at_19) rfl k) ?_
  show own_Go p.tables e below _ (T5.setTop (mkF m 20 #[.val (.int p0), .val (.int p1), .val (.int p2), .val (.ref b1), .unset, .unset, .unset, .unset] [(.int p0), (.int (2 : Int32)), (.ref b1)]))
  refine own_up (fun _ k => XS.bipush X5.here hx rfl (hb hby at_20) k) ?_
  show own_Go p.tables e below _ (T5.setTop (mkF m 22 #[.val (.int p0), .val (.int p1), .val (.int p2), .val (.ref b1), .unset, .unset, .unset, .unset] [(.int (16 : Int32)), (.int p0), (.int (2 : Int32)), (.ref b1)]))
  refine own_up (fun _ k => XS.iushr X5.here hx rfl (hb hby at_22) rfl k) ?_
  show own_Go p.tables e below _ (T5.setTop (mkF m 23 #[.val (.int p0), .val (.int p1), .val (.int p2), .val (.ref b1), .unset, .unset, .unset, .unset] [(.int ((p0.toUInt32 >>> ((16 : Int32) &&& 31).toUInt32).toInt32)), (.int (2 : Int32)), (.ref b1)]))
  refine own_up (fun _ k => XS.i2b X5.here hx rfl (hb hby at_23) rfl k) ?_
  show own_Go p.tables e below _ (T5.setTop (mkF m 24 #[.val (.int p0), .val (.int p1), .val (.int p2), .val (.ref b1), .unset, .unset, .unset, .unset] [(.int (((p0.toUInt32 >>> ((16 : Int32) &&& 31).toUInt32).toInt32).toInt8.toInt32)), (.int (2 : Int32)), (.ref b1)]))
  obtain ⟨cl6_, Ar6, q6, S6, M6, Hs6, G6⟩ := V5
  have hin7 : ¬ ((2 : Int32) < 0 ∨ cl6_.slots.size ≤ ((2 : Int32)).toNatClampNeg) := inb_of S6 ⟨by decide, by decide⟩
  obtain ⟨T7, h7, X7, e7, W7, st7⟩ := stB X5 hx hZ e5 Ar6 (j := (2 : Int32)) hin7 (g := (mkF m 24 #[.val (.int p0), .val (.int p1), .val (.int p2), .val (.ref b1), .unset, .unset, .unset, .unset] [(.int (((p0.toUInt32 >>> ((16 : Int32) &&& 31).toUInt32).toInt32).toInt8.toInt32)), (.int (2 : Int32)), (.ref b1)])) rfl rfl (hb hby at_24)
  have V7 : Arv Z h7 b1 k1 .byte (4 : Int32) [(.int (nar .byte (p0.toInt8.toInt32))), (.int (nar .byte (((p0.toUInt32 >>> ((8 : Int32) &&& 31).toUInt32).toInt32).toInt8.toInt32))), (.int (nar .byte (((p0.toUInt32 >>> ((16 : Int32) &&& 31).toUInt32).toInt32).toInt8.toInt32))), (.int (0 : Int32))] (.int (0 : Int32)) := Arv.set Ar6 q6 S6 M6 Hs6 G6 (fits_nar_byte _) W7 2 rfl (Nat.le_of_ble_eq_true rfl)
  have N7 := Fr.snoc X7 N5 ge1
  refine own_up st7 ?_
  show own_Go p.tables e below _ (T7.setTop (mkF m 25 #[.val (.int p0), .val (.int p1), .val (.int p2), .val (.ref b1), .unset, .unset, .unset, .unset] []))
  refine own_up (fun _ k => XS.aloadN X7.here hx rfl (hb hby at_25) rfl rfl k) ?_
  show own_Go p.tables e below _ (T7.setTop (mkF m 26 #[.val (.int p0), .val (.int p1), .val (.int p2), .val (.ref b1), .unset, .unset, .unset, .unset] [(.ref b1)]))
  refine own_up (fun _ k => XS.iconst X7.here hx rfl (hb hby at_26) k) ?_
  show own_Go p.tables e below _ (T7.setTop (mkF m 27 #[.val (.int p0), .val (.int p1), .val (.int p2), .val (.ref b1), .unset, .unset, .unset, .unset] [(.int (3 : Int32)), (.ref b1)]))
  refine own_up (fun _ k => XS.iloadN X7.here hx rfl (hb hby at_27) rfl k) ?_
  show own_Go p.tables e below _ (T7.setTop (mkF m 28 #[.val (.int p0), .val (.int p1), .val (.int p2), .val (.ref b1), .unset, .unset, .unset, .unset] [(.int p0), (.int (3 : Int32)), (.ref b1)]))
  refine own_up (fun _ k => XS.bipush X7.here hx rfl (hb hby at_28) k) ?_
  show own_Go p.tables e below _ (T7.setTop (mkF m 30 #[.val (.int p0), .val (.int p1), .val (.int p2), .val (.ref b1), .unset, .unset, .unset, .unset] [(.int (24 : Int32)), (.int p0), (.int (3 : Int32)), (.ref b1)]))
  refine own_up (fun _ k => XS.iushr X7.here hx rfl (hb hby at_30) rfl k) ?_
  show own_Go p.tables e below _ (T7.setTop (mkF m 31 #[.val (.int p0), .val (.int p1), .val (.int p2), .val (.ref b1), .unset, .unset, .unset, .unset] [(.int ((p0.toUInt32 >>> ((24 : Int32) &&& 31).toUInt32).toInt32)), (.int (3 : Int32)), (.ref b1)]))
  refine own_up (fun _ k => XS.i2b X7.here hx rfl (hb hby at_31) rfl k) ?_
  show own_Go p.tables e below _ (T7.setTop (mkF m 32 #[.val (.int p0), .val (.int p1), .val (.int p2), .val (.ref b1), .unset, .unset, .unset, .unset] [(.int (((p0.toUInt32 >>> ((24 : Int32) &&& 31).toUInt32).toInt32).toInt8.toInt32)), (.int (3 : Int32)), (.ref b1)]))
  obtain ⟨cl8_, Ar8, q8, S8, M8, Hs8, G8⟩ := V7
  have hin9 : ¬ ((3 : Int32) < 0 ∨ cl8_.slots.size ≤ ((3 : Int32)).toNatClampNeg) := inb_of S8 ⟨by decide, by decide⟩
  obtain ⟨T9, h9, X9, e9, W9, st9⟩ := stB X7 hx hZ e7 Ar8 (j := (3 : Int32)) hin9 (g := (mkF m 32 #[.val (.int p0), .val (.int p1), .val (.int p2), .val (.ref b1), .unset, .unset, .unset, .unset] [(.int (((p0.toUInt32 >>> ((24 : Int32) &&& 31).toUInt32).toInt32).toInt8.toInt32)), (.int (3 : Int32)), (.ref b1)])) rfl rfl (hb hby at_32)
  have V9 : Arv Z h9 b1 k1 .byte (4 : Int32) [(.int (nar .byte (p0.toInt8.toInt32))), (.int (nar .byte (((p0.toUInt32 >>> ((8 : Int32) &&& 31).toUInt32).toInt32).toInt8.toInt32))), (.int (nar .byte (((p0.toUInt32 >>> ((16 : Int32) &&& 31).toUInt32).toInt32).toInt8.toInt32))), (.int (nar .byte (((p0.toUInt32 >>> ((24 : Int32) &&& 31).toUInt32).toInt32).toInt8.toInt32)))] (.int (0 : Int32)) := Arv.set Ar8 q8 S8 M8 Hs8 G8 (fits_nar_byte _) W9 3 rfl (Nat.le_of_ble_eq_true rfl)
  have N9 := Fr.snoc X9 N7 ge1
  refine own_up st9 ?_
  show own_Go p.tables e below _ (T9.setTop (mkF m 33 #[.val (.int p0), .val (.int p1), .val (.int p2), .val (.ref b1), .unset, .unset, .unset, .unset] []))
  refine own_up (fun _ k => XS.iloadN X9.here hx rfl (hb hby at_33) rfl k) ?_
  show own_Go p.tables e below _ (T9.setTop (mkF m 34 #[.val (.int p0), .val (.int p1), .val (.int p2), .val (.ref b1), .unset, .unset, .unset, .unset] [(.int p1)]))
  refine own_up (fun _ k => XS.bipush X9.here hx rfl (hb hby at_34) k) ?_
  show own_Go p.tables e below _ (T9.setTop (mkF m 36 #[.val (.int p0), .val (.int p1), .val (.int p2), .val (.ref b1), .unset, .unset, .unset, .unset] [(.int (7 : Int32)), (.int p1)]))
  refine own_up (fun _ k => XS.iand X9.here hx rfl (hb hby at_36) rfl k) ?_
  show own_Go p.tables e below _ (T9.setTop (mkF m 37 #[.val (.int p0), .val (.int p1), .val (.int p2), .val (.ref b1), .unset, .unset, .unset, .unset] [(.int (p1 &&& (7 : Int32)))]))
  refine own_up (fun _ k => XS.iconst X9.here hx rfl (hb hby at_37) k) ?_
  show own_Go p.tables e below _ (T9.setTop (mkF m 38 #[.val (.int p0), .val (.int p1), .val (.int p2), .val (.ref b1), .unset, .unset, .unset, .unset] [(.int (5 : Int32)), (.int (p1 &&& (7 : Int32)))]))
  refine own_up (fun _ k => iremM X9 hx rfl (hb hby at_38) rfl (by decide) k) ?_
  show own_Go p.tables e below _ (T9.setTop (mkF m 39 #[.val (.int p0), .val (.int p1), .val (.int p2), .val (.ref b1), .unset, .unset, .unset, .unset] [(.int ((p1 &&& (7 : Int32)) % (5 : Int32)))]))
  rw [es]
  show own_Go p.tables e below _ (T9.setTop (mkF m 39 #[.val (.int p0), .val (.int p1), .val (.int p2), .val (.ref b1), .unset, .unset, .unset, .unset] [(.int (Int32.ofNat ns))]))
  refine own_up (fun _ k => XS.istore X9.here hx rfl (hb hby at_39) rfl (l' := #[.val (.int p0), .val (.int p1), .val (.int p2), .val (.ref b1), .val (.int (Int32.ofNat ns)), .unset, .unset, .unset]) rfl k) ?_
  show own_Go p.tables e below _ (T9.setTop (mkF m 41 #[.val (.int p0), .val (.int p1), .val (.int p2), .val (.ref b1), .val (.int (Int32.ofNat ns)), .unset, .unset, .unset] []))
  refine own_up (fun _ k => XS.iload X9.here hx rfl (hb hby at_41) rfl k) ?_
  show own_Go p.tables e below _ (T9.setTop (mkF m 43 #[.val (.int p0), .val (.int p1), .val (.int p2), .val (.ref b1), .val (.int (Int32.ofNat ns)), .unset, .unset, .unset] [(.int (Int32.ofNat ns))]))
  refine own_up (fun _ k => XS.iloadN X9.here hx rfl (hb hby at_43) rfl k) ?_
  show own_Go p.tables e below _ (T9.setTop (mkF m 44 #[.val (.int p0), .val (.int p1), .val (.int p2), .val (.ref b1), .val (.int (Int32.ofNat ns)), .unset, .unset, .unset] [(.int p2), (.int (Int32.ofNat ns))]))
  refine own_up (fun _ k => XS.bipush X9.here hx rfl (hb hby at_44) k) ?_
  show own_Go p.tables e below _ (T9.setTop (mkF m 46 #[.val (.int p0), .val (.int p1), .val (.int p2), .val (.ref b1), .val (.int (Int32.ofNat ns)), .unset, .unset, .unset] [(.int (7 : Int32)), (.int p2), (.int (Int32.ofNat ns))]))
  refine own_up (fun _ k => XS.iand X9.here hx rfl (hb hby at_46) rfl k) ?_
  show own_Go p.tables e below _ (T9.setTop (mkF m 47 #[.val (.int p0), .val (.int p1), .val (.int p2), .val (.ref b1), .val (.int (Int32.ofNat ns)), .unset, .unset, .unset] [(.int (p2 &&& (7 : Int32))), (.int (Int32.ofNat ns))]))
  refine own_up (fun _ k => XS.iconst X9.here hx rfl (hb hby at_47) k) ?_
  show own_Go p.tables e below _ (T9.setTop (mkF m 48 #[.val (.int p0), .val (.int p1), .val (.int p2), .val (.ref b1), .val (.int (Int32.ofNat ns)), .unset, .unset, .unset] [(.int (5 : Int32)), (.int (p2 &&& (7 : Int32))), (.int (Int32.ofNat ns))]))
  refine own_up (fun _ k => XS.iload X9.here hx rfl (hb hby at_48) rfl k) ?_
  show own_Go p.tables e below _ (T9.setTop (mkF m 50 #[.val (.int p0), .val (.int p1), .val (.int p2), .val (.ref b1), .val (.int (Int32.ofNat ns)), .unset, .unset, .unset] [(.int (Int32.ofNat ns)), (.int (5 : Int32)), (.int (p2 &&& (7 : Int32))), (.int (Int32.ofNat ns))]))
  refine own_up (fun _ k => XS.isub X9.here hx rfl (hb hby at_50) rfl k) ?_
  show own_Go p.tables e below _ (T9.setTop (mkF m 51 #[.val (.int p0), .val (.int p1), .val (.int p2), .val (.ref b1), .val (.int (Int32.ofNat ns)), .unset, .unset, .unset] [(.int ((5 : Int32) - (Int32.ofNat ns))), (.int (p2 &&& (7 : Int32))), (.int (Int32.ofNat ns))]))
  refine own_up (fun _ k => iremM X9 hx rfl (hb hby at_51) rfl (own_five0 hns) k) ?_
  show own_Go p.tables e below _ (T9.setTop (mkF m 52 #[.val (.int p0), .val (.int p1), .val (.int p2), .val (.ref b1), .val (.int (Int32.ofNat ns)), .unset, .unset, .unset] [(.int ((p2 &&& (7 : Int32)) % ((5 : Int32) - (Int32.ofNat ns)))), (.int (Int32.ofNat ns))]))
  refine own_up (fun _ k => XS.iadd X9.here hx rfl (hb hby at_52) rfl k) ?_
  show own_Go p.tables e below _ (T9.setTop (mkF m 53 #[.val (.int p0), .val (.int p1), .val (.int p2), .val (.ref b1), .val (.int (Int32.ofNat ns)), .unset, .unset, .unset] [(.int ((Int32.ofNat ns) + ((p2 &&& (7 : Int32)) % ((5 : Int32) - (Int32.ofNat ns)))))]))
  rw [ee]
  show own_Go p.tables e below _ (T9.setTop (mkF m 53 #[.val (.int p0), .val (.int p1), .val (.int p2), .val (.ref b1), .val (.int (Int32.ofNat ns)), .unset, .unset, .unset] [(.int (Int32.ofNat ne))]))
  obtain ⟨x0, x1, x2, x3, Vx⟩ : ∃ x0 x1 x2 x3 : Int32, Arv Z h9 b1 k1 .byte (4 : Int32) [(.int x0), (.int x1), (.int x2), (.int x3)] (.int (0 : Int32)) := ⟨_, _, _, _, V9⟩
  refine own_up (fun _ k => XS.istore X9.here hx rfl (hb hby at_53) rfl (l' := #[.val (.int p0), .val (.int p1), .val (.int p2), .val (.ref b1), .val (.int (Int32.ofNat ns)), .val (.int (Int32.ofNat ne)), .unset, .unset]) rfl k) ?_
  show own_Go p.tables e below _ (T9.setTop (mkF m 55 #[.val (.int p0), .val (.int p1), .val (.int p2), .val (.ref b1), .val (.int (Int32.ofNat ns)), .val (.int (Int32.ofNat ne)), .unset, .unset] []))
  refine own_up (fun _ k => XS.iconst X9.here hx rfl (hb hby at_55) k) ?_
  show own_Go p.tables e below _ (T9.setTop (mkF m 56 #[.val (.int p0), .val (.int p1), .val (.int p2), .val (.ref b1), .val (.int (Int32.ofNat ns)), .val (.int (Int32.ofNat ne)), .unset, .unset] [(.int (1 : Int32))]))
  refine own_up (fun _ k => XS.istore X9.here hx rfl (hb hby at_56) rfl (l' := #[.val (.int p0), .val (.int p1), .val (.int p2), .val (.ref b1), .val (.int (Int32.ofNat ns)), .val (.int (Int32.ofNat ne)), .val (.int (1 : Int32)), .unset]) rfl k) ?_
  show own_Go p.tables e below _ (T9.setTop (mkF m 58 #[.val (.int p0), .val (.int p1), .val (.int p2), .val (.ref b1), .val (.int (Int32.ofNat ns)), .val (.int (Int32.ofNat ne)), .val (.int (1 : Int32)), .unset] []))
  have t4 : ∀ (Tt10 : State) (Lt10 : List Loc) (Xt10 : Stand p l e room_1 s m #[(.int p0), (.int p1), (.int p2)] below meth c Tt10 Lt10 1 4) (et10 : Tt10.heap = h9) (Nt10 : Fr n0 Lt10) (ex : Int32) (hex : ex = if own_bad (Int32.ofNat ns) (Int32.ofNat ne) x0 x1 x2 x3 then (0 : Int32) else 1), own_Go p.tables e below (fun u o => ∃ v L, o = .returned v ∧ Q_rm0 Z p0 p1 p2 h0 n0 v u.heap L ∧ FrameEnd s o u L room_1.cells room_1.slots) (Tt10.setTop (mkF m 118 #[.val (.int p0), .val (.int p1), .val (.int p2), .val (.ref b1), .val (.int (Int32.ofNat ns)), .val (.int (Int32.ofNat ne)), .val (.int ex), .unset] [])) := by
    intro Tt10 Lt10 Xt10 et10 Nt10 ex hex
    refine own_up (fun _ k => XS.aloadN Xt10.here hx rfl (hb hby at_118) rfl rfl k) ?_
    show own_Go p.tables e below _ (Tt10.setTop (mkF m 119 #[.val (.int p0), .val (.int p1), .val (.int p2), .val (.ref b1), .val (.int (Int32.ofNat ns)), .val (.int (Int32.ofNat ne)), .val (.int ex), .unset] [(.ref b1)]))
    refine own_up (fun _ k => XS.iload Xt10.here hx rfl (hb hby at_119) rfl k) ?_
    show own_Go p.tables e below _ (Tt10.setTop (mkF m 121 #[.val (.int p0), .val (.int p1), .val (.int p2), .val (.ref b1), .val (.int (Int32.ofNat ns)), .val (.int (Int32.ofNat ne)), .val (.int ex), .unset] [(.int (Int32.ofNat ns)), (.ref b1)]))
    refine own_up (fun _ k => XS.iload Xt10.here hx rfl (hb hby at_121) rfl k) ?_
    show own_Go p.tables e below _ (Tt10.setTop (mkF m 123 #[.val (.int p0), .val (.int p1), .val (.int p2), .val (.ref b1), .val (.int (Int32.ofNat ns)), .val (.int (Int32.ofNat ne)), .val (.int ex), .unset] [(.int (Int32.ofNat ne)), (.int (Int32.ofNat ns)), (.ref b1)]))
    have f12 : n0 ≤ h9.size := (Nat.le_trans (Nat.le_trans (Nat.le_trans (Nat.le_trans (Nat.le_trans Z0 E1.1) (Nat.le_of_eq (Wr.size W3).symm)) (Nat.le_of_eq (Wr.size W5).symm)) (Nat.le_of_eq (Wr.size W7).symm)) (Nat.le_of_eq (Wr.size W9).symm))
    obtain ⟨_, _, ⟨T11, L11, k11, n11⟩, -, X11, ⟨Lc11, hQ11, l11, y11, z11⟩, st11⟩ := Jvm.LawKit.callS Xt10 hx (y := (⟨"com/example/hoptrail/hoptrail/io/Utf8", "isAscii", "([BII)Z"⟩ : MethodName)) hown (mvT hZ (hw _ (List.mem_of_getElem? (i := 5) rfl))) (mvT hZ (hw _ (List.mem_of_getElem? (i := 6) rfl))) (mvT hZ (hw _ (List.mem_of_getElem? (i := 7) rfl))) (mvT hZ (hw _ (List.mem_of_getElem? (i := 8) rfl))) (by decide) (backOf (W := 0) (rm2 l Z a0 hw [] b1 k1 x0 x1 x2 x3 ns ne h9 n0 f12 Vx hns hne hse) hZ (hw _ (List.mem_of_getElem? (i := 8) rfl)) (hw _ (List.mem_of_getElem? (i := 7) rfl)) (by decide) (by decide)) (g := (mkF m 123 #[.val (.int p0), .val (.int p1), .val (.int p2), .val (.ref b1), .val (.int (Int32.ofNat ns)), .val (.int (Int32.ofNat ne)), .val (.int ex), .unset] [(.int (Int32.ofNat ne)), (.int (Int32.ofNat ns)), (.ref b1)])) rfl (by rw [hml]; rfl) (argsL := [(.ref b1), (.int (Int32.ofNat ns)), (.int (Int32.ofNat ne))]) (rest := []) (lenOf own_pd0 rfl) rfl (by show 2 * 0 + _ ≤ _; exact Nat.le_of_eq rfl) (hb hby at_123) (fun _ _ => ⟨rfl, et10, (by decide : 1 + 0 ≤ _), (by decide : 4 + 0 ≤ _)⟩)
    dsimp only [Pt.U, Pt.locs, Pt.cells, Pt.slots] at X11 l11 y11 z11 st11 hQ11
    subst l11 y11 z11
    obtain ⟨rfl, N11q, eq11⟩ := hQ11
    have N11 := Fr.app Nt10 N11q
    refine own_up (fun _ k => st11 _ k) ?_
    show own_Go p.tables e below _ (T11.setTop (mkF m 126 #[.val (.int p0), .val (.int p1), .val (.int p2), .val (.ref b1), .val (.int (Int32.ofNat ns)), .val (.int (Int32.ofNat ne)), .val (.int ex), .unset] [(.int (if own_bad (Int32.ofNat ns) (Int32.ofNat ne) x0 x1 x2 x3 then (0 : Int32) else 1))]))
    refine own_up (fun _ k => XS.istore X11.here hx rfl (hb hby at_126) rfl (l' := #[.val (.int p0), .val (.int p1), .val (.int p2), .val (.ref b1), .val (.int (Int32.ofNat ns)), .val (.int (Int32.ofNat ne)), .val (.int ex), .val (.int (if own_bad (Int32.ofNat ns) (Int32.ofNat ne) x0 x1 x2 x3 then (0 : Int32) else 1))]) rfl k) ?_
    show own_Go p.tables e below _ (T11.setTop (mkF m 128 #[.val (.int p0), .val (.int p1), .val (.int p2), .val (.ref b1), .val (.int (Int32.ofNat ns)), .val (.int (Int32.ofNat ne)), .val (.int ex), .val (.int (if own_bad (Int32.ofNat ns) (Int32.ofNat ne) x0 x1 x2 x3 then (0 : Int32) else 1))] []))
    refine own_up (fun _ k => XS.iload X11.here hx rfl (hb hby at_128) rfl k) ?_
    show own_Go p.tables e below _ (T11.setTop (mkF m 130 #[.val (.int p0), .val (.int p1), .val (.int p2), .val (.ref b1), .val (.int (Int32.ofNat ns)), .val (.int (Int32.ofNat ne)), .val (.int ex), .val (.int (if own_bad (Int32.ofNat ns) (Int32.ofNat ne) x0 x1 x2 x3 then (0 : Int32) else 1))] [(.int (if own_bad (Int32.ofNat ns) (Int32.ofNat ne) x0 x1 x2 x3 then (0 : Int32) else 1))]))
    refine own_up (fun _ k => XS.iload X11.here hx rfl (hb hby at_130) rfl k) ?_
    show own_Go p.tables e below _ (T11.setTop (mkF m 132 #[.val (.int p0), .val (.int p1), .val (.int p2), .val (.ref b1), .val (.int (Int32.ofNat ns)), .val (.int (Int32.ofNat ne)), .val (.int ex), .val (.int (if own_bad (Int32.ofNat ns) (Int32.ofNat ne) x0 x1 x2 x3 then (0 : Int32) else 1))] [(.int ex), (.int (if own_bad (Int32.ofNat ns) (Int32.ofNat ne) x0 x1 x2 x3 then (0 : Int32) else 1))]))
    refine own_up (fun _ k => XS.icmpNo X11.here hx rfl (hb hby at_132) rfl (teq hex.symm).2 k) ?_
    show own_Go p.tables e below _ (T11.setTop (mkF m 135 #[.val (.int p0), .val (.int p1), .val (.int p2), .val (.ref b1), .val (.int (Int32.ofNat ns)), .val (.int (Int32.ofNat ne)), .val (.int ex), .val (.int (if own_bad (Int32.ofNat ns) (Int32.ofNat ne) x0 x1 x2 x3 then (0 : Int32) else 1))] []))
    refine own_up (fun _ k => XS.iconst X11.here hx rfl (hb hby at_135) k) ?_
    show own_Go p.tables e below _ (T11.setTop (mkF m 136 #[.val (.int p0), .val (.int p1), .val (.int p2), .val (.ref b1), .val (.int (Int32.ofNat ns)), .val (.int (Int32.ofNat ne)), .val (.int ex), .val (.int (if own_bad (Int32.ofNat ns) (Int32.ofNat ne) x0 x1 x2 x3 then (0 : Int32) else 1))] [(.int (1 : Int32))]))
    refine own_up (fun _ k => XS.goto X11.here hx rfl (pc0 := 136) (pc' := 140) rfl (hb hby at_136) (by decide) (by decide) k) ?_
    show own_Go p.tables e below _ (T11.setTop (mkF m 140 #[.val (.int p0), .val (.int p1), .val (.int p2), .val (.ref b1), .val (.int (Int32.ofNat ns)), .val (.int (Int32.ofNat ne)), .val (.int ex), .val (.int (if own_bad (Int32.ofNat ns) (Int32.ofNat ne) x0 x1 x2 x3 then (0 : Int32) else 1))] [(.int (1 : Int32))]))
    exact own_end X11 hlk (v := some (.int (1 : Int32))) (fun h => by rw [Bd.returns] at h; cases h) (fun fs hr => retN X11 hx (z := (1 : Int32)) (t := .boolean) Bd.returns (by simp) (hb hby at_140) hr) eq11 ⟨rfl, N11⟩ (by decide) (by decide)
  have t3 : ∀ (Tt13 : State) (Lt13 : List Loc) (Xt13 : Stand p l e room_1 s m #[(.int p0), (.int p1), (.int p2)] below meth c Tt13 Lt13 1 4) (et13 : Tt13.heap = h9) (Nt13 : Fr n0 Lt13) (ex : Int32) (hex : ex = if ((own_c (Int32.ofNat ns) 0 (Int32.ofNat ne) x0) ∨ own_c (Int32.ofNat ns) 1 (Int32.ofNat ne) x1) ∨ own_c (Int32.ofNat ns) 2 (Int32.ofNat ne) x2 then (0 : Int32) else 1), own_Go p.tables e below (fun u o => ∃ v L, o = .returned v ∧ Q_rm0 Z p0 p1 p2 h0 n0 v u.heap L ∧ FrameEnd s o u L room_1.cells room_1.slots) (Tt13.setTop (mkF m 103 #[.val (.int p0), .val (.int p1), .val (.int p2), .val (.ref b1), .val (.int (Int32.ofNat ns)), .val (.int (Int32.ofNat ne)), .val (.int ex), .unset] [])) := by
    intro Tt13 Lt13 Xt13 et13 Nt13 ex hex
    refine own_up (fun _ k => XS.aloadN Xt13.here hx rfl (hb hby at_103) rfl rfl k) ?_
    show own_Go p.tables e below _ (Tt13.setTop (mkF m 104 #[.val (.int p0), .val (.int p1), .val (.int p2), .val (.ref b1), .val (.int (Int32.ofNat ns)), .val (.int (Int32.ofNat ne)), .val (.int ex), .unset] [(.ref b1)]))
    refine own_up (fun _ k => XS.iconst Xt13.here hx rfl (hb hby at_104) k) ?_
    show own_Go p.tables e below _ (Tt13.setTop (mkF m 105 #[.val (.int p0), .val (.int p1), .val (.int p2), .val (.ref b1), .val (.int (Int32.ofNat ns)), .val (.int (Int32.ofNat ne)), .val (.int ex), .unset] [(.int (3 : Int32)), (.ref b1)]))
    refine own_up (fun _ k => XS.iload Xt13.here hx rfl (hb hby at_105) rfl k) ?_
    show own_Go p.tables e below _ (Tt13.setTop (mkF m 107 #[.val (.int p0), .val (.int p1), .val (.int p2), .val (.ref b1), .val (.int (Int32.ofNat ns)), .val (.int (Int32.ofNat ne)), .val (.int ex), .unset] [(.int (Int32.ofNat ns)), (.int (3 : Int32)), (.ref b1)]))
    refine own_up (fun _ k => XS.iload Xt13.here hx rfl (hb hby at_107) rfl k) ?_
    show own_Go p.tables e below _ (Tt13.setTop (mkF m 109 #[.val (.int p0), .val (.int p1), .val (.int p2), .val (.ref b1), .val (.int (Int32.ofNat ns)), .val (.int (Int32.ofNat ne)), .val (.int ex), .unset] [(.int (Int32.ofNat ne)), (.int (Int32.ofNat ns)), (.int (3 : Int32)), (.ref b1)]))
    have f15 : n0 ≤ h9.size := (Nat.le_trans (Nat.le_trans (Nat.le_trans (Nat.le_trans (Nat.le_trans Z0 E1.1) (Nat.le_of_eq (Wr.size W3).symm)) (Nat.le_of_eq (Wr.size W5).symm)) (Nat.le_of_eq (Wr.size W7).symm)) (Nat.le_of_eq (Wr.size W9).symm))
    obtain ⟨_, _, ⟨T14, L14, k14, n14⟩, -, X14, ⟨Lc14, hQ14, l14, y14, z14⟩, st14⟩ := Jvm.LawKit.callS Xt13 hx (y := (⟨"com/example/hoptrail/hoptrail/io/Utf8IsAsciiPinLaw", "nonAsciiInside", "([BIII)Z"⟩ : MethodName)) hown (mvT hZ (hw _ (List.mem_of_getElem? (i := 1) rfl))) (mvT hZ (hw _ (List.mem_of_getElem? (i := 2) rfl))) (mvT hZ (hw _ (List.mem_of_getElem? (i := 3) rfl))) (mvT hZ (hw _ (List.mem_of_getElem? (i := 4) rfl))) (by decide) (backOf (W := 0) (rm1 l Z a0 hw [] b1 (3 : Int32) (Int32.ofNat ns) (Int32.ofNat ne) k1 x0 x1 x2 x3 x3 h9 n0 f15 Vx ⟨by decide, by decide⟩ rfl) hZ (hw _ (List.mem_of_getElem? (i := 4) rfl)) (hw _ (List.mem_of_getElem? (i := 3) rfl)) (by decide) (by decide)) (g := (mkF m 109 #[.val (.int p0), .val (.int p1), .val (.int p2), .val (.ref b1), .val (.int (Int32.ofNat ns)), .val (.int (Int32.ofNat ne)), .val (.int ex), .unset] [(.int (Int32.ofNat ne)), (.int (Int32.ofNat ns)), (.int (3 : Int32)), (.ref b1)])) rfl (by rw [hml]; rfl) (argsL := [(.ref b1), (.int (3 : Int32)), (.int (Int32.ofNat ns)), (.int (Int32.ofNat ne))]) (rest := []) (lenOf own_pd1 rfl) rfl (by show 2 * 0 + _ ≤ _; exact Nat.le_of_eq rfl) (hb hby at_109) (fun _ _ => ⟨rfl, et13, (by decide : 1 + 0 ≤ _), (by decide : 4 + 0 ≤ _)⟩)
    dsimp only [Pt.U, Pt.locs, Pt.cells, Pt.slots] at X14 l14 y14 z14 st14 hQ14
    subst l14 y14 z14
    obtain ⟨rfl, N14q, eq14⟩ := hQ14
    have N14 := Fr.app Nt13 N14q
    refine own_up (fun _ k => st14 _ k) ?_
    show own_Go p.tables e below _ (T14.setTop (mkF m 112 #[.val (.int p0), .val (.int p1), .val (.int p2), .val (.ref b1), .val (.int (Int32.ofNat ns)), .val (.int (Int32.ofNat ne)), .val (.int ex), .unset] [(.int (if own_c (Int32.ofNat ns) (3 : Int32) (Int32.ofNat ne) x3 then (1 : Int32) else 0))]))
    by_cases c3 : (if own_c (Int32.ofNat ns) (3 : Int32) (Int32.ofNat ne) x3 then (1 : Int32) else 0) = (0 : Int32)
    ·
      refine own_up (fun _ k => XS.ifYes X14.here hx rfl (pc0 := 112) (pc' := 118) rfl (hb hby at_112) rfl ((if0 _ _).trans (teq c3).1) (by decide) (by decide) k) ?_
      show own_Go p.tables e below _ (T14.setTop (mkF m 118 #[.val (.int p0), .val (.int p1), .val (.int p2), .val (.ref b1), .val (.int (Int32.ofNat ns)), .val (.int (Int32.ofNat ne)), .val (.int ex), .unset] []))
      exact t4 T14 _ X14 eq14 N14 ex (own_more0 hex c3)
    ·
      refine own_up (fun _ k => XS.ifNo X14.here hx rfl (hb hby at_112) rfl ((if0 _ _).trans (feq c3).1) k) ?_
      show own_Go p.tables e below _ (T14.setTop (mkF m 115 #[.val (.int p0), .val (.int p1), .val (.int p2), .val (.ref b1), .val (.int (Int32.ofNat ns)), .val (.int (Int32.ofNat ne)), .val (.int ex), .unset] []))
      refine own_up (fun _ k => XS.iconst X14.here hx rfl (hb hby at_115) k) ?_
      show own_Go p.tables e below _ (T14.setTop (mkF m 116 #[.val (.int p0), .val (.int p1), .val (.int p2), .val (.ref b1), .val (.int (Int32.ofNat ns)), .val (.int (Int32.ofNat ne)), .val (.int ex), .unset] [(.int (0 : Int32))]))
      refine own_up (fun _ k => XS.istore X14.here hx rfl (hb hby at_116) rfl (l' := #[.val (.int p0), .val (.int p1), .val (.int p2), .val (.ref b1), .val (.int (Int32.ofNat ns)), .val (.int (Int32.ofNat ne)), .val (.int (0 : Int32)), .unset]) rfl k) ?_
      show own_Go p.tables e below _ (T14.setTop (mkF m 118 #[.val (.int p0), .val (.int p1), .val (.int p2), .val (.ref b1), .val (.int (Int32.ofNat ns)), .val (.int (Int32.ofNat ne)), .val (.int (0 : Int32)), .unset] []))
      exact t4 T14 _ X14 eq14 N14 (0 : Int32) (own_more1 c3)
  have t2 : ∀ (Tt16 : State) (Lt16 : List Loc) (Xt16 : Stand p l e room_1 s m #[(.int p0), (.int p1), (.int p2)] below meth c Tt16 Lt16 1 4) (et16 : Tt16.heap = h9) (Nt16 : Fr n0 Lt16) (ex : Int32) (hex : ex = if (own_c (Int32.ofNat ns) 0 (Int32.ofNat ne) x0) ∨ own_c (Int32.ofNat ns) 1 (Int32.ofNat ne) x1 then (0 : Int32) else 1), own_Go p.tables e below (fun u o => ∃ v L, o = .returned v ∧ Q_rm0 Z p0 p1 p2 h0 n0 v u.heap L ∧ FrameEnd s o u L room_1.cells room_1.slots) (Tt16.setTop (mkF m 88 #[.val (.int p0), .val (.int p1), .val (.int p2), .val (.ref b1), .val (.int (Int32.ofNat ns)), .val (.int (Int32.ofNat ne)), .val (.int ex), .unset] [])) := by
    intro Tt16 Lt16 Xt16 et16 Nt16 ex hex
    refine own_up (fun _ k => XS.aloadN Xt16.here hx rfl (hb hby at_88) rfl rfl k) ?_
    show own_Go p.tables e below _ (Tt16.setTop (mkF m 89 #[.val (.int p0), .val (.int p1), .val (.int p2), .val (.ref b1), .val (.int (Int32.ofNat ns)), .val (.int (Int32.ofNat ne)), .val (.int ex), .unset] [(.ref b1)]))
    refine own_up (fun _ k => XS.iconst Xt16.here hx rfl (hb hby at_89) k) ?_
    show own_Go p.tables e below _ (Tt16.setTop (mkF m 90 #[.val (.int p0), .val (.int p1), .val (.int p2), .val (.ref b1), .val (.int (Int32.ofNat ns)), .val (.int (Int32.ofNat ne)), .val (.int ex), .unset] [(.int (2 : Int32)), (.ref b1)]))
    refine own_up (fun _ k => XS.iload Xt16.here hx rfl (hb hby at_90) rfl k) ?_
    show own_Go p.tables e below _ (Tt16.setTop (mkF m 92 #[.val (.int p0), .val (.int p1), .val (.int p2), .val (.ref b1), .val (.int (Int32.ofNat ns)), .val (.int (Int32.ofNat ne)), .val (.int ex), .unset] [(.int (Int32.ofNat ns)), (.int (2 : Int32)), (.ref b1)]))
    refine own_up (fun _ k => XS.iload Xt16.here hx rfl (hb hby at_92) rfl k) ?_
    show own_Go p.tables e below _ (Tt16.setTop (mkF m 94 #[.val (.int p0), .val (.int p1), .val (.int p2), .val (.ref b1), .val (.int (Int32.ofNat ns)), .val (.int (Int32.ofNat ne)), .val (.int ex), .unset] [(.int (Int32.ofNat ne)), (.int (Int32.ofNat ns)), (.int (2 : Int32)), (.ref b1)]))
    have f18 : n0 ≤ h9.size := (Nat.le_trans (Nat.le_trans (Nat.le_trans (Nat.le_trans (Nat.le_trans Z0 E1.1) (Nat.le_of_eq (Wr.size W3).symm)) (Nat.le_of_eq (Wr.size W5).symm)) (Nat.le_of_eq (Wr.size W7).symm)) (Nat.le_of_eq (Wr.size W9).symm))
    obtain ⟨_, _, ⟨T17, L17, k17, n17⟩, -, X17, ⟨Lc17, hQ17, l17, y17, z17⟩, st17⟩ := Jvm.LawKit.callS Xt16 hx (y := (⟨"com/example/hoptrail/hoptrail/io/Utf8IsAsciiPinLaw", "nonAsciiInside", "([BIII)Z"⟩ : MethodName)) hown (mvT hZ (hw _ (List.mem_of_getElem? (i := 1) rfl))) (mvT hZ (hw _ (List.mem_of_getElem? (i := 2) rfl))) (mvT hZ (hw _ (List.mem_of_getElem? (i := 3) rfl))) (mvT hZ (hw _ (List.mem_of_getElem? (i := 4) rfl))) (by decide) (backOf (W := 0) (rm1 l Z a0 hw [] b1 (2 : Int32) (Int32.ofNat ns) (Int32.ofNat ne) k1 x0 x1 x2 x3 x2 h9 n0 f18 Vx ⟨by decide, by decide⟩ rfl) hZ (hw _ (List.mem_of_getElem? (i := 4) rfl)) (hw _ (List.mem_of_getElem? (i := 3) rfl)) (by decide) (by decide)) (g := (mkF m 94 #[.val (.int p0), .val (.int p1), .val (.int p2), .val (.ref b1), .val (.int (Int32.ofNat ns)), .val (.int (Int32.ofNat ne)), .val (.int ex), .unset] [(.int (Int32.ofNat ne)), (.int (Int32.ofNat ns)), (.int (2 : Int32)), (.ref b1)])) rfl (by rw [hml]; rfl) (argsL := [(.ref b1), (.int (2 : Int32)), (.int (Int32.ofNat ns)), (.int (Int32.ofNat ne))]) (rest := []) (lenOf own_pd1 rfl) rfl (by show 2 * 0 + _ ≤ _; exact Nat.le_of_eq rfl) (hb hby at_94) (fun _ _ => ⟨rfl, et16, (by decide : 1 + 0 ≤ _), (by decide : 4 + 0 ≤ _)⟩)
    dsimp only [Pt.U, Pt.locs, Pt.cells, Pt.slots] at X17 l17 y17 z17 st17 hQ17
    subst l17 y17 z17
    obtain ⟨rfl, N17q, eq17⟩ := hQ17
    have N17 := Fr.app Nt16 N17q
    refine own_up (fun _ k => st17 _ k) ?_
    show own_Go p.tables e below _ (T17.setTop (mkF m 97 #[.val (.int p0), .val (.int p1), .val (.int p2), .val (.ref b1), .val (.int (Int32.ofNat ns)), .val (.int (Int32.ofNat ne)), .val (.int ex), .unset] [(.int (if own_c (Int32.ofNat ns) (2 : Int32) (Int32.ofNat ne) x2 then (1 : Int32) else 0))]))
    by_cases c2 : (if own_c (Int32.ofNat ns) (2 : Int32) (Int32.ofNat ne) x2 then (1 : Int32) else 0) = (0 : Int32)
    ·
      refine own_up (fun _ k => XS.ifYes X17.here hx rfl (pc0 := 97) (pc' := 103) rfl (hb hby at_97) rfl ((if0 _ _).trans (teq c2).1) (by decide) (by decide) k) ?_
      show own_Go p.tables e below _ (T17.setTop (mkF m 103 #[.val (.int p0), .val (.int p1), .val (.int p2), .val (.ref b1), .val (.int (Int32.ofNat ns)), .val (.int (Int32.ofNat ne)), .val (.int ex), .unset] []))
      exact t3 T17 _ X17 eq17 N17 ex (own_more0 hex c2)
    ·
      refine own_up (fun _ k => XS.ifNo X17.here hx rfl (hb hby at_97) rfl ((if0 _ _).trans (feq c2).1) k) ?_
      show own_Go p.tables e below _ (T17.setTop (mkF m 100 #[.val (.int p0), .val (.int p1), .val (.int p2), .val (.ref b1), .val (.int (Int32.ofNat ns)), .val (.int (Int32.ofNat ne)), .val (.int ex), .unset] []))
      refine own_up (fun _ k => XS.iconst X17.here hx rfl (hb hby at_100) k) ?_
      show own_Go p.tables e below _ (T17.setTop (mkF m 101 #[.val (.int p0), .val (.int p1), .val (.int p2), .val (.ref b1), .val (.int (Int32.ofNat ns)), .val (.int (Int32.ofNat ne)), .val (.int ex), .unset] [(.int (0 : Int32))]))
      refine own_up (fun _ k => XS.istore X17.here hx rfl (hb hby at_101) rfl (l' := #[.val (.int p0), .val (.int p1), .val (.int p2), .val (.ref b1), .val (.int (Int32.ofNat ns)), .val (.int (Int32.ofNat ne)), .val (.int (0 : Int32)), .unset]) rfl k) ?_
      show own_Go p.tables e below _ (T17.setTop (mkF m 103 #[.val (.int p0), .val (.int p1), .val (.int p2), .val (.ref b1), .val (.int (Int32.ofNat ns)), .val (.int (Int32.ofNat ne)), .val (.int (0 : Int32)), .unset] []))
      exact t3 T17 _ X17 eq17 N17 (0 : Int32) (own_more1 c2)
  have t1 : ∀ (Tt19 : State) (Lt19 : List Loc) (Xt19 : Stand p l e room_1 s m #[(.int p0), (.int p1), (.int p2)] below meth c Tt19 Lt19 1 4) (et19 : Tt19.heap = h9) (Nt19 : Fr n0 Lt19) (ex : Int32) (hex : ex = if own_c (Int32.ofNat ns) 0 (Int32.ofNat ne) x0 then (0 : Int32) else 1), own_Go p.tables e below (fun u o => ∃ v L, o = .returned v ∧ Q_rm0 Z p0 p1 p2 h0 n0 v u.heap L ∧ FrameEnd s o u L room_1.cells room_1.slots) (Tt19.setTop (mkF m 73 #[.val (.int p0), .val (.int p1), .val (.int p2), .val (.ref b1), .val (.int (Int32.ofNat ns)), .val (.int (Int32.ofNat ne)), .val (.int ex), .unset] [])) := by
    intro Tt19 Lt19 Xt19 et19 Nt19 ex hex
    refine own_up (fun _ k => XS.aloadN Xt19.here hx rfl (hb hby at_73) rfl rfl k) ?_
    show own_Go p.tables e below _ (Tt19.setTop (mkF m 74 #[.val (.int p0), .val (.int p1), .val (.int p2), .val (.ref b1), .val (.int (Int32.ofNat ns)), .val (.int (Int32.ofNat ne)), .val (.int ex), .unset] [(.ref b1)]))
    refine own_up (fun _ k => XS.iconst Xt19.here hx rfl (hb hby at_74) k) ?_
    show own_Go p.tables e below _ (Tt19.setTop (mkF m 75 #[.val (.int p0), .val (.int p1), .val (.int p2), .val (.ref b1), .val (.int (Int32.ofNat ns)), .val (.int (Int32.ofNat ne)), .val (.int ex), .unset] [(.int (1 : Int32)), (.ref b1)]))
    refine own_up (fun _ k => XS.iload Xt19.here hx rfl (hb hby at_75) rfl k) ?_
    show own_Go p.tables e below _ (Tt19.setTop (mkF m 77 #[.val (.int p0), .val (.int p1), .val (.int p2), .val (.ref b1), .val (.int (Int32.ofNat ns)), .val (.int (Int32.ofNat ne)), .val (.int ex), .unset] [(.int (Int32.ofNat ns)), (.int (1 : Int32)), (.ref b1)]))
    refine own_up (fun _ k => XS.iload Xt19.here hx rfl (hb hby at_77) rfl k) ?_
    show own_Go p.tables e below _ (Tt19.setTop (mkF m 79 #[.val (.int p0), .val (.int p1), .val (.int p2), .val (.ref b1), .val (.int (Int32.ofNat ns)), .val (.int (Int32.ofNat ne)), .val (.int ex), .unset] [(.int (Int32.ofNat ne)), (.int (Int32.ofNat ns)), (.int (1 : Int32)), (.ref b1)]))
    have f21 : n0 ≤ h9.size := (Nat.le_trans (Nat.le_trans (Nat.le_trans (Nat.le_trans (Nat.le_trans Z0 E1.1) (Nat.le_of_eq (Wr.size W3).symm)) (Nat.le_of_eq (Wr.size W5).symm)) (Nat.le_of_eq (Wr.size W7).symm)) (Nat.le_of_eq (Wr.size W9).symm))
    obtain ⟨_, _, ⟨T20, L20, k20, n20⟩, -, X20, ⟨Lc20, hQ20, l20, y20, z20⟩, st20⟩ := Jvm.LawKit.callS Xt19 hx (y := (⟨"com/example/hoptrail/hoptrail/io/Utf8IsAsciiPinLaw", "nonAsciiInside", "([BIII)Z"⟩ : MethodName)) hown (mvT hZ (hw _ (List.mem_of_getElem? (i := 1) rfl))) (mvT hZ (hw _ (List.mem_of_getElem? (i := 2) rfl))) (mvT hZ (hw _ (List.mem_of_getElem? (i := 3) rfl))) (mvT hZ (hw _ (List.mem_of_getElem? (i := 4) rfl))) (by decide) (backOf (W := 0) (rm1 l Z a0 hw [] b1 (1 : Int32) (Int32.ofNat ns) (Int32.ofNat ne) k1 x0 x1 x2 x3 x1 h9 n0 f21 Vx ⟨by decide, by decide⟩ rfl) hZ (hw _ (List.mem_of_getElem? (i := 4) rfl)) (hw _ (List.mem_of_getElem? (i := 3) rfl)) (by decide) (by decide)) (g := (mkF m 79 #[.val (.int p0), .val (.int p1), .val (.int p2), .val (.ref b1), .val (.int (Int32.ofNat ns)), .val (.int (Int32.ofNat ne)), .val (.int ex), .unset] [(.int (Int32.ofNat ne)), (.int (Int32.ofNat ns)), (.int (1 : Int32)), (.ref b1)])) rfl (by rw [hml]; rfl) (argsL := [(.ref b1), (.int (1 : Int32)), (.int (Int32.ofNat ns)), (.int (Int32.ofNat ne))]) (rest := []) (lenOf own_pd1 rfl) rfl (by show 2 * 0 + _ ≤ _; exact Nat.le_of_eq rfl) (hb hby at_79) (fun _ _ => ⟨rfl, et19, (by decide : 1 + 0 ≤ _), (by decide : 4 + 0 ≤ _)⟩)
    dsimp only [Pt.U, Pt.locs, Pt.cells, Pt.slots] at X20 l20 y20 z20 st20 hQ20
    subst l20 y20 z20
    obtain ⟨rfl, N20q, eq20⟩ := hQ20
    have N20 := Fr.app Nt19 N20q
    refine own_up (fun _ k => st20 _ k) ?_
    show own_Go p.tables e below _ (T20.setTop (mkF m 82 #[.val (.int p0), .val (.int p1), .val (.int p2), .val (.ref b1), .val (.int (Int32.ofNat ns)), .val (.int (Int32.ofNat ne)), .val (.int ex), .unset] [(.int (if own_c (Int32.ofNat ns) (1 : Int32) (Int32.ofNat ne) x1 then (1 : Int32) else 0))]))
    by_cases c1 : (if own_c (Int32.ofNat ns) (1 : Int32) (Int32.ofNat ne) x1 then (1 : Int32) else 0) = (0 : Int32)
    ·
      refine own_up (fun _ k => XS.ifYes X20.here hx rfl (pc0 := 82) (pc' := 88) rfl (hb hby at_82) rfl ((if0 _ _).trans (teq c1).1) (by decide) (by decide) k) ?_
      show own_Go p.tables e below _ (T20.setTop (mkF m 88 #[.val (.int p0), .val (.int p1), .val (.int p2), .val (.ref b1), .val (.int (Int32.ofNat ns)), .val (.int (Int32.ofNat ne)), .val (.int ex), .unset] []))
      exact t2 T20 _ X20 eq20 N20 ex (own_more0 hex c1)
    ·
      refine own_up (fun _ k => XS.ifNo X20.here hx rfl (hb hby at_82) rfl ((if0 _ _).trans (feq c1).1) k) ?_
      show own_Go p.tables e below _ (T20.setTop (mkF m 85 #[.val (.int p0), .val (.int p1), .val (.int p2), .val (.ref b1), .val (.int (Int32.ofNat ns)), .val (.int (Int32.ofNat ne)), .val (.int ex), .unset] []))
      refine own_up (fun _ k => XS.iconst X20.here hx rfl (hb hby at_85) k) ?_
      show own_Go p.tables e below _ (T20.setTop (mkF m 86 #[.val (.int p0), .val (.int p1), .val (.int p2), .val (.ref b1), .val (.int (Int32.ofNat ns)), .val (.int (Int32.ofNat ne)), .val (.int ex), .unset] [(.int (0 : Int32))]))
      refine own_up (fun _ k => XS.istore X20.here hx rfl (hb hby at_86) rfl (l' := #[.val (.int p0), .val (.int p1), .val (.int p2), .val (.ref b1), .val (.int (Int32.ofNat ns)), .val (.int (Int32.ofNat ne)), .val (.int (0 : Int32)), .unset]) rfl k) ?_
      show own_Go p.tables e below _ (T20.setTop (mkF m 88 #[.val (.int p0), .val (.int p1), .val (.int p2), .val (.ref b1), .val (.int (Int32.ofNat ns)), .val (.int (Int32.ofNat ne)), .val (.int (0 : Int32)), .unset] []))
      exact t2 T20 _ X20 eq20 N20 (0 : Int32) (own_more1 c1)
  refine own_up (fun _ k => XS.aloadN X9.here hx rfl (hb hby at_58) rfl rfl k) ?_
  show own_Go p.tables e below _ (T9.setTop (mkF m 59 #[.val (.int p0), .val (.int p1), .val (.int p2), .val (.ref b1), .val (.int (Int32.ofNat ns)), .val (.int (Int32.ofNat ne)), .val (.int (1 : Int32)), .unset] [(.ref b1)]))
  refine own_up (fun _ k => XS.iconst X9.here hx rfl (hb hby at_59) k) ?_
  show own_Go p.tables e below _ (T9.setTop (mkF m 60 #[.val (.int p0), .val (.int p1), .val (.int p2), .val (.ref b1), .val (.int (Int32.ofNat ns)), .val (.int (Int32.ofNat ne)), .val (.int (1 : Int32)), .unset] [(.int (0 : Int32)), (.ref b1)]))
  refine own_up (fun _ k => XS.iload X9.here hx rfl (hb hby at_60) rfl k) ?_
  show own_Go p.tables e below _ (T9.setTop (mkF m 62 #[.val (.int p0), .val (.int p1), .val (.int p2), .val (.ref b1), .val (.int (Int32.ofNat ns)), .val (.int (Int32.ofNat ne)), .val (.int (1 : Int32)), .unset] [(.int (Int32.ofNat ns)), (.int (0 : Int32)), (.ref b1)]))
  refine own_up (fun _ k => XS.iload X9.here hx rfl (hb hby at_62) rfl k) ?_
  show own_Go p.tables e below _ (T9.setTop (mkF m 64 #[.val (.int p0), .val (.int p1), .val (.int p2), .val (.ref b1), .val (.int (Int32.ofNat ns)), .val (.int (Int32.ofNat ne)), .val (.int (1 : Int32)), .unset] [(.int (Int32.ofNat ne)), (.int (Int32.ofNat ns)), (.int (0 : Int32)), (.ref b1)]))
  have f23 : n0 ≤ h9.size := (Nat.le_trans (Nat.le_trans (Nat.le_trans (Nat.le_trans (Nat.le_trans Z0 E1.1) (Nat.le_of_eq (Wr.size W3).symm)) (Nat.le_of_eq (Wr.size W5).symm)) (Nat.le_of_eq (Wr.size W7).symm)) (Nat.le_of_eq (Wr.size W9).symm))
  obtain ⟨_, _, ⟨T22, L22, k22, n22⟩, -, X22, ⟨Lc22, hQ22, l22, y22, z22⟩, st22⟩ := Jvm.LawKit.callS X9 hx (y := (⟨"com/example/hoptrail/hoptrail/io/Utf8IsAsciiPinLaw", "nonAsciiInside", "([BIII)Z"⟩ : MethodName)) hown (mvT hZ (hw _ (List.mem_of_getElem? (i := 1) rfl))) (mvT hZ (hw _ (List.mem_of_getElem? (i := 2) rfl))) (mvT hZ (hw _ (List.mem_of_getElem? (i := 3) rfl))) (mvT hZ (hw _ (List.mem_of_getElem? (i := 4) rfl))) (by decide) (backOf (W := 0) (rm1 l Z a0 hw [] b1 (0 : Int32) (Int32.ofNat ns) (Int32.ofNat ne) k1 x0 x1 x2 x3 x0 h9 n0 f23 Vx ⟨by decide, by decide⟩ rfl) hZ (hw _ (List.mem_of_getElem? (i := 4) rfl)) (hw _ (List.mem_of_getElem? (i := 3) rfl)) (by decide) (by decide)) (g := (mkF m 64 #[.val (.int p0), .val (.int p1), .val (.int p2), .val (.ref b1), .val (.int (Int32.ofNat ns)), .val (.int (Int32.ofNat ne)), .val (.int (1 : Int32)), .unset] [(.int (Int32.ofNat ne)), (.int (Int32.ofNat ns)), (.int (0 : Int32)), (.ref b1)])) rfl (by rw [hml]; rfl) (argsL := [(.ref b1), (.int (0 : Int32)), (.int (Int32.ofNat ns)), (.int (Int32.ofNat ne))]) (rest := []) (lenOf own_pd1 rfl) rfl (by show 2 * 0 + _ ≤ _; exact Nat.le_of_eq rfl) (hb hby at_64) (fun _ _ => ⟨rfl, e9, (by decide : 1 + 0 ≤ _), (by decide : 4 + 0 ≤ _)⟩)
  dsimp only [Pt.U, Pt.locs, Pt.cells, Pt.slots] at X22 l22 y22 z22 st22 hQ22
  subst l22 y22 z22
  obtain ⟨rfl, N22q, eq22⟩ := hQ22
  have N22 := Fr.app N9 N22q
  refine own_up (fun _ k => st22 _ k) ?_
  show own_Go p.tables e below _ (T22.setTop (mkF m 67 #[.val (.int p0), .val (.int p1), .val (.int p2), .val (.ref b1), .val (.int (Int32.ofNat ns)), .val (.int (Int32.ofNat ne)), .val (.int (1 : Int32)), .unset] [(.int (if own_c (Int32.ofNat ns) (0 : Int32) (Int32.ofNat ne) x0 then (1 : Int32) else 0))]))
  by_cases c0 : (if own_c (Int32.ofNat ns) (0 : Int32) (Int32.ofNat ne) x0 then (1 : Int32) else 0) = (0 : Int32)
  ·
    refine own_up (fun _ k => XS.ifYes X22.here hx rfl (pc0 := 67) (pc' := 73) rfl (hb hby at_67) rfl ((if0 _ _).trans (teq c0).1) (by decide) (by decide) k) ?_
    show own_Go p.tables e below _ (T22.setTop (mkF m 73 #[.val (.int p0), .val (.int p1), .val (.int p2), .val (.ref b1), .val (.int (Int32.ofNat ns)), .val (.int (Int32.ofNat ne)), .val (.int (1 : Int32)), .unset] []))
    exact t1 T22 _ X22 eq22 N22 (1 : Int32) (own_first0 c0)
  ·
    refine own_up (fun _ k => XS.ifNo X22.here hx rfl (hb hby at_67) rfl ((if0 _ _).trans (feq c0).1) k) ?_
    show own_Go p.tables e below _ (T22.setTop (mkF m 70 #[.val (.int p0), .val (.int p1), .val (.int p2), .val (.ref b1), .val (.int (Int32.ofNat ns)), .val (.int (Int32.ofNat ne)), .val (.int (1 : Int32)), .unset] []))
    refine own_up (fun _ k => XS.iconst X22.here hx rfl (hb hby at_70) k) ?_
    show own_Go p.tables e below _ (T22.setTop (mkF m 71 #[.val (.int p0), .val (.int p1), .val (.int p2), .val (.ref b1), .val (.int (Int32.ofNat ns)), .val (.int (Int32.ofNat ne)), .val (.int (1 : Int32)), .unset] [(.int (0 : Int32))]))
    refine own_up (fun _ k => XS.istore X22.here hx rfl (hb hby at_71) rfl (l' := #[.val (.int p0), .val (.int p1), .val (.int p2), .val (.ref b1), .val (.int (Int32.ofNat ns)), .val (.int (Int32.ofNat ne)), .val (.int (0 : Int32)), .unset]) rfl k) ?_
    show own_Go p.tables e below _ (T22.setTop (mkF m 73 #[.val (.int p0), .val (.int p1), .val (.int p2), .val (.ref b1), .val (.int (Int32.ofNat ns)), .val (.int (Int32.ofNat ne)), .val (.int (0 : Int32)), .unset] []))
    exact t1 T22 _ X22 eq22 N22 (0 : Int32) (own_first1 c0)
set_option maxRecDepth 65536 in
set_option maxHeartbeats 40000000 in
theorem comes_1 {Post : Tables → Env → Array Value → State → Outcome → State → Prop} (hpost : ∀ tb e args s v u, (limb_1_1.after args s (.returned v) u = true ∧ limb_1_2.after args s (.returned v) u = true ∧ True) → FrameEnd s (.returned v) u (Jvm.fieldLocs frame_1_writes args s ++ Jvm.arrayLocs frame_1_arrays args s ++ Jvm.staticLocs frame_1_statics s) 16 128 → Post tb e args s (.returned v) u) :
    ArmFor flags0 classFile x code maxLocals ret World_1 tables_1 room_1 Calls_1 rest_1 Pre_1 Post := by
  intro l hfl _ _ p e ha hc hk s m args below hf hA hF happ hP
  obtain ⟨hcalls, hrest, hpre⟩ := hP
  obtain ⟨-, -, -, hnamed, -, -, -, hat⟩ := (Spec.applies_iff hf).mp happ
  obtain ⟨hg, hn⟩ := and_e (Cond.before_iff.mp (show (Jvm.Cond.and given_1 narrow_1).before args s = true from hpre))
  obtain ⟨hcnt, hgr0⟩ := and_e hg
  obtain ⟨ga0, hgr1⟩ := and_e hgr0
  obtain ⟨ga1, hgr2⟩ := and_e hgr1
  obtain ⟨w0, w1, w2, rfl⟩ : ∃ w0 w1 w2 : Value, args = #[w0, w1, w2] := by
    have hs : args.size = 3 := by simpa [Cond.value, given_1] using hcnt
    obtain ⟨L⟩ := args
    match L, hs with
    | [w0, w1, w2], _ => exact ⟨w0, w1, w2, rfl⟩
  have hw := fun d (hd : d ∈ tables_1) => atoms_spec (ws := Jvm.Cond.code x code maxLocals ret :: tables_1) hat d (List.mem_cons_of_mem _ hd)
  have hfit : Fit s := fun {y c} hc i hi => by
    obtain ⟨ha, rfl⟩ := Array.getElem?_eq_some_iff.mp hc
    have q := List.all_eq_true.mp ((Array.all_eq_true_iff_forall_mem.mp hF) _ (Array.getElem_mem ha)) i (List.mem_range.mpr hi)
    simpa [Array.getElem?_eq_getElem hi] using q
  obtain ⟨i0, ei0⟩ := is_v ga0
  obtain rfl : w0 = (.int i0) := Option.some.inj ei0
  obtain ⟨i1, ei1⟩ := is_v ga1
  obtain rfl : w1 = (.int i1) := Option.some.inj ei1
  obtain ⟨i2, ei2⟩ := is_v hgr2
  obtain rfl : w2 = (.int i2) := Option.some.inj ei2
  obtain ⟨n, o, h1, h2, h3, _, L, rfl, ⟨rfl, N⟩, hq⟩ := rm0 l s _ hw tables_1 i0 i1 i2 s.heap s.heap.size (Nat.le_refl _)  p e ha hc hk s m _ below hf ((Spec.applies_iff_loose hf).mp happ).1 ⟨rfl, State.Warmed39.refl s, rfl⟩ trivial
  refine ⟨n, _, h1, h2, h3, hpost _ _ _ _ _ _ ⟨Cond.after_iff.mpr rfl, Cond.after_iff.mpr (eq_i res_at (Term.int_eval (1)) rfl), trivial⟩ ⟨hq.1, hq.2.1, (hq.2.2.sift fun y hy => Or.inr (N y hy)).mono (by decide) (by decide)⟩⟩
theorem main_1_1 : Claimed_1_1 := comes_1 fun _ _ _ _ _ _ h hF => ⟨h.1, hF⟩
theorem main_1_2 : Claimed_1_2 := comes_1 fun _ _ _ _ _ _ h hF => ⟨h.2.1, hF⟩
end Jvm.Pilot.@@N@@
namespace Jvm.Pilot.@@N@@
open Jvm Jvm.ClassFile Sem Op Lib Jvm.Free Jvm.Stand Jvm.Pilot.@@N@@.Jvm.D
/-! MADE BY PROGRAM (witnessworld.py) out of the Statement's table words and the real class files: 9 classes; the members and pool entries that the words name. The judged class is class 1, her method 1. -/
namespace start1
open Jvm.ClassFile
def u (s : String) : CpInfo := .utf8 (stringToUtf16 s)
/-- a pool by its gaps: so many unusable entries, then the entry; so many at the end -/
def gap : Nat → List CpInfo → List CpInfo
  | 0, r => r
  | n + 1, r => .unusable :: gap n r
def poolList (es : List (Nat × CpInfo)) (last : Nat) : List CpInfo := es.foldr (fun e r => gap e.1 (e.2 :: r)) (gap last [])
def pool (es : List (Nat × CpInfo)) (last : Nat) : Array CpInfo := ⟨poolList es last⟩
def fileOf (pool : Array CpInfo) (this : Nat) (attrs : Array Attribute := #[]) (ms : Array MethodInfo := #[]) (fl : Nat := 33) (sup : Nat := 0) (ifs : Array Nat := #[]) (fds : Array FieldInfo := #[]) : ClassFile where
  minorVersion := 0
  majorVersion := 65
  constantPool := pool
  accessFlags := fl
  thisClass := this
  superClass := sup
  interfaces := ifs
  fields := fds
  methods := ms
  attributes := attrs
def plain (name : String) (sup : Option ClassId) : Class where
  name := name
  kind := .ordinary
  loader := none
  accessFlags := 33
  super := sup
  interfaces := #[]
  cf := none
  fields := #[]
  methods := #[]
  instanceTypes := #[]
  staticTypes := #[]
  resolved := #[]
  callSites := []
  init := .initialized
  statics := none
  mirror := none

def pool0 : Array CpInfo := pool [(5, u "<init>"), (0, u "()V"), (1, .class_ 10), (1, u "java/lang/Object")] 113

def k0m0 : Method := { name := "<init>", desc := "()V", sig := { parameters := [], returnType := none }, accessFlags := 1, code := none }
/-- java/lang/Object -/
def k0 : Class := { plain "java/lang/Object" none with
  accessFlags := 33
  interfaces := #[]
  cf := some (fileOf pool0 8 #[] #[{ accessFlags := 1, nameIndex := 5, descriptorIndex := 6, attributes := #[] }] 33 0 #[] #[])
  fields := #[]
  methods := #[k0m0]
  instanceTypes := #[]
  staticTypes := #[]
  resolved := Array.replicate 124 none
  statics := none }

def pool1 : Array CpInfo := pool [(2, .class_ 4), (1, u "java/lang/Object"), (0, u "<init>"), (0, u "()V"), (0, .methodref 8 9), (0, .class_ 10), (0, .nameAndType 11 12), (0, u "com/example/hoptrail/hoptrail/io/Utf8IsAsciiPinLaw"), (0, u "nonAsciiInside"), (0, u "([BIII)Z"), (0, .methodref 14 15), (0, .class_ 16), (0, .nameAndType 17 18), (0, u "com/example/hoptrail/hoptrail/io/Utf8"), (0, u "isAscii"), (0, u "([BII)Z"), (2, u "law"), (0, u "(III)Z")] 5

def k1m0 : Method := { name := "<init>", desc := "()V", sig := { parameters := [], returnType := none }, accessFlags := 2, code := none }
def k1c1 : Code := { maxStack := 4, maxLocals := 8, code := code, exceptionTable := #[], attributes := #[] }
def k1m1 : Method := { name := "law", desc := "(III)Z", sig := { parameters := [.int, .int, .int], returnType := some .boolean }, accessFlags := 9, code := some k1c1 }
def k1c2 : Code := { maxStack := 2, maxLocals := 4, code := method_3_code, exceptionTable := #[], attributes := #[] }
def k1m2 : Method := { name := "nonAsciiInside", desc := "([BIII)Z", sig := { parameters := [(.array .byte), .int, .int, .int], returnType := some .boolean }, accessFlags := 10, code := some k1c2 }
/-- com/example/hoptrail/hoptrail/io/Utf8IsAsciiPinLaw -/
def k1 : Class := { plain "com/example/hoptrail/hoptrail/io/Utf8IsAsciiPinLaw" (some 0) with
  accessFlags := 49
  interfaces := #[]
  cf := some (fileOf pool1 8 #[] #[{ accessFlags := 2, nameIndex := 5, descriptorIndex := 6, attributes := #[] }, { accessFlags := 9, nameIndex := 21, descriptorIndex := 22, attributes := #[] }, { accessFlags := 10, nameIndex := 11, descriptorIndex := 12, attributes := #[] }] 49 2 #[] #[])
  fields := #[]
  methods := #[k1m0, k1m1, k1m2]
  instanceTypes := #[]
  staticTypes := #[]
  resolved := Array.replicate 28 none
  statics := none }

def pool2 : Array CpInfo := pool [(2, .class_ 4), (1, u "java/lang/Object"), (0, u "<init>"), (0, u "()V"), (1, .class_ 10), (1, u "com/example/hoptrail/hoptrail/io/Utf8"), (4, u "BYTE_ORDER_MARK"), (0, u "[B"), (27, u "isAscii"), (0, u "([BII)Z"), (38, u "CHECKED_AT_ONCE"), (0, u "I")] 11

def k2m0 : Method := { name := "<init>", desc := "()V", sig := { parameters := [], returnType := none }, accessFlags := 2, code := none }
def k2c1 : Code := { maxStack := 2, maxLocals := 4, code := prog_10_method_6_code, exceptionTable := #[], attributes := #[] }
def k2m1 : Method := { name := "isAscii", desc := "([BII)Z", sig := { parameters := [(.array .byte), .int, .int], returnType := some .boolean }, accessFlags := 8, code := some k2c1 }
/-- com/example/hoptrail/hoptrail/io/Utf8 -/
def k2 : Class := { plain "com/example/hoptrail/hoptrail/io/Utf8" (some 0) with
  accessFlags := 48
  interfaces := #[]
  cf := some (fileOf pool2 8 #[] #[{ accessFlags := 2, nameIndex := 5, descriptorIndex := 6, attributes := #[] }, { accessFlags := 8, nameIndex := 44, descriptorIndex := 45, attributes := #[] }] 48 2 #[] #[{ accessFlags := 26, nameIndex := 15, descriptorIndex := 16, attributes := #[] }, { accessFlags := 26, nameIndex := 84, descriptorIndex := 85, attributes := #[] }])
  fields := #[{ name := "BYTE_ORDER_MARK", type := (.array .byte), accessFlags := 26, slot := 0, constantValue := 0 }, { name := "CHECKED_AT_ONCE", type := .int, accessFlags := 26, slot := 1, constantValue := 0 }]
  methods := #[k2m0, k2m1]
  instanceTypes := #[]
  staticTypes := #[(.array .byte), .int]
  resolved := Array.replicate 97 none
  statics := none }

def pool3 : Array CpInfo := pool [(1, u "java/lang/Cloneable"), (0, .class_ 1), (0, u "java/lang/Object"), (0, .class_ 3)] 3

/-- java/lang/Cloneable -/
def k3 : Class := { plain "java/lang/Cloneable" (some 0) with
  accessFlags := 1537
  interfaces := #[]
  cf := some (fileOf pool3 2 #[] #[] 1537 4 #[] #[])
  fields := #[]
  methods := #[]
  instanceTypes := #[]
  staticTypes := #[]
  resolved := Array.replicate 8 none
  statics := none }

def pool4 : Array CpInfo := pool [(1, u "java/io/Serializable"), (0, .class_ 1), (0, u "java/lang/Object"), (0, .class_ 3)] 3

/-- java/io/Serializable -/
def k4 : Class := { plain "java/io/Serializable" (some 0) with
  accessFlags := 1537
  interfaces := #[]
  cf := some (fileOf pool4 2 #[] #[] 1537 4 #[] #[])
  fields := #[]
  methods := #[]
  instanceTypes := #[]
  staticTypes := #[]
  resolved := Array.replicate 8 none
  statics := none }

/-- the primitive byte -/
def k5 : Class := { plain "byte" none with kind := .primitive 'B', accessFlags := 0x411 }
/-- [B -/
def k6 : Class := { plain "[B" (some 0) with kind := .array 5 .byte, interfaces := #[3, 4], accessFlags := 1041 }

/-- the primitive int -/
def k7 : Class := { plain "int" none with kind := .primitive 'I', accessFlags := 0x411 }
/-- [I -/
def k8 : Class := { plain "[I" (some 0) with kind := .array 7 .int, interfaces := #[3, 4], accessFlags := 1041 }

def heap : Heap := #[]
def classes : Array Class := #[k0, k1, k2, k3, k4, k5, k6, k7, k8]
def interned : List (Array UInt16 × Addr) := []
def slotsUsed : Nat := 0
def theMethod : MethodId := ⟨1, 1⟩
def args0 : Array Value := #[.int 5, .int 6, .int 7]
def aboutOver (below : List Frame) : State where
  vm := { classes := classes, interned := interned.toArray }
  heap := heap
  slotsUsed := slotsUsed
  threads := #[{ frames := .invoking theMethod args0 :: below }]
def below0 : List Frame := [.native { method := ⟨0, 0⟩, args := #[] }]
def about1 : State := aboutOver below0
def p0 : Program := .bare "" "" ""
def e0 : Env := launch0.env 0 0 0
theorem w_frames : about1.frames = Frame.invoking theMethod args0 :: below0 := rfl
set_option maxRecDepth 65536 in
theorem w_args : argsFit about1.vm theMethod args0 = true := by decide +kernel
set_option maxRecDepth 65536 in
theorem w_heap : heapFits about1 = true := by decide +kernel
set_option maxRecDepth 65536 in
theorem w_runnable : about1.curStatus? = some .runnable := by decide +kernel
set_option maxRecDepth 65536 in
theorem w_alone : about1.alone = true := by decide +kernel
set_option maxRecDepth 65536 in
theorem w_named : about1.methodNamed? x = some theMethod := by decide +kernel
set_option maxRecDepth 65536 in
theorem w_hears : about1.hears theMethod below0 = true := by decide +kernel
set_option maxRecDepth 65536 in
theorem w_ripe : about1.ripe theMethod args0 below0 = true := by decide +kernel
theorem w_running : about1.status = .running := rfl
set_option maxRecDepth 65536 in
theorem w_room : about1.hasRoom e0.platform room_1 = true :=
  launch0.hasRoom_least _ room_1 (by decide +kernel) (by decide +kernel) (by decide +kernel) (by decide +kernel) (by decide +kernel) (by decide +kernel)
theorem allAtoms_all (ts : List Jvm.Cond) (a : Array Jvm.Value) (st : Jvm.State) : (allAtoms ts).before a st = ts.all (fun c => c.before a st) := by
  induction ts with
  | nil => rfl
  | cons c t ih =>
    show (Jvm.Cond.and c (allAtoms t)).before a st = _
    rw [Jvm.Cond.before_and, ih, List.all_cons]
def words1 : List Jvm.Cond := Jvm.Cond.code x code maxLocals ret :: tables_1
/-- a 'code' word, met by the world's own term for the bytes: nothing is compared byte by byte -/
theorem code_word {y : MethodName} {bytes : ByteArray} {mx : Nat} {rt : Option FieldType} {a : Array Value} {s : State} {m : MethodId} {meth : Method} {c : Code} (h1 : s.methodNamed? y = some m) (h2 : s.vm.method? m = some meth) (h3 : meth.code = some c) (h4 : c.code = bytes)
    (h5 : (c.maxLocals == mx && c.exceptionTable.isEmpty && decide (c.maxStack ≤ mostOperands) && decide (meth.sig.returnType = rt) && !meth.locks && decide (parseMethodDescriptor y.desc = some meth.sig)) = true) : (Jvm.Cond.code y bytes mx rt).before a s = true := by
  simp only [Bool.and_eq_true, beq_iff_eq, Bool.not_eq_true', decide_eq_true_eq] at h5
  obtain ⟨⟨⟨⟨⟨g1, g2⟩, g3⟩, g4⟩, g5⟩, g6⟩ := h5
  simp [Cond.before, Cond.holds, Cond.value, h1, h2, h3, h4, g1, g2, g3, g4, g5, g6]
def isCode : Jvm.Cond → Bool
  | .code _ _ _ _ => true
  | _ => false
theorem all_split {L : List Jvm.Cond} {P : Jvm.Cond → Bool} (h1 : L.all (fun c => isCode c || P c) = true) (h2 : ∀ c ∈ L.filter isCode, P c = true) : L.all P = true := by
  refine List.all_eq_true.mpr fun c hc => ?_
  have h := List.all_eq_true.mp h1 c hc
  rcases Bool.eq_false_or_eq_true (isCode c) with hi | hi
  · exact h2 c (List.mem_filter.mpr ⟨hc, hi⟩)
  · simpa [hi] using h
set_option maxRecDepth 65536 in
theorem w_c0 : (Jvm.Cond.code x code maxLocals ret).before args0 about1 = true := code_word (m := ⟨1, 1⟩) (meth := k1m1) (c := k1c1) (by decide +kernel) rfl rfl rfl (by decide +kernel)
set_option maxRecDepth 65536 in
theorem w_c1 : (Jvm.Cond.code ({ cls := "com/example/hoptrail/hoptrail/io/Utf8IsAsciiPinLaw", name := "nonAsciiInside", desc := "([BIII)Z" } : Jvm.MethodName) method_3_code (4 : Nat) (Option.some Jvm.ClassFile.FieldType.boolean)).before args0 about1 = true := code_word (m := ⟨1, 2⟩) (meth := k1m2) (c := k1c2) (by decide +kernel) rfl rfl rfl (by decide +kernel)
set_option maxRecDepth 65536 in
theorem w_c2 : (Jvm.Cond.code ({ cls := "com/example/hoptrail/hoptrail/io/Utf8", name := "isAscii", desc := "([BII)Z" } : Jvm.MethodName) prog_10_method_6_code (4 : Nat) (Option.some Jvm.ClassFile.FieldType.boolean)).before args0 about1 = true := code_word (m := ⟨2, 1⟩) (meth := k2m1) (c := k2c1) (by decide +kernel) rfl rfl rfl (by decide +kernel)
def codes1 : List Jvm.Cond := [Jvm.Cond.code x code maxLocals ret, Jvm.Cond.code ({ cls := "com/example/hoptrail/hoptrail/io/Utf8IsAsciiPinLaw", name := "nonAsciiInside", desc := "([BIII)Z" } : Jvm.MethodName) method_3_code (4 : Nat) (Option.some Jvm.ClassFile.FieldType.boolean), Jvm.Cond.code ({ cls := "com/example/hoptrail/hoptrail/io/Utf8", name := "isAscii", desc := "([BII)Z" } : Jvm.MethodName) prog_10_method_6_code (4 : Nat) (Option.some Jvm.ClassFile.FieldType.boolean)]
set_option maxRecDepth 65536 in
theorem codes_eq : words1.filter isCode = codes1 := rfl
theorem w_codes : ∀ c ∈ words1.filter isCode, c.before args0 about1 = true := by
  rw [codes_eq]
  intro c hc
  simp only [codes1, List.mem_cons, List.not_mem_nil, or_false] at hc
  rcases hc with rfl | rfl | rfl
  · exact w_c0
  · exact w_c1
  · exact w_c2
set_option maxRecDepth 65536 in
theorem w_t1 : words1.all (fun c => isCode c || c.before args0 about1) = true := by decide +kernel
theorem w_tables : (allAtoms (Jvm.Cond.code x code maxLocals ret :: tables_1)).before args0 about1 = true := by
  rw [allAtoms_all]
  show words1.all (fun c => c.before args0 about1) = true
  refine all_split ?_ w_codes
  rw [w_t1]
set_option maxRecDepth 65536 in
theorem w_case : (Jvm.Cond.and given_1 narrow_1).before args0 about1 = true := by decide +kernel
theorem w_applies : (headSpec (Jvm.Cond.code x code maxLocals ret :: tables_1) room_1).applies x e0.platform about1 = true :=
  (Spec.applies_iff w_frames).mpr ⟨w_running, w_runnable, w_alone, w_named, w_hears, w_ripe, w_room, w_tables⟩
theorem atStart : AtStart classFile x code maxLocals ret World_1 tables_1 room_1 Calls_1 rest_1 Pre_1 launch0 p0 e0 about1 theMethod args0 below0 :=
  ⟨lists_1, trivial, launch0.admits_env _ _ _, launch0.least_env, fairChoices_fair.cas, fairChoices_fair.clock, w_frames, w_args, w_heap, w_applies, trivial, trivial, w_case⟩
end start1
theorem witness_1 : WitnessClaimed_1 := ⟨start1.p0, start1.e0, start1.about1, start1.theMethod, start1.args0, start1.below0, start1.atStart⟩
end Jvm.Pilot.@@N@@
