import JvmDerived
import JvmDerived.Pilot.@@N@@Statement
import JvmDerived.Pilot.@@N@@Code
set_option linter.unusedVariables false
set_option linter.unusedSimpArgs false
namespace Jvm.Pilot.@@N@@
open Jvm Jvm.ClassFile Sem Op Lib Jvm.Free Jvm.Stand Jvm.LawKit Jvm.RoadKit Bundle Jvm.Pilot.@@N@@.Jvm.D
def own_Go (tb : Tables) (e : Env) (below : List Frame) (G : State → Outcome → Prop) (s : State) : Prop := ∃ s₂ o, Steps tb e below s s₂ ∧ s₂.status = .running ∧ Ended s₂ below o ∧ G s₂ o
theorem own_up {tb : Tables} {e : Env} {below : List Frame} {G : State → Outcome → Prop} {s s' : State} (f : ∀ t, Steps tb e below s' t → Steps tb e below s t) (h : own_Go tb e below G s') : own_Go tb e below G s := by
  obtain ⟨s₂, o, h1, h2⟩ := h
  exact ⟨s₂, o, f _ h1, h2⟩
theorem own_selp {s : State} {args : Array Value} {y : MethodName} {n : Nat} (hi : (Cond.instantiable y.cls n).before args s = true) (hp : s.PrivateAt y) (hinst : (Cond.instanceMethod y).before args s = true) (hy : y.cls ≠ "java/lang/invoke/MethodHandle" ∧ y.cls ≠ "java/lang/invoke/VarHandle") : (Cond.selects y.cls y y).before args s = true := by
  obtain ⟨c, k, h1, h2, -, h4, -, -⟩ := Cond.instantiable_spec hi
  rw [Bool.or_eq_false_iff] at h4
  exact selects_self_of_private h1 h2 h4.1 hp hinst hy
theorem own_end {p : Program} {l : Launch} {e : Env} {R : Room} {s : State} {m : MethodId} {args : Array Value} {below : List Frame} {meth : Method} {c : Code} {T : State} {locs : List Loc} {cells slots : Nat} (X : Stand p l e R s m args below meth c T locs cells slots) (hlocks : meth.locks = false) {v : Option Value} (hv : meth.sig.returnType = none → v = none) {g : JFrame}
    (step : ∀ fs, (∀ (f : JFrame) (acts : List Action), f.method = m → f.locked = none → f.entered = [] → (doReturn e (T.setTop f) acts v).1 = T.setFrames fs) → Steps p.tables e below (T.setTop g) (T.setFrames fs)) {h : Heap} (eT : T.heap = h) {Q : Option Value → Heap → List Loc → Prop} {kc ks : Nat} (hQ : Q v h locs) (hc : cells ≤ kc) (hs : slots ≤ ks) :
    own_Go p.tables e below (fun u o => ∃ v L, o = .returned v ∧ Q v u.heap L ∧ FrameEnd s o u L kc ks) (T.setTop g) := by
  obtain ⟨fs, hr, hrun, hended, hW, hsame⟩ := X.leave (v := v) hv hlocks
  subst eT
  exact ⟨_, _, step fs hr, hrun, hended, _, _, rfl, hQ, ⟨_, rfl⟩, hW, hsame.mono hc hs⟩
theorem own_m3 (x : Int32) : 0 ≤ (x &&& (3 : Int32)).toInt ∧ (x &&& (3 : Int32)).toInt ≤ 3 := by
  have h := c_mask x 3 2 (by decide) (by decide)
  omega
theorem own_m1 (x : Int32) : 0 ≤ (x &&& (1 : Int32)).toInt ∧ (x &&& (1 : Int32)).toInt ≤ 1 := by
  have h := c_mask x 1 1 (by decide) (by decide)
  omega
theorem own_m33 (x : Int32) : 0 ≤ ((x &&& (3 : Int32)) % (3 : Int32)).toInt ∧ ((x &&& (3 : Int32)) % (3 : Int32)).toInt ≤ 2 := by
  have h := own_m3 x
  have h2 := (c_irem (x &&& 3) 3 3 (by decide)).1
  omega
theorem own_lit {z : Int32} {n : Int} (hn : z.toInt = n) (w : Int32) (hw : w.toInt = n) : z = w := Int32.toInt_inj.mp (hn.trans hw.symm)
theorem own_012 {z : Int32} (h : 0 ≤ z.toInt ∧ z.toInt ≤ 2) : z = 0 ∨ z = 1 ∨ z = 2 := by
  have q : z.toInt = 0 ∨ z.toInt = 1 ∨ z.toInt = 2 := by omega
  rcases q with q | q | q
  · exact Or.inl (own_lit q 0 (by decide))
  · exact Or.inr (Or.inl (own_lit q 1 (by decide)))
  · exact Or.inr (Or.inr (own_lit q 2 (by decide)))
theorem own_01 {z : Int32} (h : 0 ≤ z.toInt ∧ z.toInt ≤ 1) : z = 0 ∨ z = 1 := by
  have q : z.toInt = 0 ∨ z.toInt = 1 := by omega
  rcases q with q | q
  · exact Or.inl (own_lit q 0 (by decide))
  · exact Or.inr (own_lit q 1 (by decide))
theorem own_cmp {x y s : Int32} (hx : 0 ≤ x.toInt ∧ x.toInt ≤ 100) (hy : 0 ≤ y.toInt ∧ y.toInt ≤ 100) : (x.toInt64 - y.toInt64) < s.toInt64 ↔ x - y < s := by
  rw [Int64.lt_iff_toInt_lt, Int32.lt_iff_toInt_lt, c_i2l]
  have h1 := c_lsub x.toInt64 y.toInt64
  have h2 := c_isub x y
  rw [c_i2l, c_i2l] at h1
  have r1 := rng64 (x.toInt64 - y.toInt64)
  have r2 := rng32 (x - y)
  have e : (x.toInt64 - y.toInt64).toInt = (x - y).toInt := by omega
  rw [e]
theorem own_R2 {P Q Q' : Prop} [Decidable P] [Decidable Q] [Decidable Q'] (hq : Q ↔ Q') : (if P then (0 : Int32) else if Q then 1 else 0) = if ¬ P ∧ Q' then 1 else 0 := by
  by_cases h1 : P <;> by_cases h2 : Q <;> by_cases h3 : Q' <;> simp_all
theorem own_max (w : Int64) : (if w < (9223372036854775807 : Int64) then w else (9223372036854775807 : Int64)) = w := by
  split
  · rfl
  · rename_i h
    rw [Int64.lt_iff_toInt_lt, show (9223372036854775807 : Int64).toInt = 9223372036854775807 from by decide] at h
    have r := rng64 w
    apply Int64.toInt_inj.mp
    rw [show (9223372036854775807 : Int64).toInt = 9223372036854775807 from by decide]
    omega
theorem own_eqmax (w : Int64) : w = (9223372036854775807 : Int64) ↔ ¬ w < (9223372036854775807 : Int64) := by
  constructor
  · intro h; rw [h]; decide
  · intro h; have q := own_max w; rw [if_neg h] at q; exact q.symm
theorem own_zero (r : Int64) {sv : Int32} (h : 0 ≤ sv.toInt) : (¬ (r - r) < sv.toInt64 ∧ ¬ (r - r) < sv.toInt64) ↔ sv = 0 := by
  rw [Int64.sub_self, Int64.lt_iff_toInt_lt, c_i2l, show (0 : Int64).toInt = 0 from by decide]
  constructor
  · intro q; exact Int32.toInt_inj.mp (by rw [show (0 : Int32).toInt = 0 from by decide]; omega)
  · intro q; rw [q]; decide
theorem own_zero2 (r t : Int64) {sv : Int32} (h : 0 ≤ sv.toInt) : (¬ (r - r) < sv.toInt64 ∧ ¬ (t - t) < sv.toInt64) ↔ sv = 0 := by
  rw [Int64.sub_self t, ← Int64.sub_self r]; exact own_zero r h
def own_CC (pv av bv base sv : Int32) : Prop := ¬ (pv + av) - base < sv ∧ ¬ bv < sv
instance (pv av bv base sv : Int32) : Decidable (own_CC pv av bv base sv) := inferInstanceAs (Decidable (¬ (pv + av) - base < sv ∧ ¬ bv < sv))
theorem own_sum {x y : Int32} (hx : 0 ≤ x.toInt ∧ x.toInt ≤ 1) (hy : 0 ≤ y.toInt ∧ y.toInt ≤ 2) : 0 ≤ (x + y).toInt ∧ (x + y).toInt ≤ 3 := by
  have h := c_iadd x y
  have r := rng32 (x + y)
  omega
theorem own_cnd {pv av bv base sv : Int32} {r0 r1 g0 : Int64} (hp : 0 ≤ pv.toInt ∧ pv.toInt ≤ 1) (ha : 0 ≤ av.toInt ∧ av.toInt ≤ 2) (hb : 0 ≤ bv.toInt ∧ bv.toInt ≤ 2) (hba : 0 ≤ base.toInt ∧ base.toInt ≤ 1) (h0 : r0 = (pv + av).toInt64) (h1 : r1 = bv.toInt64) (h2 : g0 = base.toInt64) :
    (¬ (r0 - g0) < sv.toInt64 ∧ ¬ (r1 - (0 : Int64)) < sv.toInt64) ↔ own_CC pv av bv base sv := by
  have hs := own_sum hp ha
  have e1 := own_cmp (x := pv + av) (y := base) (s := sv) (by omega) (by omega)
  have e2 := own_cmp (x := bv) (y := 0) (s := sv) (by omega) (by decide)
  rw [show (0 : Int32).toInt64 = (0 : Int64) from by decide, Int32.sub_zero] at e2
  subst h0 h1 h2
  rw [e1, e2]; rfl
theorem own_R3 {M W Q Q' Q'' Q3 : Prop} [Decidable M] [Decidable Q] [Decidable W] [Decidable Q'] [Decidable Q''] (h1 : W → (Q ↔ Q')) (h2 : ¬ W → (Q ↔ Q'')) : (if M then (0 : Int32) else if Q then 1 else 0) = if M then 0 else if W then (if Q' then 1 else 0) else (if Q'' then 1 else 0) := by
  by_cases m1 : M <;> by_cases m2 : W <;> simp_all
theorem own_no {P : Prop} [Decidable P] (h : (if P then (1 : Int32) else 0) = 0) : ¬ P := by
  by_cases q : P <;> simp [q] at h ⊢
theorem own_yes {P : Prop} [Decidable P] (h : ¬ (if P then (1 : Int32) else 0) = 0) : P := by
  by_cases q : P <;> simp [q] at h ⊢
theorem own_p64 {pv : Int32} (h : 0 ≤ pv.toInt ∧ pv.toInt ≤ 1) : 0 ≤ pv.toInt64.toInt ∧ pv.toInt64.toInt ≤ 1 := by rw [c_i2l]; exact h
theorem own_first {r0 : Int64} {sv : Int32} (h : 0 ≤ sv.toInt) (h0 : 0 ≤ r0.toInt ∧ r0.toInt ≤ 1) : (¬ (r0 - (0 : Int64)) < sv.toInt64 ∧ ¬ ((0 : Int64) - (0 : Int64)) < sv.toInt64) ↔ sv = 0 := by
  rw [Int64.sub_self, Int64.sub_zero, Int64.lt_iff_toInt_lt, Int64.lt_iff_toInt_lt, c_i2l, show (0 : Int64).toInt = 0 from by decide]
  constructor
  · intro q; exact Int32.toInt_inj.mp (by rw [show (0 : Int32).toInt = 0 from by decide]; omega)
  · intro q; rw [q, show (0 : Int32).toInt = 0 from by decide]; omega
theorem d_prog_73_m_1_0 : decode prog_73_method_1_code 0 = .ok (.aload_n 0, 1) := by decide +kernel
theorem d_prog_73_m_1_1 : decode prog_73_method_1_code 1 = .ok (.invokespecial 1, 3) := by decide +kernel
theorem d_prog_73_m_1_4 : decode prog_73_method_1_code 4 = .ok (.aload_n 0, 1) := by decide +kernel
theorem d_prog_73_m_1_5 : decode prog_73_method_1_code 5 = .ok (.ldc2_w 9, 3) := by decide +kernel
theorem d_prog_73_m_1_8 : decode prog_73_method_1_code 8 = .ok (.putfield 11, 3) := by decide +kernel
theorem d_prog_73_m_1_11 : decode prog_73_method_1_code 11 = .ok (.aload_n 0, 1) := by decide +kernel
theorem d_prog_73_m_1_12 : decode prog_73_method_1_code 12 = .ok (.iload_n 2, 1) := by decide +kernel
theorem d_prog_73_m_1_13 : decode prog_73_method_1_code 13 = .ok (.putfield 17, 3) := by decide +kernel
theorem d_prog_73_m_1_16 : decode prog_73_method_1_code 16 = .ok (.aload_n 0, 1) := by decide +kernel
theorem d_prog_73_m_1_17 : decode prog_73_method_1_code 17 = .ok (.iload_n 1, 1) := by decide +kernel
theorem d_prog_73_m_1_18 : decode prog_73_method_1_code 18 = .ok (.newarray .long, 2) := by decide +kernel
theorem d_prog_73_m_1_20 : decode prog_73_method_1_code 20 = .ok (.putfield 21, 3) := by decide +kernel
theorem d_prog_73_m_1_23 : decode prog_73_method_1_code 23 = .ok (.aload_n 0, 1) := by decide +kernel
theorem d_prog_73_m_1_24 : decode prog_73_method_1_code 24 = .ok (.aload_n 0, 1) := by decide +kernel
theorem d_prog_73_m_1_25 : decode prog_73_method_1_code 25 = .ok (.getfield 21, 3) := by decide +kernel
theorem d_prog_73_m_1_28 : decode prog_73_method_1_code 28 = .ok (.invokevirtual 25, 3) := by decide +kernel
theorem d_prog_73_m_1_31 : decode prog_73_method_1_code 31 = .ok (.checkcast 26, 3) := by decide +kernel
theorem d_prog_73_m_1_34 : decode prog_73_method_1_code 34 = .ok (.putfield 30, 3) := by decide +kernel
theorem d_prog_73_m_1_37 : decode prog_73_method_1_code 37 = .ok (.return_, 1) := by decide +kernel
theorem own_pn0 : plainName "com/example/rondel/rondel/Simulator$Settling" = true := by first | (simp [plainName, overriddenIn]; done) | decide +kernel
theorem ef_rm1 (m : MethodId) (y0 : Addr) (y1 : Int32) (y2 : Int32) : entryFrame m #[(.ref y0), (.int y1), (.int y2)] 3 = mkF m 0 #[.val (.ref y0), .val (.int y1), .val (.int y2)] [] := by first | (simp [entryFrame, mkF, argsToLocals, Value.category]; done) | rfl
def Q_rm1 (Z : State) (st : Addr) (ps : Int32) (h0 : Heap) (n0 : Nat) (v : Option Value) (h : Heap) (L : List Loc) : Prop := ∃ (ra : Addr) (fa : Addr) (kr : ClassId), v = none ∧ Fr n0 L ∧ Keep h0 h [st] ∧ n0 ≤ ra ∧ n0 ≤ fa ∧ st ≠ ra ∧ st ≠ fa ∧ ra ≠ fa ∧ Exa Z h st "com/example/rondel/rondel/Simulator$Settling" ∧ Fld Z h st "com/example/rondel/rondel/Simulator$Settling" "fewestWrong" "J" (.long (9223372036854775807 : Int64)) ∧ Fld Z h st "com/example/rondel/rondel/Simulator$Settling" "stallRounds" "I" (.int ps) ∧ Fld Z h st "com/example/rondel/rondel/Simulator$Settling" "rounds" "[J" (.ref ra) ∧ Fld Z h st "com/example/rondel/rondel/Simulator$Settling" "roundsAtFewest" "[J" (.ref fa) ∧ Arv Z h ra kr .long (2 : Int32) [(.long (0 : Int64)), (.long (0 : Int64))] (.long (0 : Int64)) ∧ Arv Z h fa kr .long (2 : Int32) [(.long (0 : Int64)), (.long (0 : Int64))] (.long (0 : Int64)) ∧ Exa Z h ra "[J"
set_option maxRecDepth 65536 in
set_option maxHeartbeats 40000000 in
theorem rm1 (l : Launch) (Z : State) (a0 : Array Value) (hw : ∀ d ∈ tables_1, d.before a0 Z = true) (ws : List Jvm.Cond) (st : Addr) (ps : Int32) (h0 : Heap) (n0 : Nat) (Z0 : n0 ≤ h0.size) (E : Exa Z h0 st "com/example/rondel/rondel/Simulator$Settling") (F1 : Fld Z h0 st "com/example/rondel/rondel/Simulator$Settling" "fewestWrong" "J" (.long (0 : Int64))) (F2 : Fld Z h0 st "com/example/rondel/rondel/Simulator$Settling" "stallRounds" "I" (.int (0 : Int32))) (F3 : Fld Z h0 st "com/example/rondel/rondel/Simulator$Settling" "rounds" "[J" .null) (F4 : Fld Z h0 st "com/example/rondel/rondel/Simulator$Settling" "roundsAtFewest" "[J" .null) (G : n0 ≤ st) :
    MetFree l (⟨"com/example/rondel/rondel/Simulator$Settling", "<init>", "(II)V"⟩ : MethodName) (head1 (Jvm.Cond.code (⟨"com/example/rondel/rondel/Simulator$Settling", "<init>", "(II)V"⟩ : MethodName) prog_73_method_1_code 3 none :: ws) ({ frames := 1, cells := 2, slots := 4, locals := 15 } : Room)) (fun ar U => ar = #[(.ref st), (.int (2 : Int32)), (.int ps)] ∧ Z.Warmed39 U.vm ∧ U.heap = h0) (fun _ _ _ _ _ => True) (fun _ U o U' => ∃ v L, o = .returned v ∧ Q_rm1 Z st ps h0 n0 v U'.heap L ∧ FrameEnd U o U' L ({ frames := 1, cells := 2, slots := 4, locals := 15 } : Room).cells ({ frames := 1, cells := 2, slots := 4, locals := 15 } : Room).slots) := by
  refine MetFree.of_bodySF (plainFor_of_name own_pn0) hisR ?_
  intro p e s m args below meth c s₁ Bd hml0 hP hK
  obtain ⟨rfl, hZ, hh⟩ := hP
  have hx := Bd.exec
  have hby := Bd.bytes
  have hlk : meth.locks = false := BodyLoose.notSynchronized Bd
  have hml : c.maxLocals = 3 := hml0
  have hown : s.vm.findClass "com/example/rondel/rondel/Simulator$Settling" = some m.cls := findClass_of_methodNamed Bd.named
  have hnm := (name_of_methodNamed Bd.named Bd.method).1
  have X0 : Stand p l e ({ frames := 1, cells := 2, slots := 4, locals := 15 } : Room) s m #[(.ref st), (.int (2 : Int32)), (.int ps)] below meth c s₁ [] 0 0 := Stand.of_body Bd
  have e0 : s₁.heap = h0 := by rw [← hh, Bd.state]; rfl
  have N0 := Fr.nil n0
  show own_Go p.tables e below (fun u o => ∃ v L, o = .returned v ∧ Q_rm1 Z st ps h0 n0 v u.heap L ∧ FrameEnd s o u L ({ frames := 1, cells := 2, slots := 4, locals := 15 } : Room).cells ({ frames := 1, cells := 2, slots := 4, locals := 15 } : Room).slots) (s₁.setTop (entryFrame m #[(.ref st), (.int (2 : Int32)), (.int ps)] 3))
  refine own_up (fun _ k => castTop (ef_rm1 m st (2 : Int32) ps) k) ?_
  show own_Go p.tables e below _ (s₁.setTop (mkF m 0 #[.val (.ref st), .val (.int (2 : Int32)), .val (.int ps)] []))
  refine own_up (fun _ k => XS.aloadN X0.here hx rfl (hb hby d_prog_73_m_1_0) rfl rfl k) ?_
  show own_Go p.tables e below _ (s₁.setTop (mkF m 1 #[.val (.ref st), .val (.int (2 : Int32)), .val (.int ps)] [(.ref st)]))
  obtain ⟨T1, X1, e1, st1⟩ := initO X0 hx hZ hown (hw _ (List.mem_of_getElem? (i := 6) rfl)) (hw _ (List.mem_of_getElem? (i := 7) rfl)) (hw _ (List.mem_of_getElem? (i := 8) rfl)) e0 (g := (mkF m 1 #[.val (.ref st), .val (.int (2 : Int32)), .val (.int ps)] [(.ref st)])) rfl (by rw [hml]; rfl) rfl (hb hby d_prog_73_m_1_1) (by decide) (W := 0) (by show 2 * 0 + _ ≤ _; exact Nat.le_of_eq rfl) (by decide)
  refine own_up st1 ?_
  show own_Go p.tables e below _ (T1.setTop (mkF m 4 #[.val (.ref st), .val (.int (2 : Int32)), .val (.int ps)] []))
  refine own_up (fun _ k => XS.aloadN X1.here hx rfl (hb hby d_prog_73_m_1_4) rfl rfl k) ?_
  show own_Go p.tables e below _ (T1.setTop (mkF m 5 #[.val (.ref st), .val (.int (2 : Int32)), .val (.int ps)] [(.ref st)]))
  refine own_up (fun _ k => X1.ldc2Long hx hown (mvT hZ (hw _ (List.mem_of_getElem? (i := 9) rfl))) (g := (mkF m 5 #[.val (.ref st), .val (.int (2 : Int32)), .val (.int ps)] [(.ref st)])) rfl (hb hby d_prog_73_m_1_5) _ k) ?_
  show own_Go p.tables e below _ (T1.setTop (mkF m 8 #[.val (.ref st), .val (.int (2 : Int32)), .val (.int ps)] [(.long (9223372036854775807 : Int64)), (.ref st)]))
  obtain ⟨T2, h2, X2, e2, W2, st2⟩ := putF X1 hx hZ hown (host := "") (Or.inl (hw _ (List.mem_of_getElem? (i := 10) rfl))) Via.refl e1 F1 E (Or.inl (hw _ (List.mem_of_getElem? (i := 11) rfl))) (hw _ (List.mem_of_getElem? (i := 1) rfl)) (ty := .long) (by decide) rfl rfl (g := (mkF m 8 #[.val (.ref st), .val (.int (2 : Int32)), .val (.int ps)] [(.long (9223372036854775807 : Int64)), (.ref st)])) rfl rfl (hb hby d_prog_73_m_1_8)
  have Fw2 := F1.same W2
  have N2 := Fr.snoc X2 N0 G
  refine own_up st2 ?_
  show own_Go p.tables e below _ (T2.setTop (mkF m 11 #[.val (.ref st), .val (.int (2 : Int32)), .val (.int ps)] []))
  refine own_up (fun _ k => XS.aloadN X2.here hx rfl (hb hby d_prog_73_m_1_11) rfl rfl k) ?_
  show own_Go p.tables e below _ (T2.setTop (mkF m 12 #[.val (.ref st), .val (.int (2 : Int32)), .val (.int ps)] [(.ref st)]))
  refine own_up (fun _ k => XS.iloadN X2.here hx rfl (hb hby d_prog_73_m_1_12) rfl k) ?_
  show own_Go p.tables e below _ (T2.setTop (mkF m 13 #[.val (.ref st), .val (.int (2 : Int32)), .val (.int ps)] [(.int ps), (.ref st)]))
  have f3 : Fld Z h2 st "com/example/rondel/rondel/Simulator$Settling" "stallRounds" "I" (.int (0 : Int32)) := (F2.other W2 (Or.inr (slot_ne (Or.inr (hw _ (List.mem_of_getElem? (i := 13) rfl))) (Or.inl (hw _ (List.mem_of_getElem? (i := 11) rfl))) (by decide) (t := .int) (t' := .long) (by decide) (by decide))))
  have f4 : Exa Z h2 st "com/example/rondel/rondel/Simulator$Settling" := (E.wr W2)
  obtain ⟨T5, h5, X5, e5, W5, st5⟩ := putF X2 hx hZ hown (host := "") (Or.inl (hw _ (List.mem_of_getElem? (i := 12) rfl))) Via.refl e2 f3 f4 (Or.inr ⟨(hw _ (List.mem_of_getElem? (i := 13) rfl)), rfl, hnm⟩) (hw _ (List.mem_of_getElem? (i := 1) rfl)) (ty := .int) (by decide) rfl rfl (g := (mkF m 13 #[.val (.ref st), .val (.int (2 : Int32)), .val (.int ps)] [(.int ps), (.ref st)])) rfl rfl (hb hby d_prog_73_m_1_13)
  have Fw5 := f3.same W5
  have N5 := Fr.snoc X5 N2 G
  refine own_up st5 ?_
  show own_Go p.tables e below _ (T5.setTop (mkF m 16 #[.val (.ref st), .val (.int (2 : Int32)), .val (.int ps)] []))
  refine own_up (fun _ k => XS.aloadN X5.here hx rfl (hb hby d_prog_73_m_1_16) rfl rfl k) ?_
  show own_Go p.tables e below _ (T5.setTop (mkF m 17 #[.val (.ref st), .val (.int (2 : Int32)), .val (.int ps)] [(.ref st)]))
  refine own_up (fun _ k => XS.iloadN X5.here hx rfl (hb hby d_prog_73_m_1_17) rfl k) ?_
  show own_Go p.tables e below _ (T5.setTop (mkF m 18 #[.val (.ref st), .val (.int (2 : Int32)), .val (.int ps)] [(.int (2 : Int32)), (.ref st)]))
  obtain ⟨T6, h6, k6, X6, e6, E6, A6, C6, st6⟩ := newPE X5 hx hZ (hw _ (List.mem_of_getElem? (i := 14) rfl)) e5 (g := (mkF m 18 #[.val (.ref st), .val (.int (2 : Int32)), .val (.int ps)] [(.int (2 : Int32)), (.ref st)])) rfl (hb hby d_prog_73_m_1_18) rfl (by decide) (cap := 2) (by decide) (by decide) (by decide) (by decide) (ad := "[J") (by decide)
  have f7 : n0 ≤ h5.size := (Nat.le_trans (Nat.le_trans Z0 (Nat.le_of_eq (Wr.size W2).symm)) (Nat.le_of_eq (Wr.size W5).symm))
  have f8 : h0.size ≤ h5.size := (Nat.le_trans (Nat.le_trans (Nat.le_refl _) (Nat.le_of_eq (Wr.size W2).symm)) (Nat.le_of_eq (Wr.size W5).symm))
  have f9 : Exa Z h5 st "com/example/rondel/rondel/Simulator$Settling" := (f4.wr W5)
  obtain ⟨b6, g6⟩ : ∃ z, z = h5.size := ⟨_, rfl⟩
  rw [← g6] at A6 C6 st6
  have ge6 : n0 ≤ b6 := Nat.le_trans f7 (Nat.le_of_eq g6.symm)
  have ne6_0 : st ≠ b6 := Nat.ne_of_lt (Nat.lt_of_lt_of_le f9.lt (Nat.le_of_eq g6.symm))
  have sz6 : h0.size ≤ b6 := Nat.le_trans f8 (Nat.le_of_eq g6.symm)
  refine own_up st6 ?_
  have V6 : Arv Z h6 b6 k6 .long (2 : Int32) [(.long (0 : Int64)), (.long (0 : Int64))] (.long (0 : Int64)) := (Arv.new A6 (by decide)).pad (pad_rep [] (.long (0 : Int64)) 2)
  show own_Go p.tables e below _ (T6.setTop (mkF m 20 #[.val (.ref st), .val (.int (2 : Int32)), .val (.int ps)] [(.ref b6), (.ref st)]))
  have f10 : Fld Z h6 st "com/example/rondel/rondel/Simulator$Settling" "rounds" "[J" .null := (((F3.other W2 (Or.inr (slot_ne (Or.inr (hw _ (List.mem_of_getElem? (i := 16) rfl))) (Or.inl (hw _ (List.mem_of_getElem? (i := 11) rfl))) (by decide) (t := (.array .long)) (t' := .long) (by decide) (by decide)))).other W5 (Or.inr (slot_ne (Or.inr (hw _ (List.mem_of_getElem? (i := 16) rfl))) (Or.inr (hw _ (List.mem_of_getElem? (i := 13) rfl))) (by decide) (t := (.array .long)) (t' := .int) (by decide) (by decide)))).ext E6)
  have f11 : Exa Z h6 st "com/example/rondel/rondel/Simulator$Settling" := (f9.ext E6)
  obtain ⟨T12, h12, X12, e12, W12, st12⟩ := putF X6 hx hZ hown (host := "") (Or.inl (hw _ (List.mem_of_getElem? (i := 15) rfl))) Via.refl e6 f10 f11 (Or.inr ⟨(hw _ (List.mem_of_getElem? (i := 16) rfl)), rfl, hnm⟩) (hw _ (List.mem_of_getElem? (i := 1) rfl)) (ty := (.array .long)) (by decide) rfl rfl (g := (mkF m 20 #[.val (.ref st), .val (.int (2 : Int32)), .val (.int ps)] [(.ref b6), (.ref st)])) rfl rfl (hb hby d_prog_73_m_1_20)
  have Fw12 := f10.same W12
  have N12 := Fr.snoc X12 N5 G
  refine own_up st12 ?_
  show own_Go p.tables e below _ (T12.setTop (mkF m 23 #[.val (.ref st), .val (.int (2 : Int32)), .val (.int ps)] []))
  refine own_up (fun _ k => XS.aloadN X12.here hx rfl (hb hby d_prog_73_m_1_23) rfl rfl k) ?_
  show own_Go p.tables e below _ (T12.setTop (mkF m 24 #[.val (.ref st), .val (.int (2 : Int32)), .val (.int ps)] [(.ref st)]))
  refine own_up (fun _ k => XS.aloadN X12.here hx rfl (hb hby d_prog_73_m_1_24) rfl rfl k) ?_
  show own_Go p.tables e below _ (T12.setTop (mkF m 25 #[.val (.ref st), .val (.int (2 : Int32)), .val (.int ps)] [(.ref st), (.ref st)]))
  obtain ⟨T13, X13, e13, st13⟩ := getF X12 hx hZ hown (host := "") (Or.inl (hw _ (List.mem_of_getElem? (i := 15) rfl))) Via.refl e12 Fw12 (g := (mkF m 25 #[.val (.ref st), .val (.int (2 : Int32)), .val (.int ps)] [(.ref st), (.ref st)])) rfl rfl (hb hby d_prog_73_m_1_25)
  refine own_up st13 ?_
  show own_Go p.tables e below _ (T13.setTop (mkF m 28 #[.val (.ref st), .val (.int (2 : Int32)), .val (.int ps)] [(.ref b6), (.ref st)]))
  have f15 : Arv Z h12 b6 k6 .long (2 : Int32) [(.long (0 : Int64)), (.long (0 : Int64))] (.long (0 : Int64)) := (V6.other W12 (Ne.symm ne6_0))
  have f16 : Exa Z h12 b6 "[J" := (C6.wr W12)
  obtain ⟨T14, h14, X14, e14, E14, A14, C14, st14⟩ := cloneH X13 hx hZ hown (hw _ (List.mem_of_getElem? (i := 17) rfl)) (hw _ (List.mem_of_getElem? (i := 18) rfl)) (hw _ (List.mem_of_getElem? (i := 22) rfl)) (hw _ (List.mem_of_getElem? (i := 20) rfl)) (hw _ (List.mem_of_getElem? (i := 21) rfl)) (hw _ (List.mem_of_getElem? (i := 23) rfl)) e13 f15.arh f16 (g := (mkF m 28 #[.val (.ref st), .val (.int (2 : Int32)), .val (.int ps)] [(.ref b6), (.ref st)])) rfl (by rw [hml]; rfl) rfl (hb hby d_prog_73_m_1_28) (by decide) (W := 1) (by show 2 * 0 + _ ≤ _; exact Nat.le_of_eq rfl) (by decide) (cap := 2) (by decide) (by decide) (by decide)
  have f17 : n0 ≤ h12.size := (Nat.le_trans (Nat.le_trans f7 E6.1) (Nat.le_of_eq (Wr.size W12).symm))
  have f18 : h0.size ≤ h12.size := (Nat.le_trans (Nat.le_trans f8 E6.1) (Nat.le_of_eq (Wr.size W12).symm))
  have f19 : Exa Z h12 st "com/example/rondel/rondel/Simulator$Settling" := (f11.wr W12)
  obtain ⟨b14, g14⟩ : ∃ z, z = h12.size := ⟨_, rfl⟩
  rw [← g14] at A14 C14 st14
  have ge14 : n0 ≤ b14 := Nat.le_trans f17 (Nat.le_of_eq g14.symm)
  have ne14_0 : st ≠ b14 := Nat.ne_of_lt (Nat.lt_of_lt_of_le f19.lt (Nat.le_of_eq g14.symm))
  have ne14_1 : b6 ≠ b14 := Nat.ne_of_lt (Nat.lt_of_lt_of_le f16.lt (Nat.le_of_eq g14.symm))
  have sz14 : h0.size ≤ b14 := Nat.le_trans f18 (Nat.le_of_eq g14.symm)
  refine own_up st14 ?_
  have V14 : Arv Z h14 b14 k6 .long (2 : Int32) [(.long (0 : Int64)), (.long (0 : Int64))] (.long (0 : Int64)) := A14
  show own_Go p.tables e below _ (T14.setTop (mkF m 31 #[.val (.ref st), .val (.int (2 : Int32)), .val (.int ps)] [(.ref b14), (.ref st)]))
  obtain ⟨T20, X20, e20, st20⟩ := castY X14 hx hZ hown (hw _ (List.mem_of_getElem? (i := 24) rfl)) e14 (Ins.self C14) (g := (mkF m 31 #[.val (.ref st), .val (.int (2 : Int32)), .val (.int ps)] [(.ref b14), (.ref st)])) rfl rfl (hb hby d_prog_73_m_1_31)
  refine own_up st20 ?_
  show own_Go p.tables e below _ (T20.setTop (mkF m 34 #[.val (.ref st), .val (.int (2 : Int32)), .val (.int ps)] [(.ref b14), (.ref st)]))
  have f21 : Fld Z h14 st "com/example/rondel/rondel/Simulator$Settling" "roundsAtFewest" "[J" .null := (((((F4.other W2 (Or.inr (slot_ne (Or.inl (hw _ (List.mem_of_getElem? (i := 27) rfl))) (Or.inl (hw _ (List.mem_of_getElem? (i := 11) rfl))) (by decide) (t := (.array .long)) (t' := .long) (by decide) (by decide)))).other W5 (Or.inr (slot_ne (Or.inl (hw _ (List.mem_of_getElem? (i := 27) rfl))) (Or.inr (hw _ (List.mem_of_getElem? (i := 13) rfl))) (by decide) (t := (.array .long)) (t' := .int) (by decide) (by decide)))).ext E6).other W12 (Or.inr (slot_ne (Or.inl (hw _ (List.mem_of_getElem? (i := 27) rfl))) (Or.inr (hw _ (List.mem_of_getElem? (i := 16) rfl))) (by decide) (t := (.array .long)) (t' := (.array .long)) (by decide) (by decide)))).ext E14)
  have f22 : Exa Z h14 st "com/example/rondel/rondel/Simulator$Settling" := (f19.ext E14)
  obtain ⟨T23, h23, X23, e23, W23, st23⟩ := putF X20 hx hZ hown (host := "") (Or.inl (hw _ (List.mem_of_getElem? (i := 26) rfl))) Via.refl e20 f21 f22 (Or.inl (hw _ (List.mem_of_getElem? (i := 27) rfl))) (hw _ (List.mem_of_getElem? (i := 1) rfl)) (ty := (.array .long)) (by decide) rfl rfl (g := (mkF m 34 #[.val (.ref st), .val (.int (2 : Int32)), .val (.int ps)] [(.ref b14), (.ref st)])) rfl rfl (hb hby d_prog_73_m_1_34)
  have Fw23 := f21.same W23
  have N23 := Fr.snoc X23 N12 G
  refine own_up st23 ?_
  show own_Go p.tables e below _ (T23.setTop (mkF m 37 #[.val (.ref st), .val (.int (2 : Int32)), .val (.int ps)] []))
  have f24 : Exa Z h23 st "com/example/rondel/rondel/Simulator$Settling" := (f22.wr W23)
  have f25 : Fld Z h23 st "com/example/rondel/rondel/Simulator$Settling" "fewestWrong" "J" (.long (9223372036854775807 : Int64)) := (((((Fw2.other W5 (Or.inr (slot_ne (Or.inl (hw _ (List.mem_of_getElem? (i := 11) rfl))) (Or.inr (hw _ (List.mem_of_getElem? (i := 13) rfl))) (by decide) (t := .long) (t' := .int) (by decide) (by decide)))).ext E6).other W12 (Or.inr (slot_ne (Or.inl (hw _ (List.mem_of_getElem? (i := 11) rfl))) (Or.inr (hw _ (List.mem_of_getElem? (i := 16) rfl))) (by decide) (t := .long) (t' := (.array .long)) (by decide) (by decide)))).ext E14).other W23 (Or.inr (slot_ne (Or.inl (hw _ (List.mem_of_getElem? (i := 11) rfl))) (Or.inl (hw _ (List.mem_of_getElem? (i := 27) rfl))) (by decide) (t := .long) (t' := (.array .long)) (by decide) (by decide))))
  have f26 : Fld Z h23 st "com/example/rondel/rondel/Simulator$Settling" "stallRounds" "I" (.int ps) := ((((Fw5.ext E6).other W12 (Or.inr (slot_ne (Or.inr (hw _ (List.mem_of_getElem? (i := 13) rfl))) (Or.inr (hw _ (List.mem_of_getElem? (i := 16) rfl))) (by decide) (t := .int) (t' := (.array .long)) (by decide) (by decide)))).ext E14).other W23 (Or.inr (slot_ne (Or.inr (hw _ (List.mem_of_getElem? (i := 13) rfl))) (Or.inl (hw _ (List.mem_of_getElem? (i := 27) rfl))) (by decide) (t := .int) (t' := (.array .long)) (by decide) (by decide))))
  have f27 : Fld Z h23 st "com/example/rondel/rondel/Simulator$Settling" "rounds" "[J" (.ref b6) := ((Fw12.ext E14).other W23 (Or.inr (slot_ne (Or.inr (hw _ (List.mem_of_getElem? (i := 16) rfl))) (Or.inl (hw _ (List.mem_of_getElem? (i := 27) rfl))) (by decide) (t := (.array .long)) (t' := (.array .long)) (by decide) (by decide))))
  have f28 : Arv Z h23 b6 k6 .long (2 : Int32) [(.long (0 : Int64)), (.long (0 : Int64))] (.long (0 : Int64)) := ((f15.ext E14).other W23 (Ne.symm ne6_0))
  have f29 : Arv Z h23 b14 k6 .long (2 : Int32) [(.long (0 : Int64)), (.long (0 : Int64))] (.long (0 : Int64)) := (V14.other W23 (Ne.symm ne14_0))
  have f30 : Exa Z h23 b6 "[J" := ((f16.ext E14).wr W23)
  exact own_end X23 hlk (v := none) (fun _ => rfl) (fun fs hr => X23.returnOut hx Bd.returns (hb hby d_prog_73_m_1_37) hr) e23 ⟨b6, b14, k6, rfl, N23, (((((((Keep.refl h0 [st]).wr W2 (Or.inl (List.mem_of_getElem? (i := 0) rfl))).wr W5 (Or.inl (List.mem_of_getElem? (i := 0) rfl))).ext E6).wr W12 (Or.inl (List.mem_of_getElem? (i := 0) rfl))).ext E14).wr W23 (Or.inl (List.mem_of_getElem? (i := 0) rfl))), ge6, ge14, ne6_0, ne14_0, ne14_1, f24, f25, f26, f27, Fw23, f28, f29, f30⟩ (by decide) (by decide)
theorem d_prog_73_m_2_0 : decode prog_73_method_2_code 0 = .ok (.aload_n 0, 1) := by decide +kernel
theorem d_prog_73_m_2_1 : decode prog_73_method_2_code 1 = .ok (.getfield 21, 3) := by decide +kernel
theorem d_prog_73_m_2_4 : decode prog_73_method_2_code 4 = .ok (.iload_n 1, 1) := by decide +kernel
theorem d_prog_73_m_2_5 : decode prog_73_method_2_code 5 = .ok (.dup2, 1) := by decide +kernel
theorem d_prog_73_m_2_6 : decode prog_73_method_2_code 6 = .ok (.laload, 1) := by decide +kernel
theorem d_prog_73_m_2_7 : decode prog_73_method_2_code 7 = .ok (.lconst 1, 1) := by decide +kernel
theorem d_prog_73_m_2_8 : decode prog_73_method_2_code 8 = .ok (.ladd, 1) := by decide +kernel
theorem d_prog_73_m_2_9 : decode prog_73_method_2_code 9 = .ok (.lastore, 1) := by decide +kernel
theorem d_prog_73_m_2_10 : decode prog_73_method_2_code 10 = .ok (.return_, 1) := by decide +kernel
theorem ef_rm2_0 (m : MethodId) (y0 : Addr) (y1 : Int32) : entryFrame m #[(.ref y0), (.int y1)] 2 = mkF m 0 #[.val (.ref y0), .val (.int y1)] [] := by first | (simp [entryFrame, mkF, argsToLocals, Value.category]; done) | rfl
def Q_rm2_0 (Z : State) (st : Addr) (ra : Addr) (kr : ClassId) (r0 : Int64) (r1 : Int64) (h0 : Heap) (n0 : Nat) (v : Option Value) (h : Heap) (L : List Loc) : Prop := v = none ∧ Fr n0 L ∧ Keep h0 h [ra] ∧ Arv Z h ra kr .long (2 : Int32) [(.long (r0 + (1 : Int64))), (.long r1)] (.long (0 : Int64))
set_option maxRecDepth 65536 in
set_option maxHeartbeats 40000000 in
theorem rm2_0 (l : Launch) (Z : State) (a0 : Array Value) (hw : ∀ d ∈ tables_1, d.before a0 Z = true) (ws : List Jvm.Cond) (st : Addr) (ra : Addr) (kr : ClassId) (r0 : Int64) (r1 : Int64) (h0 : Heap) (n0 : Nat) (Z0 : n0 ≤ h0.size) (F : Fld Z h0 st "com/example/rondel/rondel/Simulator$Settling" "rounds" "[J" (.ref ra)) (V : Arv Z h0 ra kr .long (2 : Int32) [(.long r0), (.long r1)] (.long (0 : Int64))) (G : n0 ≤ ra) :
    MetFree l (⟨"com/example/rondel/rondel/Simulator$Settling", "ranRound", "(I)V"⟩ : MethodName) (head1 (Jvm.Cond.code (⟨"com/example/rondel/rondel/Simulator$Settling", "ranRound", "(I)V"⟩ : MethodName) prog_73_method_2_code 2 none :: ws) ({ frames := 0, cells := 0, slots := 0, locals := 0 } : Room)) (fun ar U => ar = #[(.ref st), (.int (0 : Int32))] ∧ Z.Warmed39 U.vm ∧ U.heap = h0) (fun _ _ _ _ _ => True) (fun _ U o U' => ∃ v L, o = .returned v ∧ Q_rm2_0 Z st ra kr r0 r1 h0 n0 v U'.heap L ∧ FrameEnd U o U' L ({ frames := 0, cells := 0, slots := 0, locals := 0 } : Room).cells ({ frames := 0, cells := 0, slots := 0, locals := 0 } : Room).slots) := by
  refine MetFree.of_bodySF (plainFor_of_name own_pn0) hisR ?_
  intro p e s m args below meth c s₁ Bd hml0 hP hK
  obtain ⟨rfl, hZ, hh⟩ := hP
  have hx := Bd.exec
  have hby := Bd.bytes
  have hlk : meth.locks = false := BodyLoose.notSynchronized Bd
  have hml : c.maxLocals = 2 := hml0
  have hown : s.vm.findClass "com/example/rondel/rondel/Simulator$Settling" = some m.cls := findClass_of_methodNamed Bd.named
  have hnm := (name_of_methodNamed Bd.named Bd.method).1
  have X0 : Stand p l e ({ frames := 0, cells := 0, slots := 0, locals := 0 } : Room) s m #[(.ref st), (.int (0 : Int32))] below meth c s₁ [] 0 0 := Stand.of_body Bd
  have e0 : s₁.heap = h0 := by rw [← hh, Bd.state]; rfl
  have N0 := Fr.nil n0
  show own_Go p.tables e below (fun u o => ∃ v L, o = .returned v ∧ Q_rm2_0 Z st ra kr r0 r1 h0 n0 v u.heap L ∧ FrameEnd s o u L ({ frames := 0, cells := 0, slots := 0, locals := 0 } : Room).cells ({ frames := 0, cells := 0, slots := 0, locals := 0 } : Room).slots) (s₁.setTop (entryFrame m #[(.ref st), (.int (0 : Int32))] 2))
  refine own_up (fun _ k => castTop (ef_rm2_0 m st (0 : Int32)) k) ?_
  show own_Go p.tables e below _ (s₁.setTop (mkF m 0 #[.val (.ref st), .val (.int (0 : Int32))] []))
  refine own_up (fun _ k => XS.aloadN X0.here hx rfl (hb hby d_prog_73_m_2_0) rfl rfl k) ?_
  show own_Go p.tables e below _ (s₁.setTop (mkF m 1 #[.val (.ref st), .val (.int (0 : Int32))] [(.ref st)]))
  obtain ⟨T1, X1, e1, st1⟩ := getF X0 hx hZ hown (host := "") (Or.inl (hw _ (List.mem_of_getElem? (i := 15) rfl))) Via.refl e0 F (g := (mkF m 1 #[.val (.ref st), .val (.int (0 : Int32))] [(.ref st)])) rfl rfl (hb hby d_prog_73_m_2_1)
  refine own_up st1 ?_
  show own_Go p.tables e below _ (T1.setTop (mkF m 4 #[.val (.ref st), .val (.int (0 : Int32))] [(.ref ra)]))
  refine own_up (fun _ k => XS.iloadN X1.here hx rfl (hb hby d_prog_73_m_2_4) rfl k) ?_
  show own_Go p.tables e below _ (T1.setTop (mkF m 5 #[.val (.ref st), .val (.int (0 : Int32))] [(.int (0 : Int32)), (.ref ra)]))
  refine own_up (fun _ k => XT.dup2 X1.here hx rfl (hb hby d_prog_73_m_2_5) rfl rfl rfl k) ?_
  show own_Go p.tables e below _ (T1.setTop (mkF m 6 #[.val (.ref st), .val (.int (0 : Int32))] [(.int (0 : Int32)), (.ref ra), (.int (0 : Int32)), (.ref ra)]))
  obtain ⟨cl2_, Ar2, q2, S2, M2, Hs2, G2⟩ := id (V)
  have hin3 : ¬ ((0 : Int32) < 0 ∨ cl2_.slots.size ≤ ((0 : Int32)).toNatClampNeg) := inb_of S2 ⟨by decide, by decide⟩
  have hat3 : cl2_.slots[((0 : Int32)).toNatClampNeg]? = some (.long r0) := Has.at Hs2 hin3 rfl
  refine own_up (fun _ k => X1.laload hx (j := (0 : Int32)) (v := (.long r0)) (by rw [e1]; exact Ar2.1) (State.isArrayOf_alike hZ.alike Ar2.2.1) Ar2.2.2 hin3 hat3 (g := (mkF m 6 #[.val (.ref st), .val (.int (0 : Int32))] [(.int (0 : Int32)), (.ref ra), (.int (0 : Int32)), (.ref ra)])) rfl rfl (hb hby d_prog_73_m_2_6) _ k) ?_
  show own_Go p.tables e below _ (T1.setTop (mkF m 7 #[.val (.ref st), .val (.int (0 : Int32))] [(.long r0), (.int (0 : Int32)), (.ref ra)]))
  refine own_up (fun _ k => XS.lconst X1.here hx rfl (hb hby d_prog_73_m_2_7) k) ?_
  show own_Go p.tables e below _ (T1.setTop (mkF m 8 #[.val (.ref st), .val (.int (0 : Int32))] [(.long (1 : Int64)), (.long r0), (.int (0 : Int32)), (.ref ra)]))
  refine own_up (fun _ k => XS.ladd X1.here hx rfl (hb hby d_prog_73_m_2_8) rfl k) ?_
  show own_Go p.tables e below _ (T1.setTop (mkF m 9 #[.val (.ref st), .val (.int (0 : Int32))] [(.long (r0 + (1 : Int64))), (.int (0 : Int32)), (.ref ra)]))
  have hin4 : ¬ ((0 : Int32) < 0 ∨ cl2_.slots.size ≤ ((0 : Int32)).toNatClampNeg) := inb_of S2 ⟨by decide, by decide⟩
  obtain ⟨T4, h4, X4, e4, W4, st4⟩ := stJ X1 hx hZ e1 Ar2 (j := (0 : Int32)) hin4 (g := (mkF m 9 #[.val (.ref st), .val (.int (0 : Int32))] [(.long (r0 + (1 : Int64))), (.int (0 : Int32)), (.ref ra)])) rfl rfl (hb hby d_prog_73_m_2_9)
  have V4 : Arv Z h4 ra kr .long (2 : Int32) [(.long (r0 + (1 : Int64))), (.long r1)] (.long (0 : Int64)) := Arv.set Ar2 q2 S2 M2 Hs2 G2 rfl W4 0 rfl (Nat.le_of_ble_eq_true rfl)
  have N4 := Fr.snoc X4 N0 G
  refine own_up st4 ?_
  show own_Go p.tables e below _ (T4.setTop (mkF m 10 #[.val (.ref st), .val (.int (0 : Int32))] []))
  exact own_end X4 hlk (v := none) (fun _ => rfl) (fun fs hr => X4.returnOut hx Bd.returns (hb hby d_prog_73_m_2_10) hr) e4 ⟨rfl, N4, ((Keep.refl h0 [ra]).wr W4 (Or.inl (List.mem_of_getElem? (i := 0) rfl))), V4⟩ (by decide) (by decide)
theorem ef_rm2_1 (m : MethodId) (y0 : Addr) (y1 : Int32) : entryFrame m #[(.ref y0), (.int y1)] 2 = mkF m 0 #[.val (.ref y0), .val (.int y1)] [] := by first | (simp [entryFrame, mkF, argsToLocals, Value.category]; done) | rfl
def Q_rm2_1 (Z : State) (st : Addr) (ra : Addr) (kr : ClassId) (r0 : Int64) (r1 : Int64) (h0 : Heap) (n0 : Nat) (v : Option Value) (h : Heap) (L : List Loc) : Prop := v = none ∧ Fr n0 L ∧ Keep h0 h [ra] ∧ Arv Z h ra kr .long (2 : Int32) [(.long r0), (.long (r1 + (1 : Int64)))] (.long (0 : Int64))
set_option maxRecDepth 65536 in
set_option maxHeartbeats 40000000 in
theorem rm2_1 (l : Launch) (Z : State) (a0 : Array Value) (hw : ∀ d ∈ tables_1, d.before a0 Z = true) (ws : List Jvm.Cond) (st : Addr) (ra : Addr) (kr : ClassId) (r0 : Int64) (r1 : Int64) (h0 : Heap) (n0 : Nat) (Z0 : n0 ≤ h0.size) (F : Fld Z h0 st "com/example/rondel/rondel/Simulator$Settling" "rounds" "[J" (.ref ra)) (V : Arv Z h0 ra kr .long (2 : Int32) [(.long r0), (.long r1)] (.long (0 : Int64))) (G : n0 ≤ ra) :
    MetFree l (⟨"com/example/rondel/rondel/Simulator$Settling", "ranRound", "(I)V"⟩ : MethodName) (head1 (Jvm.Cond.code (⟨"com/example/rondel/rondel/Simulator$Settling", "ranRound", "(I)V"⟩ : MethodName) prog_73_method_2_code 2 none :: ws) ({ frames := 0, cells := 0, slots := 0, locals := 0 } : Room)) (fun ar U => ar = #[(.ref st), (.int (1 : Int32))] ∧ Z.Warmed39 U.vm ∧ U.heap = h0) (fun _ _ _ _ _ => True) (fun _ U o U' => ∃ v L, o = .returned v ∧ Q_rm2_1 Z st ra kr r0 r1 h0 n0 v U'.heap L ∧ FrameEnd U o U' L ({ frames := 0, cells := 0, slots := 0, locals := 0 } : Room).cells ({ frames := 0, cells := 0, slots := 0, locals := 0 } : Room).slots) := by
  refine MetFree.of_bodySF (plainFor_of_name own_pn0) hisR ?_
  intro p e s m args below meth c s₁ Bd hml0 hP hK
  obtain ⟨rfl, hZ, hh⟩ := hP
  have hx := Bd.exec
  have hby := Bd.bytes
  have hlk : meth.locks = false := BodyLoose.notSynchronized Bd
  have hml : c.maxLocals = 2 := hml0
  have hown : s.vm.findClass "com/example/rondel/rondel/Simulator$Settling" = some m.cls := findClass_of_methodNamed Bd.named
  have hnm := (name_of_methodNamed Bd.named Bd.method).1
  have X0 : Stand p l e ({ frames := 0, cells := 0, slots := 0, locals := 0 } : Room) s m #[(.ref st), (.int (1 : Int32))] below meth c s₁ [] 0 0 := Stand.of_body Bd
  have e0 : s₁.heap = h0 := by rw [← hh, Bd.state]; rfl
  have N0 := Fr.nil n0
  show own_Go p.tables e below (fun u o => ∃ v L, o = .returned v ∧ Q_rm2_1 Z st ra kr r0 r1 h0 n0 v u.heap L ∧ FrameEnd s o u L ({ frames := 0, cells := 0, slots := 0, locals := 0 } : Room).cells ({ frames := 0, cells := 0, slots := 0, locals := 0 } : Room).slots) (s₁.setTop (entryFrame m #[(.ref st), (.int (1 : Int32))] 2))
  refine own_up (fun _ k => castTop (ef_rm2_1 m st (1 : Int32)) k) ?_
  show own_Go p.tables e below _ (s₁.setTop (mkF m 0 #[.val (.ref st), .val (.int (1 : Int32))] []))
  refine own_up (fun _ k => XS.aloadN X0.here hx rfl (hb hby d_prog_73_m_2_0) rfl rfl k) ?_
  show own_Go p.tables e below _ (s₁.setTop (mkF m 1 #[.val (.ref st), .val (.int (1 : Int32))] [(.ref st)]))
  obtain ⟨T1, X1, e1, st1⟩ := getF X0 hx hZ hown (host := "") (Or.inl (hw _ (List.mem_of_getElem? (i := 15) rfl))) Via.refl e0 F (g := (mkF m 1 #[.val (.ref st), .val (.int (1 : Int32))] [(.ref st)])) rfl rfl (hb hby d_prog_73_m_2_1)
  refine own_up st1 ?_
  show own_Go p.tables e below _ (T1.setTop (mkF m 4 #[.val (.ref st), .val (.int (1 : Int32))] [(.ref ra)]))
  refine own_up (fun _ k => XS.iloadN X1.here hx rfl (hb hby d_prog_73_m_2_4) rfl k) ?_
  show own_Go p.tables e below _ (T1.setTop (mkF m 5 #[.val (.ref st), .val (.int (1 : Int32))] [(.int (1 : Int32)), (.ref ra)]))
  refine own_up (fun _ k => XT.dup2 X1.here hx rfl (hb hby d_prog_73_m_2_5) rfl rfl rfl k) ?_
  show own_Go p.tables e below _ (T1.setTop (mkF m 6 #[.val (.ref st), .val (.int (1 : Int32))] [(.int (1 : Int32)), (.ref ra), (.int (1 : Int32)), (.ref ra)]))
  obtain ⟨cl2_, Ar2, q2, S2, M2, Hs2, G2⟩ := id (V)
  have hin3 : ¬ ((1 : Int32) < 0 ∨ cl2_.slots.size ≤ ((1 : Int32)).toNatClampNeg) := inb_of S2 ⟨by decide, by decide⟩
  have hat3 : cl2_.slots[((1 : Int32)).toNatClampNeg]? = some (.long r1) := Has.at Hs2 hin3 rfl
  refine own_up (fun _ k => X1.laload hx (j := (1 : Int32)) (v := (.long r1)) (by rw [e1]; exact Ar2.1) (State.isArrayOf_alike hZ.alike Ar2.2.1) Ar2.2.2 hin3 hat3 (g := (mkF m 6 #[.val (.ref st), .val (.int (1 : Int32))] [(.int (1 : Int32)), (.ref ra), (.int (1 : Int32)), (.ref ra)])) rfl rfl (hb hby d_prog_73_m_2_6) _ k) ?_
  show own_Go p.tables e below _ (T1.setTop (mkF m 7 #[.val (.ref st), .val (.int (1 : Int32))] [(.long r1), (.int (1 : Int32)), (.ref ra)]))
  refine own_up (fun _ k => XS.lconst X1.here hx rfl (hb hby d_prog_73_m_2_7) k) ?_
  show own_Go p.tables e below _ (T1.setTop (mkF m 8 #[.val (.ref st), .val (.int (1 : Int32))] [(.long (1 : Int64)), (.long r1), (.int (1 : Int32)), (.ref ra)]))
  refine own_up (fun _ k => XS.ladd X1.here hx rfl (hb hby d_prog_73_m_2_8) rfl k) ?_
  show own_Go p.tables e below _ (T1.setTop (mkF m 9 #[.val (.ref st), .val (.int (1 : Int32))] [(.long (r1 + (1 : Int64))), (.int (1 : Int32)), (.ref ra)]))
  have hin4 : ¬ ((1 : Int32) < 0 ∨ cl2_.slots.size ≤ ((1 : Int32)).toNatClampNeg) := inb_of S2 ⟨by decide, by decide⟩
  obtain ⟨T4, h4, X4, e4, W4, st4⟩ := stJ X1 hx hZ e1 Ar2 (j := (1 : Int32)) hin4 (g := (mkF m 9 #[.val (.ref st), .val (.int (1 : Int32))] [(.long (r1 + (1 : Int64))), (.int (1 : Int32)), (.ref ra)])) rfl rfl (hb hby d_prog_73_m_2_9)
  have V4 : Arv Z h4 ra kr .long (2 : Int32) [(.long r0), (.long (r1 + (1 : Int64)))] (.long (0 : Int64)) := Arv.set Ar2 q2 S2 M2 Hs2 G2 rfl W4 1 rfl (Nat.le_of_ble_eq_true rfl)
  have N4 := Fr.snoc X4 N0 G
  refine own_up st4 ?_
  show own_Go p.tables e below _ (T4.setTop (mkF m 10 #[.val (.ref st), .val (.int (1 : Int32))] []))
  exact own_end X4 hlk (v := none) (fun _ => rfl) (fun fs hr => X4.returnOut hx Bd.returns (hb hby d_prog_73_m_2_10) hr) e4 ⟨rfl, N4, ((Keep.refl h0 [ra]).wr W4 (Or.inl (List.mem_of_getElem? (i := 0) rfl))), V4⟩ (by decide) (by decide)
theorem d_jdk_29_m_70_0 : decode jdk_29_method_70_code 0 = .ok (.lload_n 0, 1) := by decide +kernel
theorem d_jdk_29_m_70_1 : decode jdk_29_method_70_code 1 = .ok (.lload_n 2, 1) := by decide +kernel
theorem d_jdk_29_m_70_2 : decode jdk_29_method_70_code 2 = .ok (.lcmp, 1) := by decide +kernel
theorem d_jdk_29_m_70_3 : decode jdk_29_method_70_code 3 = .ok (.ifCond .gt 7, 3) := by decide +kernel
theorem d_jdk_29_m_70_10 : decode jdk_29_method_70_code 10 = .ok (.lload_n 2, 1) := by decide +kernel
theorem d_jdk_29_m_70_11 : decode jdk_29_method_70_code 11 = .ok (.lreturn, 1) := by decide +kernel
theorem d_jdk_29_m_70_6 : decode jdk_29_method_70_code 6 = .ok (.lload_n 0, 1) := by decide +kernel
theorem d_jdk_29_m_70_7 : decode jdk_29_method_70_code 7 = .ok (.goto 4, 3) := by decide +kernel
theorem ef_rm3 (m : MethodId) (y0 : Int64) (y1 : Int64) : entryFrame m #[(.long y0), (.long y1)] 4 = mkF m 0 #[.val (.long y0), .second, .val (.long y1), .second] [] := by first | (simp [entryFrame, mkF, argsToLocals, Value.category]; done) | rfl
def Q_rm3 (Z : State) (pa : Int64) (pb : Int64) (h0 : Heap) (n0 : Nat) (v : Option Value) (h : Heap) (L : List Loc) : Prop := v = some (.long (if pb < pa then pb else pa)) ∧ Fr n0 L ∧ h = h0
set_option maxRecDepth 65536 in
set_option maxHeartbeats 40000000 in
theorem rm3 (l : Launch) (Z : State) (a0 : Array Value) (hw : ∀ d ∈ tables_1, d.before a0 Z = true) (ws : List Jvm.Cond) (pa : Int64) (pb : Int64) (h0 : Heap) (n0 : Nat) (Z0 : n0 ≤ h0.size) :
    MetFree l (⟨"java/lang/Math", "min", "(JJ)J"⟩ : MethodName) (head1 (Jvm.Cond.code (⟨"java/lang/Math", "min", "(JJ)J"⟩ : MethodName) jdk_29_method_70_code 4 (some .long) :: ws) ({ frames := 0, cells := 0, slots := 0, locals := 0 } : Room)) (fun ar U => ar = #[(.long pa), (.long pb)] ∧ Z.Warmed39 U.vm ∧ U.heap = h0) (fun _ _ _ _ _ => True) (fun _ U o U' => ∃ v L, o = .returned v ∧ Q_rm3 Z pa pb h0 n0 v U'.heap L ∧ FrameEnd U o U' L ({ frames := 0, cells := 0, slots := 0, locals := 0 } : Room).cells ({ frames := 0, cells := 0, slots := 0, locals := 0 } : Room).slots) := by
  refine MetFree.of_bodySF (Jvm.Free.JP.mathPlain rfl (by decide +kernel)) hisR ?_
  intro p e s m args below meth c s₁ Bd hml0 hP hK
  obtain ⟨rfl, hZ, hh⟩ := hP
  have hx := Bd.exec
  have hby := Bd.bytes
  have hlk : meth.locks = false := BodyLoose.notSynchronized Bd
  have hml : c.maxLocals = 4 := hml0
  have hown : s.vm.findClass "java/lang/Math" = some m.cls := findClass_of_methodNamed Bd.named
  have hnm := (name_of_methodNamed Bd.named Bd.method).1
  have X0 : Stand p l e ({ frames := 0, cells := 0, slots := 0, locals := 0 } : Room) s m #[(.long pa), (.long pb)] below meth c s₁ [] 0 0 := Stand.of_body Bd
  have e0 : s₁.heap = h0 := by rw [← hh, Bd.state]; rfl
  have N0 := Fr.nil n0
  show own_Go p.tables e below (fun u o => ∃ v L, o = .returned v ∧ Q_rm3 Z pa pb h0 n0 v u.heap L ∧ FrameEnd s o u L ({ frames := 0, cells := 0, slots := 0, locals := 0 } : Room).cells ({ frames := 0, cells := 0, slots := 0, locals := 0 } : Room).slots) (s₁.setTop (entryFrame m #[(.long pa), (.long pb)] 4))
  refine own_up (fun _ k => castTop (ef_rm3 m pa pb) k) ?_
  show own_Go p.tables e below _ (s₁.setTop (mkF m 0 #[.val (.long pa), .second, .val (.long pb), .second] []))
  refine own_up (fun _ k => XS.lloadN X0.here hx rfl (hb hby d_jdk_29_m_70_0) rfl k) ?_
  show own_Go p.tables e below _ (s₁.setTop (mkF m 1 #[.val (.long pa), .second, .val (.long pb), .second] [(.long pa)]))
  refine own_up (fun _ k => XS.lloadN X0.here hx rfl (hb hby d_jdk_29_m_70_1) rfl k) ?_
  show own_Go p.tables e below _ (s₁.setTop (mkF m 2 #[.val (.long pa), .second, .val (.long pb), .second] [(.long pb), (.long pa)]))
  refine own_up (fun _ k => XS.lcmp X0.here hx rfl (hb hby d_jdk_29_m_70_2) rfl k) ?_
  show own_Go p.tables e below _ (s₁.setTop (mkF m 3 #[.val (.long pa), .second, .val (.long pb), .second] [(.int (lcmpW pa pb))]))
  by_cases cw : pb < pa
  ·
    refine own_up (fun _ k => XS.ifYes X0.here hx rfl (pc0 := 3) (pc' := 10) rfl (hb hby d_jdk_29_m_70_3) rfl ((if0 _ _).trans (tlt ((lw_gt _ _).mpr cw)).2.2.1) (by decide) (by decide) k) ?_
    show own_Go p.tables e below _ (s₁.setTop (mkF m 10 #[.val (.long pa), .second, .val (.long pb), .second] []))
    refine own_up (fun _ k => XS.lloadN X0.here hx rfl (hb hby d_jdk_29_m_70_10) rfl k) ?_
    show own_Go p.tables e below _ (s₁.setTop (mkF m 11 #[.val (.long pa), .second, .val (.long pb), .second] [(.long pb)]))
    exact own_end X0 hlk (v := some (.long pb)) (fun h => by rw [Bd.returns] at h; cases h) (fun fs hr => retOut X0 hx Bd.returns rfl (Or.inr (Or.inl ⟨rfl, rfl, _, rfl⟩)) (hb hby d_jdk_29_m_70_11) hr) e0 ⟨by rw [if_pos cw], N0, rfl⟩ (by decide) (by decide)
  ·
    refine own_up (fun _ k => XS.ifNo X0.here hx rfl (hb hby d_jdk_29_m_70_3) rfl ((if0 _ _).trans (flt (fun q => cw ((lw_gt _ _).mp q))).2.2.1) k) ?_
    show own_Go p.tables e below _ (s₁.setTop (mkF m 6 #[.val (.long pa), .second, .val (.long pb), .second] []))
    refine own_up (fun _ k => XS.lloadN X0.here hx rfl (hb hby d_jdk_29_m_70_6) rfl k) ?_
    show own_Go p.tables e below _ (s₁.setTop (mkF m 7 #[.val (.long pa), .second, .val (.long pb), .second] [(.long pa)]))
    refine own_up (fun _ k => XS.goto X0.here hx rfl (pc0 := 7) (pc' := 11) rfl (hb hby d_jdk_29_m_70_7) (by decide) (by decide) k) ?_
    show own_Go p.tables e below _ (s₁.setTop (mkF m 11 #[.val (.long pa), .second, .val (.long pb), .second] [(.long pa)]))
    exact own_end X0 hlk (v := some (.long pa)) (fun h => by rw [Bd.returns] at h; cases h) (fun fs hr => retOut X0 hx Bd.returns rfl (Or.inr (Or.inl ⟨rfl, rfl, _, rfl⟩)) (hb hby d_jdk_29_m_70_11) hr) e0 ⟨by rw [if_neg cw], N0, rfl⟩ (by decide) (by decide)
theorem d_prog_73_m_3_0 : decode prog_73_method_3_code 0 = .ok (.lload_n 1, 1) := by decide +kernel
theorem d_prog_73_m_3_1 : decode prog_73_method_3_code 1 = .ok (.aload_n 0, 1) := by decide +kernel
theorem d_prog_73_m_3_2 : decode prog_73_method_3_code 2 = .ok (.getfield 11, 3) := by decide +kernel
theorem d_prog_73_m_3_5 : decode prog_73_method_3_code 5 = .ok (.lcmp, 1) := by decide +kernel
theorem d_prog_73_m_3_6 : decode prog_73_method_3_code 6 = .ok (.ifCond .ge 24, 3) := by decide +kernel
theorem d_prog_73_m_3_9 : decode prog_73_method_3_code 9 = .ok (.aload_n 0, 1) := by decide +kernel
theorem d_prog_73_m_3_10 : decode prog_73_method_3_code 10 = .ok (.lload_n 1, 1) := by decide +kernel
theorem d_prog_73_m_3_11 : decode prog_73_method_3_code 11 = .ok (.putfield 11, 3) := by decide +kernel
theorem d_prog_73_m_3_14 : decode prog_73_method_3_code 14 = .ok (.aload_n 0, 1) := by decide +kernel
theorem d_prog_73_m_3_15 : decode prog_73_method_3_code 15 = .ok (.aload_n 0, 1) := by decide +kernel
theorem d_prog_73_m_3_16 : decode prog_73_method_3_code 16 = .ok (.getfield 21, 3) := by decide +kernel
theorem d_prog_73_m_3_19 : decode prog_73_method_3_code 19 = .ok (.invokevirtual 25, 3) := by decide +kernel
theorem d_prog_73_m_3_22 : decode prog_73_method_3_code 22 = .ok (.checkcast 26, 3) := by decide +kernel
theorem d_prog_73_m_3_25 : decode prog_73_method_3_code 25 = .ok (.putfield 30, 3) := by decide +kernel
theorem d_prog_73_m_3_28 : decode prog_73_method_3_code 28 = .ok (.iconst 0, 1) := by decide +kernel
theorem d_prog_73_m_3_29 : decode prog_73_method_3_code 29 = .ok (.ireturn, 1) := by decide +kernel
theorem d_prog_73_m_3_30 : decode prog_73_method_3_code 30 = .ok (.iconst 0, 1) := by decide +kernel
theorem d_prog_73_m_3_31 : decode prog_73_method_3_code 31 = .ok (.istore_n 3, 1) := by decide +kernel
theorem d_prog_73_m_3_32 : decode prog_73_method_3_code 32 = .ok (.iload_n 3, 1) := by decide +kernel
theorem d_prog_73_m_3_33 : decode prog_73_method_3_code 33 = .ok (.aload_n 0, 1) := by decide +kernel
theorem d_prog_73_m_3_34 : decode prog_73_method_3_code 34 = .ok (.getfield 21, 3) := by decide +kernel
theorem d_prog_73_m_3_37 : decode prog_73_method_3_code 37 = .ok (.arraylength, 1) := by decide +kernel
theorem d_prog_73_m_3_38 : decode prog_73_method_3_code 38 = .ok (.if_icmp .ge 33, 3) := by decide +kernel
theorem d_prog_73_m_3_41 : decode prog_73_method_3_code 41 = .ok (.aload_n 0, 1) := by decide +kernel
theorem d_prog_73_m_3_42 : decode prog_73_method_3_code 42 = .ok (.getfield 21, 3) := by decide +kernel
theorem d_prog_73_m_3_45 : decode prog_73_method_3_code 45 = .ok (.iload_n 3, 1) := by decide +kernel
theorem d_prog_73_m_3_46 : decode prog_73_method_3_code 46 = .ok (.laload, 1) := by decide +kernel
theorem d_prog_73_m_3_47 : decode prog_73_method_3_code 47 = .ok (.aload_n 0, 1) := by decide +kernel
theorem d_prog_73_m_3_48 : decode prog_73_method_3_code 48 = .ok (.getfield 30, 3) := by decide +kernel
theorem d_prog_73_m_3_51 : decode prog_73_method_3_code 51 = .ok (.iload_n 3, 1) := by decide +kernel
theorem d_prog_73_m_3_52 : decode prog_73_method_3_code 52 = .ok (.laload, 1) := by decide +kernel
theorem d_prog_73_m_3_53 : decode prog_73_method_3_code 53 = .ok (.lsub, 1) := by decide +kernel
theorem d_prog_73_m_3_54 : decode prog_73_method_3_code 54 = .ok (.aload_n 0, 1) := by decide +kernel
theorem d_prog_73_m_3_55 : decode prog_73_method_3_code 55 = .ok (.getfield 17, 3) := by decide +kernel
theorem d_prog_73_m_3_58 : decode prog_73_method_3_code 58 = .ok (.i2l, 1) := by decide +kernel
theorem d_prog_73_m_3_59 : decode prog_73_method_3_code 59 = .ok (.lcmp, 1) := by decide +kernel
theorem d_prog_73_m_3_60 : decode prog_73_method_3_code 60 = .ok (.ifCond .ge 5, 3) := by decide +kernel
theorem d_prog_73_m_3_63 : decode prog_73_method_3_code 63 = .ok (.iconst 0, 1) := by decide +kernel
theorem d_prog_73_m_3_64 : decode prog_73_method_3_code 64 = .ok (.ireturn, 1) := by decide +kernel
theorem d_prog_73_m_3_65 : decode prog_73_method_3_code 65 = .ok (.iinc 3 1, 3) := by decide +kernel
theorem d_prog_73_m_3_68 : decode prog_73_method_3_code 68 = .ok (.goto (-36), 3) := by decide +kernel
theorem d_prog_73_m_3_71 : decode prog_73_method_3_code 71 = .ok (.iconst 1, 1) := by decide +kernel
theorem d_prog_73_m_3_72 : decode prog_73_method_3_code 72 = .ok (.ireturn, 1) := by decide +kernel
theorem ef_rm4 (m : MethodId) (y0 : Addr) (y1 : Int64) : entryFrame m #[(.ref y0), (.long y1)] 4 = mkF m 0 #[.val (.ref y0), .val (.long y1), .second, .unset] [] := by first | (simp [entryFrame, mkF, argsToLocals, Value.category]; done) | rfl
def Q_rm4 (Z : State) (st : Addr) (pw : Int64) (ra : Addr) (fa : Addr) (kr : ClassId) (kf : ClassId) (fw : Int64) (sr : Int32) (r0 : Int64) (r1 : Int64) (g0 : Int64) (g1 : Int64) (h0 : Heap) (n0 : Nat) (v : Option Value) (h : Heap) (L : List Loc) : Prop := ∃ (fb : Addr) (kb : ClassId), v = some (.int (if pw < fw then (0 : Int32) else if ¬ (r0 - g0) < sr.toInt64 ∧ ¬ (r1 - g1) < sr.toInt64 then 1 else 0)) ∧ Fr n0 L ∧ Keep h0 h [st] ∧ n0 ≤ fb ∧ st ≠ fb ∧ ra ≠ fb ∧ Exa Z h st "com/example/rondel/rondel/Simulator$Settling" ∧ Fld Z h st "com/example/rondel/rondel/Simulator$Settling" "fewestWrong" "J" (.long (if pw < fw then pw else fw)) ∧ Fld Z h st "com/example/rondel/rondel/Simulator$Settling" "stallRounds" "I" (.int sr) ∧ Fld Z h st "com/example/rondel/rondel/Simulator$Settling" "rounds" "[J" (.ref ra) ∧ Fld Z h st "com/example/rondel/rondel/Simulator$Settling" "roundsAtFewest" "[J" (.ref fb) ∧ Arv Z h fb kb .long (2 : Int32) [(.long (if pw < fw then r0 else g0)), (.long (if pw < fw then r1 else g1))] (.long (0 : Int64))
set_option maxRecDepth 65536 in
set_option maxHeartbeats 40000000 in
theorem rm4 (l : Launch) (Z : State) (a0 : Array Value) (hw : ∀ d ∈ tables_1, d.before a0 Z = true) (ws : List Jvm.Cond) (st : Addr) (pw : Int64) (ra : Addr) (fa : Addr) (kr : ClassId) (kf : ClassId) (fw : Int64) (sr : Int32) (r0 : Int64) (r1 : Int64) (g0 : Int64) (g1 : Int64) (h0 : Heap) (n0 : Nat) (Z0 : n0 ≤ h0.size) (E : Exa Z h0 st "com/example/rondel/rondel/Simulator$Settling") (F1 : Fld Z h0 st "com/example/rondel/rondel/Simulator$Settling" "fewestWrong" "J" (.long fw)) (F2 : Fld Z h0 st "com/example/rondel/rondel/Simulator$Settling" "stallRounds" "I" (.int sr)) (F3 : Fld Z h0 st "com/example/rondel/rondel/Simulator$Settling" "rounds" "[J" (.ref ra)) (F4 : Fld Z h0 st "com/example/rondel/rondel/Simulator$Settling" "roundsAtFewest" "[J" (.ref fa)) (V1 : Arv Z h0 ra kr .long (2 : Int32) [(.long r0), (.long r1)] (.long (0 : Int64))) (V2 : Arv Z h0 fa kf .long (2 : Int32) [(.long g0), (.long g1)] (.long (0 : Int64))) (E2 : Exa Z h0 ra "[J") (G : n0 ≤ st) (G_f : n0 ≤ fa) (N_sr : st ≠ ra) (N_sf : st ≠ fa) (N_rf : ra ≠ fa) :
    MetFree l (⟨"com/example/rondel/rondel/Simulator$Settling", "stalled", "(J)Z"⟩ : MethodName) (head1 (Jvm.Cond.code (⟨"com/example/rondel/rondel/Simulator$Settling", "stalled", "(J)Z"⟩ : MethodName) prog_73_method_3_code 4 (some .boolean) :: ws) ({ frames := 1, cells := 1, slots := 2, locals := 15 } : Room)) (fun ar U => ar = #[(.ref st), (.long pw)] ∧ Z.Warmed39 U.vm ∧ U.heap = h0) (fun _ _ _ _ _ => True) (fun _ U o U' => ∃ v L, o = .returned v ∧ Q_rm4 Z st pw ra fa kr kf fw sr r0 r1 g0 g1 h0 n0 v U'.heap L ∧ FrameEnd U o U' L ({ frames := 1, cells := 1, slots := 2, locals := 15 } : Room).cells ({ frames := 1, cells := 1, slots := 2, locals := 15 } : Room).slots) := by
  refine MetFree.of_bodySF (plainFor_of_name own_pn0) hisR ?_
  intro p e s m args below meth c s₁ Bd hml0 hP hK
  obtain ⟨rfl, hZ, hh⟩ := hP
  have hx := Bd.exec
  have hby := Bd.bytes
  have hlk : meth.locks = false := BodyLoose.notSynchronized Bd
  have hml : c.maxLocals = 4 := hml0
  have hown : s.vm.findClass "com/example/rondel/rondel/Simulator$Settling" = some m.cls := findClass_of_methodNamed Bd.named
  have hnm := (name_of_methodNamed Bd.named Bd.method).1
  have X0 : Stand p l e ({ frames := 1, cells := 1, slots := 2, locals := 15 } : Room) s m #[(.ref st), (.long pw)] below meth c s₁ [] 0 0 := Stand.of_body Bd
  have e0 : s₁.heap = h0 := by rw [← hh, Bd.state]; rfl
  have N0 := Fr.nil n0
  show own_Go p.tables e below (fun u o => ∃ v L, o = .returned v ∧ Q_rm4 Z st pw ra fa kr kf fw sr r0 r1 g0 g1 h0 n0 v u.heap L ∧ FrameEnd s o u L ({ frames := 1, cells := 1, slots := 2, locals := 15 } : Room).cells ({ frames := 1, cells := 1, slots := 2, locals := 15 } : Room).slots) (s₁.setTop (entryFrame m #[(.ref st), (.long pw)] 4))
  refine own_up (fun _ k => castTop (ef_rm4 m st pw) k) ?_
  show own_Go p.tables e below _ (s₁.setTop (mkF m 0 #[.val (.ref st), .val (.long pw), .second, .unset] []))
  refine own_up (fun _ k => XS.lloadN X0.here hx rfl (hb hby d_prog_73_m_3_0) rfl k) ?_
  show own_Go p.tables e below _ (s₁.setTop (mkF m 1 #[.val (.ref st), .val (.long pw), .second, .unset] [(.long pw)]))
  refine own_up (fun _ k => XS.aloadN X0.here hx rfl (hb hby d_prog_73_m_3_1) rfl rfl k) ?_
  show own_Go p.tables e below _ (s₁.setTop (mkF m 2 #[.val (.ref st), .val (.long pw), .second, .unset] [(.ref st), (.long pw)]))
  obtain ⟨T1, X1, e1, st1⟩ := getF X0 hx hZ hown (host := "") (Or.inl (hw _ (List.mem_of_getElem? (i := 10) rfl))) Via.refl e0 F1 (g := (mkF m 2 #[.val (.ref st), .val (.long pw), .second, .unset] [(.ref st), (.long pw)])) rfl rfl (hb hby d_prog_73_m_3_2)
  refine own_up st1 ?_
  show own_Go p.tables e below _ (T1.setTop (mkF m 5 #[.val (.ref st), .val (.long pw), .second, .unset] [(.long fw), (.long pw)]))
  refine own_up (fun _ k => XS.lcmp X1.here hx rfl (hb hby d_prog_73_m_3_5) rfl k) ?_
  show own_Go p.tables e below _ (T1.setTop (mkF m 6 #[.val (.ref st), .val (.long pw), .second, .unset] [(.int (lcmpW pw fw))]))
  by_cases cw : pw < fw
  ·
    refine own_up (fun _ k => XS.ifNo X1.here hx rfl (hb hby d_prog_73_m_3_6) rfl ((if0 _ _).trans (tlt ((lw_lt _ _).mpr cw)).2.1) k) ?_
    show own_Go p.tables e below _ (T1.setTop (mkF m 9 #[.val (.ref st), .val (.long pw), .second, .unset] []))
    refine own_up (fun _ k => XS.aloadN X1.here hx rfl (hb hby d_prog_73_m_3_9) rfl rfl k) ?_
    show own_Go p.tables e below _ (T1.setTop (mkF m 10 #[.val (.ref st), .val (.long pw), .second, .unset] [(.ref st)]))
    refine own_up (fun _ k => XS.lloadN X1.here hx rfl (hb hby d_prog_73_m_3_10) rfl k) ?_
    show own_Go p.tables e below _ (T1.setTop (mkF m 11 #[.val (.ref st), .val (.long pw), .second, .unset] [(.long pw), (.ref st)]))
    obtain ⟨T2, h2, X2, e2, W2, st2⟩ := putF X1 hx hZ hown (host := "") (Or.inl (hw _ (List.mem_of_getElem? (i := 10) rfl))) Via.refl e1 F1 E (Or.inl (hw _ (List.mem_of_getElem? (i := 11) rfl))) (hw _ (List.mem_of_getElem? (i := 1) rfl)) (ty := .long) (by decide) rfl rfl (g := (mkF m 11 #[.val (.ref st), .val (.long pw), .second, .unset] [(.long pw), (.ref st)])) rfl rfl (hb hby d_prog_73_m_3_11)
    have Fw2 := F1.same W2
    have N2 := Fr.snoc X2 N0 G
    refine own_up st2 ?_
    show own_Go p.tables e below _ (T2.setTop (mkF m 14 #[.val (.ref st), .val (.long pw), .second, .unset] []))
    refine own_up (fun _ k => XS.aloadN X2.here hx rfl (hb hby d_prog_73_m_3_14) rfl rfl k) ?_
    show own_Go p.tables e below _ (T2.setTop (mkF m 15 #[.val (.ref st), .val (.long pw), .second, .unset] [(.ref st)]))
    refine own_up (fun _ k => XS.aloadN X2.here hx rfl (hb hby d_prog_73_m_3_15) rfl rfl k) ?_
    show own_Go p.tables e below _ (T2.setTop (mkF m 16 #[.val (.ref st), .val (.long pw), .second, .unset] [(.ref st), (.ref st)]))
    have f3 : Fld Z h2 st "com/example/rondel/rondel/Simulator$Settling" "rounds" "[J" (.ref ra) := (F3.other W2 (Or.inr (slot_ne (Or.inr (hw _ (List.mem_of_getElem? (i := 16) rfl))) (Or.inl (hw _ (List.mem_of_getElem? (i := 11) rfl))) (by decide) (t := (.array .long)) (t' := .long) (by decide) (by decide))))
    obtain ⟨T4, X4, e4, st4⟩ := getF X2 hx hZ hown (host := "") (Or.inl (hw _ (List.mem_of_getElem? (i := 15) rfl))) Via.refl e2 f3 (g := (mkF m 16 #[.val (.ref st), .val (.long pw), .second, .unset] [(.ref st), (.ref st)])) rfl rfl (hb hby d_prog_73_m_3_16)
    refine own_up st4 ?_
    show own_Go p.tables e below _ (T4.setTop (mkF m 19 #[.val (.ref st), .val (.long pw), .second, .unset] [(.ref ra), (.ref st)]))
    have f6 : Arv Z h2 ra kr .long (2 : Int32) [(.long r0), (.long r1)] (.long (0 : Int64)) := (V1.other W2 (Ne.symm N_sr))
    have f7 : Exa Z h2 ra "[J" := (E2.wr W2)
    obtain ⟨T5, h5, X5, e5, E5, A5, C5, st5⟩ := cloneH X4 hx hZ hown (hw _ (List.mem_of_getElem? (i := 17) rfl)) (hw _ (List.mem_of_getElem? (i := 18) rfl)) (hw _ (List.mem_of_getElem? (i := 22) rfl)) (hw _ (List.mem_of_getElem? (i := 20) rfl)) (hw _ (List.mem_of_getElem? (i := 21) rfl)) (hw _ (List.mem_of_getElem? (i := 23) rfl)) e4 f6.arh f7 (g := (mkF m 19 #[.val (.ref st), .val (.long pw), .second, .unset] [(.ref ra), (.ref st)])) rfl (by rw [hml]; rfl) rfl (hb hby d_prog_73_m_3_19) (by decide) (W := 1) (by show 2 * 0 + _ ≤ _; exact Nat.le_of_eq rfl) (by decide) (cap := 2) (by decide) (by decide) (by decide)
    have f8 : n0 ≤ h2.size := (Nat.le_trans Z0 (Nat.le_of_eq (Wr.size W2).symm))
    have f9 : h0.size ≤ h2.size := (Nat.le_trans (Nat.le_refl _) (Nat.le_of_eq (Wr.size W2).symm))
    have f10 : Exa Z h2 st "com/example/rondel/rondel/Simulator$Settling" := (E.wr W2)
    have f11 : Arv Z h2 fa kf .long (2 : Int32) [(.long g0), (.long g1)] (.long (0 : Int64)) := (V2.other W2 (Ne.symm N_sf))
    obtain ⟨b5, g5⟩ : ∃ z, z = h2.size := ⟨_, rfl⟩
    rw [← g5] at A5 C5 st5
    have ge5 : n0 ≤ b5 := Nat.le_trans f8 (Nat.le_of_eq g5.symm)
    have ne5_0 : st ≠ b5 := Nat.ne_of_lt (Nat.lt_of_lt_of_le f10.lt (Nat.le_of_eq g5.symm))
    have ne5_1 : ra ≠ b5 := Nat.ne_of_lt (Nat.lt_of_lt_of_le f6.lt (Nat.le_of_eq g5.symm))
    have ne5_2 : fa ≠ b5 := Nat.ne_of_lt (Nat.lt_of_lt_of_le f11.lt (Nat.le_of_eq g5.symm))
    have sz5 : h0.size ≤ b5 := Nat.le_trans f9 (Nat.le_of_eq g5.symm)
    refine own_up st5 ?_
    have V5 : Arv Z h5 b5 kr .long (2 : Int32) [(.long r0), (.long r1)] (.long (0 : Int64)) := A5
    show own_Go p.tables e below _ (T5.setTop (mkF m 22 #[.val (.ref st), .val (.long pw), .second, .unset] [(.ref b5), (.ref st)]))
    obtain ⟨T12, X12, e12, st12⟩ := castY X5 hx hZ hown (hw _ (List.mem_of_getElem? (i := 24) rfl)) e5 (Ins.self C5) (g := (mkF m 22 #[.val (.ref st), .val (.long pw), .second, .unset] [(.ref b5), (.ref st)])) rfl rfl (hb hby d_prog_73_m_3_22)
    refine own_up st12 ?_
    show own_Go p.tables e below _ (T12.setTop (mkF m 25 #[.val (.ref st), .val (.long pw), .second, .unset] [(.ref b5), (.ref st)]))
    have f13 : Fld Z h5 st "com/example/rondel/rondel/Simulator$Settling" "roundsAtFewest" "[J" (.ref fa) := ((F4.other W2 (Or.inr (slot_ne (Or.inl (hw _ (List.mem_of_getElem? (i := 27) rfl))) (Or.inl (hw _ (List.mem_of_getElem? (i := 11) rfl))) (by decide) (t := (.array .long)) (t' := .long) (by decide) (by decide)))).ext E5)
    have f14 : Exa Z h5 st "com/example/rondel/rondel/Simulator$Settling" := (f10.ext E5)
    obtain ⟨T15, h15, X15, e15, W15, st15⟩ := putF X12 hx hZ hown (host := "") (Or.inl (hw _ (List.mem_of_getElem? (i := 26) rfl))) Via.refl e12 f13 f14 (Or.inl (hw _ (List.mem_of_getElem? (i := 27) rfl))) (hw _ (List.mem_of_getElem? (i := 1) rfl)) (ty := (.array .long)) (by decide) rfl rfl (g := (mkF m 25 #[.val (.ref st), .val (.long pw), .second, .unset] [(.ref b5), (.ref st)])) rfl rfl (hb hby d_prog_73_m_3_25)
    have Fw15 := f13.same W15
    have N15 := Fr.snoc X15 N2 G
    refine own_up st15 ?_
    show own_Go p.tables e below _ (T15.setTop (mkF m 28 #[.val (.ref st), .val (.long pw), .second, .unset] []))
    refine own_up (fun _ k => XS.iconst X15.here hx rfl (hb hby d_prog_73_m_3_28) k) ?_
    show own_Go p.tables e below _ (T15.setTop (mkF m 29 #[.val (.ref st), .val (.long pw), .second, .unset] [(.int (0 : Int32))]))
    have f16 : Exa Z h15 st "com/example/rondel/rondel/Simulator$Settling" := (f14.wr W15)
    have f17 : Fld Z h15 st "com/example/rondel/rondel/Simulator$Settling" "fewestWrong" "J" (.long pw) := ((Fw2.ext E5).other W15 (Or.inr (slot_ne (Or.inl (hw _ (List.mem_of_getElem? (i := 11) rfl))) (Or.inl (hw _ (List.mem_of_getElem? (i := 27) rfl))) (by decide) (t := .long) (t' := (.array .long)) (by decide) (by decide))))
    have f18 : Fld Z h15 st "com/example/rondel/rondel/Simulator$Settling" "stallRounds" "I" (.int sr) := (((F2.other W2 (Or.inr (slot_ne (Or.inr (hw _ (List.mem_of_getElem? (i := 13) rfl))) (Or.inl (hw _ (List.mem_of_getElem? (i := 11) rfl))) (by decide) (t := .int) (t' := .long) (by decide) (by decide)))).ext E5).other W15 (Or.inr (slot_ne (Or.inr (hw _ (List.mem_of_getElem? (i := 13) rfl))) (Or.inl (hw _ (List.mem_of_getElem? (i := 27) rfl))) (by decide) (t := .int) (t' := (.array .long)) (by decide) (by decide))))
    have f19 : Fld Z h15 st "com/example/rondel/rondel/Simulator$Settling" "rounds" "[J" (.ref ra) := ((f3.ext E5).other W15 (Or.inr (slot_ne (Or.inr (hw _ (List.mem_of_getElem? (i := 16) rfl))) (Or.inl (hw _ (List.mem_of_getElem? (i := 27) rfl))) (by decide) (t := (.array .long)) (t' := (.array .long)) (by decide) (by decide))))
    have f20 : Arv Z h15 b5 kr .long (2 : Int32) [(.long r0), (.long r1)] (.long (0 : Int64)) := (V5.other W15 (Ne.symm ne5_0))
    exact own_end X15 hlk (v := some (.int (0 : Int32))) (fun h => by rw [Bd.returns] at h; cases h) (fun fs hr => retN X15 hx (z := (0 : Int32)) (t := .boolean) Bd.returns (by simp) (hb hby d_prog_73_m_3_29) hr) e15 ⟨b5, kr, by rw [if_pos cw], N15, ((((Keep.refl h0 [st]).wr W2 (Or.inl (List.mem_of_getElem? (i := 0) rfl))).ext E5).wr W15 (Or.inl (List.mem_of_getElem? (i := 0) rfl))), ge5, ne5_0, ne5_1, f16, (by rw [if_pos cw]; exact f17), f18, f19, Fw15, (by rw [if_pos cw, if_pos cw]; exact f20)⟩ (by decide) (by decide)
  ·
    refine own_up (fun _ k => XS.ifYes X1.here hx rfl (pc0 := 6) (pc' := 30) rfl (hb hby d_prog_73_m_3_6) rfl ((if0 _ _).trans (flt (fun q => cw ((lw_lt _ _).mp q))).2.1) (by decide) (by decide) k) ?_
    show own_Go p.tables e below _ (T1.setTop (mkF m 30 #[.val (.ref st), .val (.long pw), .second, .unset] []))
    refine own_up (fun _ k => XS.iconst X1.here hx rfl (hb hby d_prog_73_m_3_30) k) ?_
    show own_Go p.tables e below _ (T1.setTop (mkF m 31 #[.val (.ref st), .val (.long pw), .second, .unset] [(.int (0 : Int32))]))
    refine own_up (fun _ k => XS.istoreN X1.here hx rfl (hb hby d_prog_73_m_3_31) rfl (l' := #[.val (.ref st), .val (.long pw), .second, .val (.int (0 : Int32))]) rfl k) ?_
    show own_Go p.tables e below _ (T1.setTop (mkF m 32 #[.val (.ref st), .val (.long pw), .second, .val (.int (0 : Int32))] []))
    refine own_up (fun _ k => XS.iloadN X1.here hx rfl (hb hby d_prog_73_m_3_32) rfl k) ?_
    show own_Go p.tables e below _ (T1.setTop (mkF m 33 #[.val (.ref st), .val (.long pw), .second, .val (.int (0 : Int32))] [(.int (0 : Int32))]))
    refine own_up (fun _ k => XS.aloadN X1.here hx rfl (hb hby d_prog_73_m_3_33) rfl rfl k) ?_
    show own_Go p.tables e below _ (T1.setTop (mkF m 34 #[.val (.ref st), .val (.long pw), .second, .val (.int (0 : Int32))] [(.ref st), (.int (0 : Int32))]))
    obtain ⟨T21, X21, e21, st21⟩ := getF X1 hx hZ hown (host := "") (Or.inl (hw _ (List.mem_of_getElem? (i := 15) rfl))) Via.refl e1 F3 (g := (mkF m 34 #[.val (.ref st), .val (.long pw), .second, .val (.int (0 : Int32))] [(.ref st), (.int (0 : Int32))])) rfl rfl (hb hby d_prog_73_m_3_34)
    refine own_up st21 ?_
    show own_Go p.tables e below _ (T21.setTop (mkF m 37 #[.val (.ref st), .val (.long pw), .second, .val (.int (0 : Int32))] [(.ref ra), (.int (0 : Int32))]))
    obtain ⟨cl22_, Ar22, q22, S22, M22, Hs22, G22⟩ := id (V1)
    refine own_up (fun _ k => X21.arraylength hx (by rw [e21]; exact Ar22.1) (State.isArrayOf_alike hZ.alike Ar22.2.1) (g := (mkF m 37 #[.val (.ref st), .val (.long pw), .second, .val (.int (0 : Int32))] [(.ref ra), (.int (0 : Int32))])) rfl rfl (hb hby d_prog_73_m_3_37) _ k) ?_
    rw [len_of S22 M22]
    show own_Go p.tables e below _ (T21.setTop (mkF m 38 #[.val (.ref st), .val (.long pw), .second, .val (.int (0 : Int32))] [(.int (2 : Int32)), (.int (0 : Int32))]))
    refine own_up (fun _ k => XS.icmpNo X21.here hx rfl (hb hby d_prog_73_m_3_38) rfl (tlt (by decide)).2.1 k) ?_
    show own_Go p.tables e below _ (T21.setTop (mkF m 41 #[.val (.ref st), .val (.long pw), .second, .val (.int (0 : Int32))] []))
    refine own_up (fun _ k => XS.aloadN X21.here hx rfl (hb hby d_prog_73_m_3_41) rfl rfl k) ?_
    show own_Go p.tables e below _ (T21.setTop (mkF m 42 #[.val (.ref st), .val (.long pw), .second, .val (.int (0 : Int32))] [(.ref st)]))
    obtain ⟨T23, X23, e23, st23⟩ := getF X21 hx hZ hown (host := "") (Or.inl (hw _ (List.mem_of_getElem? (i := 15) rfl))) Via.refl e21 F3 (g := (mkF m 42 #[.val (.ref st), .val (.long pw), .second, .val (.int (0 : Int32))] [(.ref st)])) rfl rfl (hb hby d_prog_73_m_3_42)
    refine own_up st23 ?_
    show own_Go p.tables e below _ (T23.setTop (mkF m 45 #[.val (.ref st), .val (.long pw), .second, .val (.int (0 : Int32))] [(.ref ra)]))
    refine own_up (fun _ k => XS.iloadN X23.here hx rfl (hb hby d_prog_73_m_3_45) rfl k) ?_
    show own_Go p.tables e below _ (T23.setTop (mkF m 46 #[.val (.ref st), .val (.long pw), .second, .val (.int (0 : Int32))] [(.int (0 : Int32)), (.ref ra)]))
    have hin24 : ¬ ((0 : Int32) < 0 ∨ cl22_.slots.size ≤ ((0 : Int32)).toNatClampNeg) := inb_of S22 ⟨by decide, by decide⟩
    have hat24 : cl22_.slots[((0 : Int32)).toNatClampNeg]? = some (.long r0) := Has.at Hs22 hin24 rfl
    refine own_up (fun _ k => X23.laload hx (j := (0 : Int32)) (v := (.long r0)) (by rw [e23]; exact Ar22.1) (State.isArrayOf_alike hZ.alike Ar22.2.1) Ar22.2.2 hin24 hat24 (g := (mkF m 46 #[.val (.ref st), .val (.long pw), .second, .val (.int (0 : Int32))] [(.int (0 : Int32)), (.ref ra)])) rfl rfl (hb hby d_prog_73_m_3_46) _ k) ?_
    show own_Go p.tables e below _ (T23.setTop (mkF m 47 #[.val (.ref st), .val (.long pw), .second, .val (.int (0 : Int32))] [(.long r0)]))
    refine own_up (fun _ k => XS.aloadN X23.here hx rfl (hb hby d_prog_73_m_3_47) rfl rfl k) ?_
    show own_Go p.tables e below _ (T23.setTop (mkF m 48 #[.val (.ref st), .val (.long pw), .second, .val (.int (0 : Int32))] [(.ref st), (.long r0)]))
    obtain ⟨T25, X25, e25, st25⟩ := getF X23 hx hZ hown (host := "") (Or.inl (hw _ (List.mem_of_getElem? (i := 26) rfl))) Via.refl e23 F4 (g := (mkF m 48 #[.val (.ref st), .val (.long pw), .second, .val (.int (0 : Int32))] [(.ref st), (.long r0)])) rfl rfl (hb hby d_prog_73_m_3_48)
    refine own_up st25 ?_
    show own_Go p.tables e below _ (T25.setTop (mkF m 51 #[.val (.ref st), .val (.long pw), .second, .val (.int (0 : Int32))] [(.ref fa), (.long r0)]))
    refine own_up (fun _ k => XS.iloadN X25.here hx rfl (hb hby d_prog_73_m_3_51) rfl k) ?_
    show own_Go p.tables e below _ (T25.setTop (mkF m 52 #[.val (.ref st), .val (.long pw), .second, .val (.int (0 : Int32))] [(.int (0 : Int32)), (.ref fa), (.long r0)]))
    obtain ⟨cl26_, Ar26, q26, S26, M26, Hs26, G26⟩ := id (V2)
    have hin27 : ¬ ((0 : Int32) < 0 ∨ cl26_.slots.size ≤ ((0 : Int32)).toNatClampNeg) := inb_of S26 ⟨by decide, by decide⟩
    have hat27 : cl26_.slots[((0 : Int32)).toNatClampNeg]? = some (.long g0) := Has.at Hs26 hin27 rfl
    refine own_up (fun _ k => X25.laload hx (j := (0 : Int32)) (v := (.long g0)) (by rw [e25]; exact Ar26.1) (State.isArrayOf_alike hZ.alike Ar26.2.1) Ar26.2.2 hin27 hat27 (g := (mkF m 52 #[.val (.ref st), .val (.long pw), .second, .val (.int (0 : Int32))] [(.int (0 : Int32)), (.ref fa), (.long r0)])) rfl rfl (hb hby d_prog_73_m_3_52) _ k) ?_
    show own_Go p.tables e below _ (T25.setTop (mkF m 53 #[.val (.ref st), .val (.long pw), .second, .val (.int (0 : Int32))] [(.long g0), (.long r0)]))
    refine own_up (fun _ k => XS.lsub X25.here hx rfl (hb hby d_prog_73_m_3_53) rfl k) ?_
    show own_Go p.tables e below _ (T25.setTop (mkF m 54 #[.val (.ref st), .val (.long pw), .second, .val (.int (0 : Int32))] [(.long (r0 - g0))]))
    refine own_up (fun _ k => XS.aloadN X25.here hx rfl (hb hby d_prog_73_m_3_54) rfl rfl k) ?_
    show own_Go p.tables e below _ (T25.setTop (mkF m 55 #[.val (.ref st), .val (.long pw), .second, .val (.int (0 : Int32))] [(.ref st), (.long (r0 - g0))]))
    obtain ⟨T28, X28, e28, st28⟩ := getF X25 hx hZ hown (host := "") (Or.inl (hw _ (List.mem_of_getElem? (i := 12) rfl))) Via.refl e25 F2 (g := (mkF m 55 #[.val (.ref st), .val (.long pw), .second, .val (.int (0 : Int32))] [(.ref st), (.long (r0 - g0))])) rfl rfl (hb hby d_prog_73_m_3_55)
    refine own_up st28 ?_
    show own_Go p.tables e below _ (T28.setTop (mkF m 58 #[.val (.ref st), .val (.long pw), .second, .val (.int (0 : Int32))] [(.int sr), (.long (r0 - g0))]))
    refine own_up (fun _ k => XS.i2l X28.here hx rfl (hb hby d_prog_73_m_3_58) rfl k) ?_
    show own_Go p.tables e below _ (T28.setTop (mkF m 59 #[.val (.ref st), .val (.long pw), .second, .val (.int (0 : Int32))] [(.long (sr.toInt64)), (.long (r0 - g0))]))
    refine own_up (fun _ k => XS.lcmp X28.here hx rfl (hb hby d_prog_73_m_3_59) rfl k) ?_
    show own_Go p.tables e below _ (T28.setTop (mkF m 60 #[.val (.ref st), .val (.long pw), .second, .val (.int (0 : Int32))] [(.int (lcmpW (r0 - g0) (sr.toInt64)))]))
    by_cases c0 : (r0 - g0) < (sr.toInt64)
    ·
      refine own_up (fun _ k => XS.ifNo X28.here hx rfl (hb hby d_prog_73_m_3_60) rfl ((if0 _ _).trans (tlt ((lw_lt _ _).mpr c0)).2.1) k) ?_
      show own_Go p.tables e below _ (T28.setTop (mkF m 63 #[.val (.ref st), .val (.long pw), .second, .val (.int (0 : Int32))] []))
      refine own_up (fun _ k => XS.iconst X28.here hx rfl (hb hby d_prog_73_m_3_63) k) ?_
      show own_Go p.tables e below _ (T28.setTop (mkF m 64 #[.val (.ref st), .val (.long pw), .second, .val (.int (0 : Int32))] [(.int (0 : Int32))]))
      exact own_end X28 hlk (v := some (.int (0 : Int32))) (fun h => by rw [Bd.returns] at h; cases h) (fun fs hr => retN X28 hx (z := (0 : Int32)) (t := .boolean) Bd.returns (by simp) (hb hby d_prog_73_m_3_64) hr) e28 ⟨fa, kf, by rw [if_neg cw, if_neg (fun q => q.1 c0)], N0, (Keep.refl h0 [st]), G_f, N_sf, N_rf, E, (by rw [if_neg cw]; exact F1), F2, F3, F4, (by rw [if_neg cw, if_neg cw]; exact V2)⟩ (by decide) (by decide)
    ·
      refine own_up (fun _ k => XS.ifYes X28.here hx rfl (pc0 := 60) (pc' := 65) rfl (hb hby d_prog_73_m_3_60) rfl ((if0 _ _).trans (flt (fun q => c0 ((lw_lt _ _).mp q))).2.1) (by decide) (by decide) k) ?_
      show own_Go p.tables e below _ (T28.setTop (mkF m 65 #[.val (.ref st), .val (.long pw), .second, .val (.int (0 : Int32))] []))
      refine own_up (fun _ k => XS.iinc X28.here hx rfl (hb hby d_prog_73_m_3_65) rfl (l' := #[.val (.ref st), .val (.long pw), .second, .val (.int (1 : Int32))]) rfl k) ?_
      show own_Go p.tables e below _ (T28.setTop (mkF m 68 #[.val (.ref st), .val (.long pw), .second, .val (.int (1 : Int32))] []))
      refine own_up (fun _ k => XS.goto X28.here hx rfl (pc0 := 68) (pc' := 32) rfl (hb hby d_prog_73_m_3_68) (by decide) (by decide) k) ?_
      show own_Go p.tables e below _ (T28.setTop (mkF m 32 #[.val (.ref st), .val (.long pw), .second, .val (.int (1 : Int32))] []))
      refine own_up (fun _ k => XS.iloadN X28.here hx rfl (hb hby d_prog_73_m_3_32) rfl k) ?_
      show own_Go p.tables e below _ (T28.setTop (mkF m 33 #[.val (.ref st), .val (.long pw), .second, .val (.int (1 : Int32))] [(.int (1 : Int32))]))
      refine own_up (fun _ k => XS.aloadN X28.here hx rfl (hb hby d_prog_73_m_3_33) rfl rfl k) ?_
      show own_Go p.tables e below _ (T28.setTop (mkF m 34 #[.val (.ref st), .val (.long pw), .second, .val (.int (1 : Int32))] [(.ref st), (.int (1 : Int32))]))
      obtain ⟨T29, X29, e29, st29⟩ := getF X28 hx hZ hown (host := "") (Or.inl (hw _ (List.mem_of_getElem? (i := 15) rfl))) Via.refl e28 F3 (g := (mkF m 34 #[.val (.ref st), .val (.long pw), .second, .val (.int (1 : Int32))] [(.ref st), (.int (1 : Int32))])) rfl rfl (hb hby d_prog_73_m_3_34)
      refine own_up st29 ?_
      show own_Go p.tables e below _ (T29.setTop (mkF m 37 #[.val (.ref st), .val (.long pw), .second, .val (.int (1 : Int32))] [(.ref ra), (.int (1 : Int32))]))
      refine own_up (fun _ k => X29.arraylength hx (by rw [e29]; exact Ar22.1) (State.isArrayOf_alike hZ.alike Ar22.2.1) (g := (mkF m 37 #[.val (.ref st), .val (.long pw), .second, .val (.int (1 : Int32))] [(.ref ra), (.int (1 : Int32))])) rfl rfl (hb hby d_prog_73_m_3_37) _ k) ?_
      rw [len_of S22 M22]
      show own_Go p.tables e below _ (T29.setTop (mkF m 38 #[.val (.ref st), .val (.long pw), .second, .val (.int (1 : Int32))] [(.int (2 : Int32)), (.int (1 : Int32))]))
      refine own_up (fun _ k => XS.icmpNo X29.here hx rfl (hb hby d_prog_73_m_3_38) rfl (tlt (by decide)).2.1 k) ?_
      show own_Go p.tables e below _ (T29.setTop (mkF m 41 #[.val (.ref st), .val (.long pw), .second, .val (.int (1 : Int32))] []))
      refine own_up (fun _ k => XS.aloadN X29.here hx rfl (hb hby d_prog_73_m_3_41) rfl rfl k) ?_
      show own_Go p.tables e below _ (T29.setTop (mkF m 42 #[.val (.ref st), .val (.long pw), .second, .val (.int (1 : Int32))] [(.ref st)]))
      obtain ⟨T30, X30, e30, st30⟩ := getF X29 hx hZ hown (host := "") (Or.inl (hw _ (List.mem_of_getElem? (i := 15) rfl))) Via.refl e29 F3 (g := (mkF m 42 #[.val (.ref st), .val (.long pw), .second, .val (.int (1 : Int32))] [(.ref st)])) rfl rfl (hb hby d_prog_73_m_3_42)
      refine own_up st30 ?_
      show own_Go p.tables e below _ (T30.setTop (mkF m 45 #[.val (.ref st), .val (.long pw), .second, .val (.int (1 : Int32))] [(.ref ra)]))
      refine own_up (fun _ k => XS.iloadN X30.here hx rfl (hb hby d_prog_73_m_3_45) rfl k) ?_
      show own_Go p.tables e below _ (T30.setTop (mkF m 46 #[.val (.ref st), .val (.long pw), .second, .val (.int (1 : Int32))] [(.int (1 : Int32)), (.ref ra)]))
      have hin31 : ¬ ((1 : Int32) < 0 ∨ cl22_.slots.size ≤ ((1 : Int32)).toNatClampNeg) := inb_of S22 ⟨by decide, by decide⟩
      have hat31 : cl22_.slots[((1 : Int32)).toNatClampNeg]? = some (.long r1) := Has.at Hs22 hin31 rfl
      refine own_up (fun _ k => X30.laload hx (j := (1 : Int32)) (v := (.long r1)) (by rw [e30]; exact Ar22.1) (State.isArrayOf_alike hZ.alike Ar22.2.1) Ar22.2.2 hin31 hat31 (g := (mkF m 46 #[.val (.ref st), .val (.long pw), .second, .val (.int (1 : Int32))] [(.int (1 : Int32)), (.ref ra)])) rfl rfl (hb hby d_prog_73_m_3_46) _ k) ?_
      show own_Go p.tables e below _ (T30.setTop (mkF m 47 #[.val (.ref st), .val (.long pw), .second, .val (.int (1 : Int32))] [(.long r1)]))
      refine own_up (fun _ k => XS.aloadN X30.here hx rfl (hb hby d_prog_73_m_3_47) rfl rfl k) ?_
      show own_Go p.tables e below _ (T30.setTop (mkF m 48 #[.val (.ref st), .val (.long pw), .second, .val (.int (1 : Int32))] [(.ref st), (.long r1)]))
      obtain ⟨T32, X32, e32, st32⟩ := getF X30 hx hZ hown (host := "") (Or.inl (hw _ (List.mem_of_getElem? (i := 26) rfl))) Via.refl e30 F4 (g := (mkF m 48 #[.val (.ref st), .val (.long pw), .second, .val (.int (1 : Int32))] [(.ref st), (.long r1)])) rfl rfl (hb hby d_prog_73_m_3_48)
      refine own_up st32 ?_
      show own_Go p.tables e below _ (T32.setTop (mkF m 51 #[.val (.ref st), .val (.long pw), .second, .val (.int (1 : Int32))] [(.ref fa), (.long r1)]))
      refine own_up (fun _ k => XS.iloadN X32.here hx rfl (hb hby d_prog_73_m_3_51) rfl k) ?_
      show own_Go p.tables e below _ (T32.setTop (mkF m 52 #[.val (.ref st), .val (.long pw), .second, .val (.int (1 : Int32))] [(.int (1 : Int32)), (.ref fa), (.long r1)]))
      have hin33 : ¬ ((1 : Int32) < 0 ∨ cl26_.slots.size ≤ ((1 : Int32)).toNatClampNeg) := inb_of S26 ⟨by decide, by decide⟩
      have hat33 : cl26_.slots[((1 : Int32)).toNatClampNeg]? = some (.long g1) := Has.at Hs26 hin33 rfl
      refine own_up (fun _ k => X32.laload hx (j := (1 : Int32)) (v := (.long g1)) (by rw [e32]; exact Ar26.1) (State.isArrayOf_alike hZ.alike Ar26.2.1) Ar26.2.2 hin33 hat33 (g := (mkF m 52 #[.val (.ref st), .val (.long pw), .second, .val (.int (1 : Int32))] [(.int (1 : Int32)), (.ref fa), (.long r1)])) rfl rfl (hb hby d_prog_73_m_3_52) _ k) ?_
      show own_Go p.tables e below _ (T32.setTop (mkF m 53 #[.val (.ref st), .val (.long pw), .second, .val (.int (1 : Int32))] [(.long g1), (.long r1)]))
      refine own_up (fun _ k => XS.lsub X32.here hx rfl (hb hby d_prog_73_m_3_53) rfl k) ?_
      show own_Go p.tables e below _ (T32.setTop (mkF m 54 #[.val (.ref st), .val (.long pw), .second, .val (.int (1 : Int32))] [(.long (r1 - g1))]))
      refine own_up (fun _ k => XS.aloadN X32.here hx rfl (hb hby d_prog_73_m_3_54) rfl rfl k) ?_
      show own_Go p.tables e below _ (T32.setTop (mkF m 55 #[.val (.ref st), .val (.long pw), .second, .val (.int (1 : Int32))] [(.ref st), (.long (r1 - g1))]))
      obtain ⟨T34, X34, e34, st34⟩ := getF X32 hx hZ hown (host := "") (Or.inl (hw _ (List.mem_of_getElem? (i := 12) rfl))) Via.refl e32 F2 (g := (mkF m 55 #[.val (.ref st), .val (.long pw), .second, .val (.int (1 : Int32))] [(.ref st), (.long (r1 - g1))])) rfl rfl (hb hby d_prog_73_m_3_55)
      refine own_up st34 ?_
      show own_Go p.tables e below _ (T34.setTop (mkF m 58 #[.val (.ref st), .val (.long pw), .second, .val (.int (1 : Int32))] [(.int sr), (.long (r1 - g1))]))
      refine own_up (fun _ k => XS.i2l X34.here hx rfl (hb hby d_prog_73_m_3_58) rfl k) ?_
      show own_Go p.tables e below _ (T34.setTop (mkF m 59 #[.val (.ref st), .val (.long pw), .second, .val (.int (1 : Int32))] [(.long (sr.toInt64)), (.long (r1 - g1))]))
      refine own_up (fun _ k => XS.lcmp X34.here hx rfl (hb hby d_prog_73_m_3_59) rfl k) ?_
      show own_Go p.tables e below _ (T34.setTop (mkF m 60 #[.val (.ref st), .val (.long pw), .second, .val (.int (1 : Int32))] [(.int (lcmpW (r1 - g1) (sr.toInt64)))]))
      by_cases c1 : (r1 - g1) < (sr.toInt64)
      ·
        refine own_up (fun _ k => XS.ifNo X34.here hx rfl (hb hby d_prog_73_m_3_60) rfl ((if0 _ _).trans (tlt ((lw_lt _ _).mpr c1)).2.1) k) ?_
        show own_Go p.tables e below _ (T34.setTop (mkF m 63 #[.val (.ref st), .val (.long pw), .second, .val (.int (1 : Int32))] []))
        refine own_up (fun _ k => XS.iconst X34.here hx rfl (hb hby d_prog_73_m_3_63) k) ?_
        show own_Go p.tables e below _ (T34.setTop (mkF m 64 #[.val (.ref st), .val (.long pw), .second, .val (.int (1 : Int32))] [(.int (0 : Int32))]))
        exact own_end X34 hlk (v := some (.int (0 : Int32))) (fun h => by rw [Bd.returns] at h; cases h) (fun fs hr => retN X34 hx (z := (0 : Int32)) (t := .boolean) Bd.returns (by simp) (hb hby d_prog_73_m_3_64) hr) e34 ⟨fa, kf, by rw [if_neg cw, if_neg (fun q => q.2 c1)], N0, (Keep.refl h0 [st]), G_f, N_sf, N_rf, E, (by rw [if_neg cw]; exact F1), F2, F3, F4, (by rw [if_neg cw, if_neg cw]; exact V2)⟩ (by decide) (by decide)
      ·
        refine own_up (fun _ k => XS.ifYes X34.here hx rfl (pc0 := 60) (pc' := 65) rfl (hb hby d_prog_73_m_3_60) rfl ((if0 _ _).trans (flt (fun q => c1 ((lw_lt _ _).mp q))).2.1) (by decide) (by decide) k) ?_
        show own_Go p.tables e below _ (T34.setTop (mkF m 65 #[.val (.ref st), .val (.long pw), .second, .val (.int (1 : Int32))] []))
        refine own_up (fun _ k => XS.iinc X34.here hx rfl (hb hby d_prog_73_m_3_65) rfl (l' := #[.val (.ref st), .val (.long pw), .second, .val (.int (2 : Int32))]) rfl k) ?_
        show own_Go p.tables e below _ (T34.setTop (mkF m 68 #[.val (.ref st), .val (.long pw), .second, .val (.int (2 : Int32))] []))
        refine own_up (fun _ k => XS.goto X34.here hx rfl (pc0 := 68) (pc' := 32) rfl (hb hby d_prog_73_m_3_68) (by decide) (by decide) k) ?_
        show own_Go p.tables e below _ (T34.setTop (mkF m 32 #[.val (.ref st), .val (.long pw), .second, .val (.int (2 : Int32))] []))
        refine own_up (fun _ k => XS.iloadN X34.here hx rfl (hb hby d_prog_73_m_3_32) rfl k) ?_
        show own_Go p.tables e below _ (T34.setTop (mkF m 33 #[.val (.ref st), .val (.long pw), .second, .val (.int (2 : Int32))] [(.int (2 : Int32))]))
        refine own_up (fun _ k => XS.aloadN X34.here hx rfl (hb hby d_prog_73_m_3_33) rfl rfl k) ?_
        show own_Go p.tables e below _ (T34.setTop (mkF m 34 #[.val (.ref st), .val (.long pw), .second, .val (.int (2 : Int32))] [(.ref st), (.int (2 : Int32))]))
        obtain ⟨T35, X35, e35, st35⟩ := getF X34 hx hZ hown (host := "") (Or.inl (hw _ (List.mem_of_getElem? (i := 15) rfl))) Via.refl e34 F3 (g := (mkF m 34 #[.val (.ref st), .val (.long pw), .second, .val (.int (2 : Int32))] [(.ref st), (.int (2 : Int32))])) rfl rfl (hb hby d_prog_73_m_3_34)
        refine own_up st35 ?_
        show own_Go p.tables e below _ (T35.setTop (mkF m 37 #[.val (.ref st), .val (.long pw), .second, .val (.int (2 : Int32))] [(.ref ra), (.int (2 : Int32))]))
        refine own_up (fun _ k => X35.arraylength hx (by rw [e35]; exact Ar22.1) (State.isArrayOf_alike hZ.alike Ar22.2.1) (g := (mkF m 37 #[.val (.ref st), .val (.long pw), .second, .val (.int (2 : Int32))] [(.ref ra), (.int (2 : Int32))])) rfl rfl (hb hby d_prog_73_m_3_37) _ k) ?_
        rw [len_of S22 M22]
        show own_Go p.tables e below _ (T35.setTop (mkF m 38 #[.val (.ref st), .val (.long pw), .second, .val (.int (2 : Int32))] [(.int (2 : Int32)), (.int (2 : Int32))]))
        refine own_up (fun _ k => XS.icmpYes X35.here hx rfl (pc0 := 38) (pc' := 71) rfl (hb hby d_prog_73_m_3_38) rfl (flt (by decide)).2.1 (by decide) (by decide) k) ?_
        show own_Go p.tables e below _ (T35.setTop (mkF m 71 #[.val (.ref st), .val (.long pw), .second, .val (.int (2 : Int32))] []))
        refine own_up (fun _ k => XS.iconst X35.here hx rfl (hb hby d_prog_73_m_3_71) k) ?_
        show own_Go p.tables e below _ (T35.setTop (mkF m 72 #[.val (.ref st), .val (.long pw), .second, .val (.int (2 : Int32))] [(.int (1 : Int32))]))
        exact own_end X35 hlk (v := some (.int (1 : Int32))) (fun h => by rw [Bd.returns] at h; cases h) (fun fs hr => retN X35 hx (z := (1 : Int32)) (t := .boolean) Bd.returns (by simp) (hb hby d_prog_73_m_3_72) hr) e35 ⟨fa, kf, by rw [if_neg cw, if_pos ⟨c0, c1⟩], N0, (Keep.refl h0 [st]), G_f, N_sf, N_rf, E, (by rw [if_neg cw]; exact F1), F2, F3, F4, (by rw [if_neg cw, if_neg cw]; exact V2)⟩ (by decide) (by decide)
theorem own_pd0 : parseMethodDescriptor "(II)V" = some ⟨[.int, .int], none⟩ := by decide +kernel
theorem own_pd1 : parseMethodDescriptor "(J)Z" = some ⟨[.long], some .boolean⟩ := by decide +kernel
theorem own_pd2 : parseMethodDescriptor "(JJ)J" = some ⟨[.long, .long], some .long⟩ := by decide +kernel
theorem own_pd3 : parseMethodDescriptor "(I)V" = some ⟨[.int], none⟩ := by decide +kernel
theorem own_pn1 : plainName "com/example/rondel/rondel/SettlingStalledPinLaw" = true := by first | (simp [plainName, overriddenIn]; done) | decide +kernel
theorem ef_rm0 (m : MethodId) (y0 : Int32) (y1 : Int64) (y2 : Int64) (y3 : Int64) : entryFrame m #[(.int y0), (.long y1), (.long y2), (.long y3)] maxLocals = mkF m 0 #[.val (.int y0), .val (.long y1), .second, .val (.long y2), .second, .val (.long y3), .second, .unset, .unset, .unset, .unset, .unset, .unset, .unset, .unset, .unset, .unset, .unset, .unset, .unset] [] := by first | (simp [entryFrame, mkF, argsToLocals, Value.category, maxLocals]; done) | rfl
def Q_rm0 (Z : State) (p0 : Int32) (p1 : Int64) (p2 : Int64) (p3 : Int64) (h0 : Heap) (n0 : Nat) (v : Option Value) (h : Heap) (L : List Loc) : Prop := v = some (.int (1 : Int32)) ∧ Fr n0 L
set_option maxRecDepth 65536 in
set_option maxHeartbeats 40000000 in
theorem rm0 (l : Launch) (Z : State) (a0 : Array Value) (hw : ∀ d ∈ tables_1, d.before a0 Z = true) (ws : List Jvm.Cond) (p0 : Int32) (p1 : Int64) (p2 : Int64) (p3 : Int64) (h0 : Heap) (n0 : Nat) (Z0 : n0 ≤ h0.size) :
    MetFree l x (head1 (Jvm.Cond.code x code maxLocals ret :: ws) room_1) (fun ar U => ar = #[(.int p0), (.long p1), (.long p2), (.long p3)] ∧ Z.Warmed39 U.vm ∧ U.heap = h0) (fun _ _ _ _ _ => True) (fun _ U o U' => ∃ v L, o = .returned v ∧ Q_rm0 Z p0 p1 p2 p3 h0 n0 v U'.heap L ∧ FrameEnd U o U' L room_1.cells room_1.slots) := by
  refine MetFree.of_bodySF (plainFor_of_name own_pn1) hisR ?_
  intro p e s m args below meth c s₁ Bd hml0 hP hK
  obtain ⟨rfl, hZ, hh⟩ := hP
  have hx := Bd.exec
  have hby := Bd.bytes
  have hlk : meth.locks = false := BodyLoose.notSynchronized Bd
  have hml : c.maxLocals = 20 := hml0
  have hown : s.vm.findClass "com/example/rondel/rondel/SettlingStalledPinLaw" = some m.cls := findClass_of_methodNamed Bd.named
  have hnm := (name_of_methodNamed Bd.named Bd.method).1
  have X0 : Stand p l e room_1 s m #[(.int p0), (.long p1), (.long p2), (.long p3)] below meth c s₁ [] 0 0 := Stand.of_body Bd
  have e0 : s₁.heap = h0 := by rw [← hh, Bd.state]; rfl
  have N0 := Fr.nil n0
  show own_Go p.tables e below (fun u o => ∃ v L, o = .returned v ∧ Q_rm0 Z p0 p1 p2 p3 h0 n0 v u.heap L ∧ FrameEnd s o u L room_1.cells room_1.slots) (s₁.setTop (entryFrame m #[(.int p0), (.long p1), (.long p2), (.long p3)] maxLocals))
  refine own_up (fun _ k => castTop (ef_rm0 m p0 p1 p2 p3) k) ?_
  show own_Go p.tables e below _ (s₁.setTop (mkF m 0 #[.val (.int p0), .val (.long p1), .second, .val (.long p2), .second, .val (.long p3), .second, .unset, .unset, .unset, .unset, .unset, .unset, .unset, .unset, .unset, .unset, .unset, .unset, .unset] []))
  refine own_up (fun _ k => XS.iloadN X0.here hx rfl (hb hby at_0) rfl k) ?_
  show own_Go p.tables e below _ (s₁.setTop (mkF m 1 #[.val (.int p0), .val (.long p1), .second, .val (.long p2), .second, .val (.long p3), .second, .unset, .unset, .unset, .unset, .unset, .unset, .unset, .unset, .unset, .unset, .unset, .unset, .unset] [(.int p0)]))
  refine own_up (fun _ k => XS.iconst X0.here hx rfl (hb hby at_1) k) ?_
  show own_Go p.tables e below _ (s₁.setTop (mkF m 2 #[.val (.int p0), .val (.long p1), .second, .val (.long p2), .second, .val (.long p3), .second, .unset, .unset, .unset, .unset, .unset, .unset, .unset, .unset, .unset, .unset, .unset, .unset, .unset] [(.int (3 : Int32)), (.int p0)]))
  refine own_up (fun _ k => XS.iand X0.here hx rfl (hb hby at_2) rfl k) ?_
  show own_Go p.tables e below _ (s₁.setTop (mkF m 3 #[.val (.int p0), .val (.long p1), .second, .val (.long p2), .second, .val (.long p3), .second, .unset, .unset, .unset, .unset, .unset, .unset, .unset, .unset, .unset, .unset, .unset, .unset, .unset] [(.int (p0 &&& (3 : Int32)))]))
  refine own_up (fun _ k => XS.istore X0.here hx rfl (hb hby at_3) rfl (l' := #[.val (.int p0), .val (.long p1), .second, .val (.long p2), .second, .val (.long p3), .second, .val (.int (p0 &&& (3 : Int32))), .unset, .unset, .unset, .unset, .unset, .unset, .unset, .unset, .unset, .unset, .unset, .unset]) rfl k) ?_
  show own_Go p.tables e below _ (s₁.setTop (mkF m 5 #[.val (.int p0), .val (.long p1), .second, .val (.long p2), .second, .val (.long p3), .second, .val (.int (p0 &&& (3 : Int32))), .unset, .unset, .unset, .unset, .unset, .unset, .unset, .unset, .unset, .unset, .unset, .unset] []))
  refine own_up (fun _ k => XS.iloadN X0.here hx rfl (hb hby at_5) rfl k) ?_
  show own_Go p.tables e below _ (s₁.setTop (mkF m 6 #[.val (.int p0), .val (.long p1), .second, .val (.long p2), .second, .val (.long p3), .second, .val (.int (p0 &&& (3 : Int32))), .unset, .unset, .unset, .unset, .unset, .unset, .unset, .unset, .unset, .unset, .unset, .unset] [(.int p0)]))
  refine own_up (fun _ k => XS.iconst X0.here hx rfl (hb hby at_6) k) ?_
  show own_Go p.tables e below _ (s₁.setTop (mkF m 7 #[.val (.int p0), .val (.long p1), .second, .val (.long p2), .second, .val (.long p3), .second, .val (.int (p0 &&& (3 : Int32))), .unset, .unset, .unset, .unset, .unset, .unset, .unset, .unset, .unset, .unset, .unset, .unset] [(.int (2 : Int32)), (.int p0)]))
  refine own_up (fun _ k => XS.iushr X0.here hx rfl (hb hby at_7) rfl k) ?_
  show own_Go p.tables e below _ (s₁.setTop (mkF m 8 #[.val (.int p0), .val (.long p1), .second, .val (.long p2), .second, .val (.long p3), .second, .val (.int (p0 &&& (3 : Int32))), .unset, .unset, .unset, .unset, .unset, .unset, .unset, .unset, .unset, .unset, .unset, .unset] [(.int ((p0.toUInt32 >>> ((2 : Int32) &&& 31).toUInt32).toInt32))]))
  refine own_up (fun _ k => XS.iconst X0.here hx rfl (hb hby at_8) k) ?_
  show own_Go p.tables e below _ (s₁.setTop (mkF m 9 #[.val (.int p0), .val (.long p1), .second, .val (.long p2), .second, .val (.long p3), .second, .val (.int (p0 &&& (3 : Int32))), .unset, .unset, .unset, .unset, .unset, .unset, .unset, .unset, .unset, .unset, .unset, .unset] [(.int (1 : Int32)), (.int ((p0.toUInt32 >>> ((2 : Int32) &&& 31).toUInt32).toInt32))]))
  refine own_up (fun _ k => XS.iand X0.here hx rfl (hb hby at_9) rfl k) ?_
  show own_Go p.tables e below _ (s₁.setTop (mkF m 10 #[.val (.int p0), .val (.long p1), .second, .val (.long p2), .second, .val (.long p3), .second, .val (.int (p0 &&& (3 : Int32))), .unset, .unset, .unset, .unset, .unset, .unset, .unset, .unset, .unset, .unset, .unset, .unset] [(.int (((p0.toUInt32 >>> ((2 : Int32) &&& 31).toUInt32).toInt32) &&& (1 : Int32)))]))
  refine own_up (fun _ k => XS.istore X0.here hx rfl (hb hby at_10) rfl (l' := #[.val (.int p0), .val (.long p1), .second, .val (.long p2), .second, .val (.long p3), .second, .val (.int (p0 &&& (3 : Int32))), .val (.int (((p0.toUInt32 >>> ((2 : Int32) &&& 31).toUInt32).toInt32) &&& (1 : Int32))), .unset, .unset, .unset, .unset, .unset, .unset, .unset, .unset, .unset, .unset, .unset]) rfl k) ?_
  show own_Go p.tables e below _ (s₁.setTop (mkF m 12 #[.val (.int p0), .val (.long p1), .second, .val (.long p2), .second, .val (.long p3), .second, .val (.int (p0 &&& (3 : Int32))), .val (.int (((p0.toUInt32 >>> ((2 : Int32) &&& 31).toUInt32).toInt32) &&& (1 : Int32))), .unset, .unset, .unset, .unset, .unset, .unset, .unset, .unset, .unset, .unset, .unset] []))
  refine own_up (fun _ k => XS.iloadN X0.here hx rfl (hb hby at_12) rfl k) ?_
  show own_Go p.tables e below _ (s₁.setTop (mkF m 13 #[.val (.int p0), .val (.long p1), .second, .val (.long p2), .second, .val (.long p3), .second, .val (.int (p0 &&& (3 : Int32))), .val (.int (((p0.toUInt32 >>> ((2 : Int32) &&& 31).toUInt32).toInt32) &&& (1 : Int32))), .unset, .unset, .unset, .unset, .unset, .unset, .unset, .unset, .unset, .unset, .unset] [(.int p0)]))
  refine own_up (fun _ k => XS.iconst X0.here hx rfl (hb hby at_13) k) ?_
  show own_Go p.tables e below _ (s₁.setTop (mkF m 14 #[.val (.int p0), .val (.long p1), .second, .val (.long p2), .second, .val (.long p3), .second, .val (.int (p0 &&& (3 : Int32))), .val (.int (((p0.toUInt32 >>> ((2 : Int32) &&& 31).toUInt32).toInt32) &&& (1 : Int32))), .unset, .unset, .unset, .unset, .unset, .unset, .unset, .unset, .unset, .unset, .unset] [(.int (3 : Int32)), (.int p0)]))
  refine own_up (fun _ k => XS.iushr X0.here hx rfl (hb hby at_14) rfl k) ?_
  show own_Go p.tables e below _ (s₁.setTop (mkF m 15 #[.val (.int p0), .val (.long p1), .second, .val (.long p2), .second, .val (.long p3), .second, .val (.int (p0 &&& (3 : Int32))), .val (.int (((p0.toUInt32 >>> ((2 : Int32) &&& 31).toUInt32).toInt32) &&& (1 : Int32))), .unset, .unset, .unset, .unset, .unset, .unset, .unset, .unset, .unset, .unset, .unset] [(.int ((p0.toUInt32 >>> ((3 : Int32) &&& 31).toUInt32).toInt32))]))
  refine own_up (fun _ k => XS.iconst X0.here hx rfl (hb hby at_15) k) ?_
  show own_Go p.tables e below _ (s₁.setTop (mkF m 16 #[.val (.int p0), .val (.long p1), .second, .val (.long p2), .second, .val (.long p3), .second, .val (.int (p0 &&& (3 : Int32))), .val (.int (((p0.toUInt32 >>> ((2 : Int32) &&& 31).toUInt32).toInt32) &&& (1 : Int32))), .unset, .unset, .unset, .unset, .unset, .unset, .unset, .unset, .unset, .unset, .unset] [(.int (3 : Int32)), (.int ((p0.toUInt32 >>> ((3 : Int32) &&& 31).toUInt32).toInt32))]))
  refine own_up (fun _ k => XS.iand X0.here hx rfl (hb hby at_16) rfl k) ?_
  show own_Go p.tables e below _ (s₁.setTop (mkF m 17 #[.val (.int p0), .val (.long p1), .second, .val (.long p2), .second, .val (.long p3), .second, .val (.int (p0 &&& (3 : Int32))), .val (.int (((p0.toUInt32 >>> ((2 : Int32) &&& 31).toUInt32).toInt32) &&& (1 : Int32))), .unset, .unset, .unset, .unset, .unset, .unset, .unset, .unset, .unset, .unset, .unset] [(.int (((p0.toUInt32 >>> ((3 : Int32) &&& 31).toUInt32).toInt32) &&& (3 : Int32)))]))
  refine own_up (fun _ k => XS.iconst X0.here hx rfl (hb hby at_17) k) ?_
  show own_Go p.tables e below _ (s₁.setTop (mkF m 18 #[.val (.int p0), .val (.long p1), .second, .val (.long p2), .second, .val (.long p3), .second, .val (.int (p0 &&& (3 : Int32))), .val (.int (((p0.toUInt32 >>> ((2 : Int32) &&& 31).toUInt32).toInt32) &&& (1 : Int32))), .unset, .unset, .unset, .unset, .unset, .unset, .unset, .unset, .unset, .unset, .unset] [(.int (3 : Int32)), (.int (((p0.toUInt32 >>> ((3 : Int32) &&& 31).toUInt32).toInt32) &&& (3 : Int32)))]))
  refine own_up (fun _ k => iremM X0 hx rfl (hb hby at_18) rfl (by decide) k) ?_
  show own_Go p.tables e below _ (s₁.setTop (mkF m 19 #[.val (.int p0), .val (.long p1), .second, .val (.long p2), .second, .val (.long p3), .second, .val (.int (p0 &&& (3 : Int32))), .val (.int (((p0.toUInt32 >>> ((2 : Int32) &&& 31).toUInt32).toInt32) &&& (1 : Int32))), .unset, .unset, .unset, .unset, .unset, .unset, .unset, .unset, .unset, .unset, .unset] [(.int ((((p0.toUInt32 >>> ((3 : Int32) &&& 31).toUInt32).toInt32) &&& (3 : Int32)) % (3 : Int32)))]))
  refine own_up (fun _ k => XS.istore X0.here hx rfl (hb hby at_19) rfl (l' := #[.val (.int p0), .val (.long p1), .second, .val (.long p2), .second, .val (.long p3), .second, .val (.int (p0 &&& (3 : Int32))), .val (.int (((p0.toUInt32 >>> ((2 : Int32) &&& 31).toUInt32).toInt32) &&& (1 : Int32))), .val (.int ((((p0.toUInt32 >>> ((3 : Int32) &&& 31).toUInt32).toInt32) &&& (3 : Int32)) % (3 : Int32))), .unset, .unset, .unset, .unset, .unset, .unset, .unset, .unset, .unset, .unset]) rfl k) ?_
  show own_Go p.tables e below _ (s₁.setTop (mkF m 21 #[.val (.int p0), .val (.long p1), .second, .val (.long p2), .second, .val (.long p3), .second, .val (.int (p0 &&& (3 : Int32))), .val (.int (((p0.toUInt32 >>> ((2 : Int32) &&& 31).toUInt32).toInt32) &&& (1 : Int32))), .val (.int ((((p0.toUInt32 >>> ((3 : Int32) &&& 31).toUInt32).toInt32) &&& (3 : Int32)) % (3 : Int32))), .unset, .unset, .unset, .unset, .unset, .unset, .unset, .unset, .unset, .unset] []))
  refine own_up (fun _ k => XS.iloadN X0.here hx rfl (hb hby at_21) rfl k) ?_
  show own_Go p.tables e below _ (s₁.setTop (mkF m 22 #[.val (.int p0), .val (.long p1), .second, .val (.long p2), .second, .val (.long p3), .second, .val (.int (p0 &&& (3 : Int32))), .val (.int (((p0.toUInt32 >>> ((2 : Int32) &&& 31).toUInt32).toInt32) &&& (1 : Int32))), .val (.int ((((p0.toUInt32 >>> ((3 : Int32) &&& 31).toUInt32).toInt32) &&& (3 : Int32)) % (3 : Int32))), .unset, .unset, .unset, .unset, .unset, .unset, .unset, .unset, .unset, .unset] [(.int p0)]))
  refine own_up (fun _ k => XS.iconst X0.here hx rfl (hb hby at_22) k) ?_
  show own_Go p.tables e below _ (s₁.setTop (mkF m 23 #[.val (.int p0), .val (.long p1), .second, .val (.long p2), .second, .val (.long p3), .second, .val (.int (p0 &&& (3 : Int32))), .val (.int (((p0.toUInt32 >>> ((2 : Int32) &&& 31).toUInt32).toInt32) &&& (1 : Int32))), .val (.int ((((p0.toUInt32 >>> ((3 : Int32) &&& 31).toUInt32).toInt32) &&& (3 : Int32)) % (3 : Int32))), .unset, .unset, .unset, .unset, .unset, .unset, .unset, .unset, .unset, .unset] [(.int (5 : Int32)), (.int p0)]))
  refine own_up (fun _ k => XS.iushr X0.here hx rfl (hb hby at_23) rfl k) ?_
  show own_Go p.tables e below _ (s₁.setTop (mkF m 24 #[.val (.int p0), .val (.long p1), .second, .val (.long p2), .second, .val (.long p3), .second, .val (.int (p0 &&& (3 : Int32))), .val (.int (((p0.toUInt32 >>> ((2 : Int32) &&& 31).toUInt32).toInt32) &&& (1 : Int32))), .val (.int ((((p0.toUInt32 >>> ((3 : Int32) &&& 31).toUInt32).toInt32) &&& (3 : Int32)) % (3 : Int32))), .unset, .unset, .unset, .unset, .unset, .unset, .unset, .unset, .unset, .unset] [(.int ((p0.toUInt32 >>> ((5 : Int32) &&& 31).toUInt32).toInt32))]))
  refine own_up (fun _ k => XS.iconst X0.here hx rfl (hb hby at_24) k) ?_
  show own_Go p.tables e below _ (s₁.setTop (mkF m 25 #[.val (.int p0), .val (.long p1), .second, .val (.long p2), .second, .val (.long p3), .second, .val (.int (p0 &&& (3 : Int32))), .val (.int (((p0.toUInt32 >>> ((2 : Int32) &&& 31).toUInt32).toInt32) &&& (1 : Int32))), .val (.int ((((p0.toUInt32 >>> ((3 : Int32) &&& 31).toUInt32).toInt32) &&& (3 : Int32)) % (3 : Int32))), .unset, .unset, .unset, .unset, .unset, .unset, .unset, .unset, .unset, .unset] [(.int (3 : Int32)), (.int ((p0.toUInt32 >>> ((5 : Int32) &&& 31).toUInt32).toInt32))]))
  refine own_up (fun _ k => XS.iand X0.here hx rfl (hb hby at_25) rfl k) ?_
  show own_Go p.tables e below _ (s₁.setTop (mkF m 26 #[.val (.int p0), .val (.long p1), .second, .val (.long p2), .second, .val (.long p3), .second, .val (.int (p0 &&& (3 : Int32))), .val (.int (((p0.toUInt32 >>> ((2 : Int32) &&& 31).toUInt32).toInt32) &&& (1 : Int32))), .val (.int ((((p0.toUInt32 >>> ((3 : Int32) &&& 31).toUInt32).toInt32) &&& (3 : Int32)) % (3 : Int32))), .unset, .unset, .unset, .unset, .unset, .unset, .unset, .unset, .unset, .unset] [(.int (((p0.toUInt32 >>> ((5 : Int32) &&& 31).toUInt32).toInt32) &&& (3 : Int32)))]))
  refine own_up (fun _ k => XS.iconst X0.here hx rfl (hb hby at_26) k) ?_
  show own_Go p.tables e below _ (s₁.setTop (mkF m 27 #[.val (.int p0), .val (.long p1), .second, .val (.long p2), .second, .val (.long p3), .second, .val (.int (p0 &&& (3 : Int32))), .val (.int (((p0.toUInt32 >>> ((2 : Int32) &&& 31).toUInt32).toInt32) &&& (1 : Int32))), .val (.int ((((p0.toUInt32 >>> ((3 : Int32) &&& 31).toUInt32).toInt32) &&& (3 : Int32)) % (3 : Int32))), .unset, .unset, .unset, .unset, .unset, .unset, .unset, .unset, .unset, .unset] [(.int (3 : Int32)), (.int (((p0.toUInt32 >>> ((5 : Int32) &&& 31).toUInt32).toInt32) &&& (3 : Int32)))]))
  refine own_up (fun _ k => iremM X0 hx rfl (hb hby at_27) rfl (by decide) k) ?_
  show own_Go p.tables e below _ (s₁.setTop (mkF m 28 #[.val (.int p0), .val (.long p1), .second, .val (.long p2), .second, .val (.long p3), .second, .val (.int (p0 &&& (3 : Int32))), .val (.int (((p0.toUInt32 >>> ((2 : Int32) &&& 31).toUInt32).toInt32) &&& (1 : Int32))), .val (.int ((((p0.toUInt32 >>> ((3 : Int32) &&& 31).toUInt32).toInt32) &&& (3 : Int32)) % (3 : Int32))), .unset, .unset, .unset, .unset, .unset, .unset, .unset, .unset, .unset, .unset] [(.int ((((p0.toUInt32 >>> ((5 : Int32) &&& 31).toUInt32).toInt32) &&& (3 : Int32)) % (3 : Int32)))]))
  refine own_up (fun _ k => XS.istore X0.here hx rfl (hb hby at_28) rfl (l' := #[.val (.int p0), .val (.long p1), .second, .val (.long p2), .second, .val (.long p3), .second, .val (.int (p0 &&& (3 : Int32))), .val (.int (((p0.toUInt32 >>> ((2 : Int32) &&& 31).toUInt32).toInt32) &&& (1 : Int32))), .val (.int ((((p0.toUInt32 >>> ((3 : Int32) &&& 31).toUInt32).toInt32) &&& (3 : Int32)) % (3 : Int32))), .val (.int ((((p0.toUInt32 >>> ((5 : Int32) &&& 31).toUInt32).toInt32) &&& (3 : Int32)) % (3 : Int32))), .unset, .unset, .unset, .unset, .unset, .unset, .unset, .unset, .unset]) rfl k) ?_
  show own_Go p.tables e below _ (s₁.setTop (mkF m 30 #[.val (.int p0), .val (.long p1), .second, .val (.long p2), .second, .val (.long p3), .second, .val (.int (p0 &&& (3 : Int32))), .val (.int (((p0.toUInt32 >>> ((2 : Int32) &&& 31).toUInt32).toInt32) &&& (1 : Int32))), .val (.int ((((p0.toUInt32 >>> ((3 : Int32) &&& 31).toUInt32).toInt32) &&& (3 : Int32)) % (3 : Int32))), .val (.int ((((p0.toUInt32 >>> ((5 : Int32) &&& 31).toUInt32).toInt32) &&& (3 : Int32)) % (3 : Int32))), .unset, .unset, .unset, .unset, .unset, .unset, .unset, .unset, .unset] []))
  obtain ⟨sv, esv⟩ : ∃ z, z = (p0 &&& (3 : Int32)) := ⟨_, rfl⟩
  have bsv : 0 ≤ sv.toInt ∧ sv.toInt ≤ 3 := by rw [esv]; exact own_m3 _
  rw [← esv]
  show own_Go p.tables e below _ (s₁.setTop (mkF m 30 #[.val (.int p0), .val (.long p1), .second, .val (.long p2), .second, .val (.long p3), .second, .val (.int sv), .val (.int (((p0.toUInt32 >>> ((2 : Int32) &&& 31).toUInt32).toInt32) &&& (1 : Int32))), .val (.int ((((p0.toUInt32 >>> ((3 : Int32) &&& 31).toUInt32).toInt32) &&& (3 : Int32)) % (3 : Int32))), .val (.int ((((p0.toUInt32 >>> ((5 : Int32) &&& 31).toUInt32).toInt32) &&& (3 : Int32)) % (3 : Int32))), .unset, .unset, .unset, .unset, .unset, .unset, .unset, .unset, .unset] []))
  obtain ⟨pv, epv⟩ : ∃ z, z = (((p0.toUInt32 >>> ((2 : Int32) &&& 31).toUInt32).toInt32) &&& (1 : Int32)) := ⟨_, rfl⟩
  have bpv : 0 ≤ pv.toInt ∧ pv.toInt ≤ 1 := by rw [epv]; exact own_m1 _
  rw [← epv]
  show own_Go p.tables e below _ (s₁.setTop (mkF m 30 #[.val (.int p0), .val (.long p1), .second, .val (.long p2), .second, .val (.long p3), .second, .val (.int sv), .val (.int pv), .val (.int ((((p0.toUInt32 >>> ((3 : Int32) &&& 31).toUInt32).toInt32) &&& (3 : Int32)) % (3 : Int32))), .val (.int ((((p0.toUInt32 >>> ((5 : Int32) &&& 31).toUInt32).toInt32) &&& (3 : Int32)) % (3 : Int32))), .unset, .unset, .unset, .unset, .unset, .unset, .unset, .unset, .unset] []))
  obtain ⟨av, eav⟩ : ∃ z, z = ((((p0.toUInt32 >>> ((3 : Int32) &&& 31).toUInt32).toInt32) &&& (3 : Int32)) % (3 : Int32)) := ⟨_, rfl⟩
  have bav : 0 ≤ av.toInt ∧ av.toInt ≤ 2 := by rw [eav]; exact own_m33 _
  rw [← eav]
  show own_Go p.tables e below _ (s₁.setTop (mkF m 30 #[.val (.int p0), .val (.long p1), .second, .val (.long p2), .second, .val (.long p3), .second, .val (.int sv), .val (.int pv), .val (.int av), .val (.int ((((p0.toUInt32 >>> ((5 : Int32) &&& 31).toUInt32).toInt32) &&& (3 : Int32)) % (3 : Int32))), .unset, .unset, .unset, .unset, .unset, .unset, .unset, .unset, .unset] []))
  obtain ⟨bv, ebv⟩ : ∃ z, z = ((((p0.toUInt32 >>> ((5 : Int32) &&& 31).toUInt32).toInt32) &&& (3 : Int32)) % (3 : Int32)) := ⟨_, rfl⟩
  have bbv : 0 ≤ bv.toInt ∧ bv.toInt ≤ 2 := by rw [ebv]; exact own_m33 _
  rw [← ebv]
  show own_Go p.tables e below _ (s₁.setTop (mkF m 30 #[.val (.int p0), .val (.long p1), .second, .val (.long p2), .second, .val (.long p3), .second, .val (.int sv), .val (.int pv), .val (.int av), .val (.int bv), .unset, .unset, .unset, .unset, .unset, .unset, .unset, .unset, .unset] []))
  obtain ⟨T1, h1, X1, e1, E1, A1, D1, -, st1⟩ := newO X0 hx hZ hown (hw _ (List.mem_of_getElem? (i := 0) rfl)) (hw _ (List.mem_of_getElem? (i := 1) rfl)) (hw _ (List.mem_of_getElem? (i := 2) rfl)) e0 (g := (mkF m 30 #[.val (.int p0), .val (.long p1), .second, .val (.long p2), .second, .val (.long p3), .second, .val (.int sv), .val (.int pv), .val (.int av), .val (.int bv), .unset, .unset, .unset, .unset, .unset, .unset, .unset, .unset, .unset] [])) rfl (hb hby at_30) (by decide) (by decide)
  obtain ⟨b1, g1⟩ : ∃ z, z = h0.size := ⟨_, rfl⟩
  rw [← g1] at A1 D1 st1
  have ge1 : n0 ≤ b1 := Nat.le_trans Z0 (Nat.le_of_eq g1.symm)
  refine own_up st1 ?_
  have F1_fewestWrong : Fld Z h1 b1 "com/example/rondel/rondel/Simulator$Settling" "fewestWrong" "J" (.long (0 : Int64)) := D1 (Or.inl (hw _ (List.mem_of_getElem? (i := 11) rfl))) (ty := .long) (by decide)
  have F1_stallRounds : Fld Z h1 b1 "com/example/rondel/rondel/Simulator$Settling" "stallRounds" "I" (.int (0 : Int32)) := D1 (Or.inr (hw _ (List.mem_of_getElem? (i := 13) rfl))) (ty := .int) (by decide)
  have F1_rounds : Fld Z h1 b1 "com/example/rondel/rondel/Simulator$Settling" "rounds" "[J" .null := D1 (Or.inr (hw _ (List.mem_of_getElem? (i := 16) rfl))) (ty := (.array .long)) (by decide)
  have F1_roundsAtFewest : Fld Z h1 b1 "com/example/rondel/rondel/Simulator$Settling" "roundsAtFewest" "[J" .null := D1 (Or.inl (hw _ (List.mem_of_getElem? (i := 27) rfl))) (ty := (.array .long)) (by decide)
  show own_Go p.tables e below _ (T1.setTop (mkF m 33 #[.val (.int p0), .val (.long p1), .second, .val (.long p2), .second, .val (.long p3), .second, .val (.int sv), .val (.int pv), .val (.int av), .val (.int bv), .unset, .unset, .unset, .unset, .unset, .unset, .unset, .unset, .unset] [(.ref b1)]))
  refine own_up (fun _ k => XS.dup X1.here hx rfl (hb hby at_33) rfl rfl k) ?_
  show own_Go p.tables e below _ (T1.setTop (mkF m 34 #[.val (.int p0), .val (.long p1), .second, .val (.long p2), .second, .val (.long p3), .second, .val (.int sv), .val (.int pv), .val (.int av), .val (.int bv), .unset, .unset, .unset, .unset, .unset, .unset, .unset, .unset, .unset] [(.ref b1), (.ref b1)]))
  refine own_up (fun _ k => XS.iconst X1.here hx rfl (hb hby at_34) k) ?_
  show own_Go p.tables e below _ (T1.setTop (mkF m 35 #[.val (.int p0), .val (.long p1), .second, .val (.long p2), .second, .val (.long p3), .second, .val (.int sv), .val (.int pv), .val (.int av), .val (.int bv), .unset, .unset, .unset, .unset, .unset, .unset, .unset, .unset, .unset] [(.int (2 : Int32)), (.ref b1), (.ref b1)]))
  refine own_up (fun _ k => XS.iload X1.here hx rfl (hb hby at_35) rfl k) ?_
  show own_Go p.tables e below _ (T1.setTop (mkF m 37 #[.val (.int p0), .val (.long p1), .second, .val (.long p2), .second, .val (.long p3), .second, .val (.int sv), .val (.int pv), .val (.int av), .val (.int bv), .unset, .unset, .unset, .unset, .unset, .unset, .unset, .unset, .unset] [(.int sv), (.int (2 : Int32)), (.ref b1), (.ref b1)]))
  have f3 : n0 ≤ h1.size := (Nat.le_trans Z0 E1.1)
  obtain ⟨_, _, ⟨T2, L2, k2, n2⟩, -, X2, ⟨Lc2, hQ2, l2, y2, z2⟩, st2⟩ := X1.specialBack hx (y := (⟨"com/example/rondel/rondel/Simulator$Settling", "<init>", "(II)V"⟩ : MethodName)) rfl hown (mvT hZ (hw _ (List.mem_of_getElem? (i := 3) rfl))) (mvT hZ (hw _ (List.mem_of_getElem? (i := 4) rfl))) (mvT hZ (hw _ (List.mem_of_getElem? (i := 5) rfl))) (by decide) (backOf (W := 1) (rm1 l Z a0 hw [] b1 sv h1 n0 f3 A1 F1_fewestWrong F1_stallRounds F1_rounds F1_roundsAtFewest ge1) hZ (hw _ (List.mem_of_getElem? (i := 5) rfl)) (hw _ (List.mem_of_getElem? (i := 2) rfl)) (by decide) (by decide)) (g := (mkF m 37 #[.val (.int p0), .val (.long p1), .second, .val (.long p2), .second, .val (.long p3), .second, .val (.int sv), .val (.int pv), .val (.int av), .val (.int bv), .unset, .unset, .unset, .unset, .unset, .unset, .unset, .unset, .unset] [(.int sv), (.int (2 : Int32)), (.ref b1), (.ref b1)])) rfl (by rw [hml]; rfl) (Steps.refl _) (a := b1) (argsL := [(.int (2 : Int32)), (.int sv)]) (rest := [(.ref b1)]) (lenOf own_pd0 rfl) rfl (by show 2 * 0 + _ ≤ _; exact Nat.le_of_eq rfl) (hb hby at_37) (fun _ _ => ⟨rfl, e1, (by decide : 1 + 2 ≤ _), (by decide : 4 + 4 ≤ _)⟩)
  dsimp only [Pt.U, Pt.locs, Pt.cells, Pt.slots] at X2 l2 y2 z2 st2 hQ2
  subst l2 y2 z2
  obtain ⟨ra_2, fa_2, kr_2, rfl, N2q, K2, P2_0, P2_1, P2_2, P2_3, P2_4, P2_5, P2_6, P2_7, P2_8, P2_9, P2_10, P2_11, P2_12⟩ := hQ2
  have N2 := Fr.app N0 N2q
  refine own_up (fun _ k => st2.trans k) ?_
  show own_Go p.tables e below _ (T2.setTop (mkF m 40 #[.val (.int p0), .val (.long p1), .second, .val (.long p2), .second, .val (.long p3), .second, .val (.int sv), .val (.int pv), .val (.int av), .val (.int bv), .unset, .unset, .unset, .unset, .unset, .unset, .unset, .unset, .unset] [(.ref b1)]))
  refine own_up (fun _ k => XS.astore X2.here hx rfl (hb hby at_40) rfl rfl (l' := #[.val (.int p0), .val (.long p1), .second, .val (.long p2), .second, .val (.long p3), .second, .val (.int sv), .val (.int pv), .val (.int av), .val (.int bv), .val (.ref b1), .unset, .unset, .unset, .unset, .unset, .unset, .unset, .unset]) rfl k) ?_
  show own_Go p.tables e below _ (T2.setTop (mkF m 42 #[.val (.int p0), .val (.long p1), .second, .val (.long p2), .second, .val (.long p3), .second, .val (.int sv), .val (.int pv), .val (.int av), .val (.int bv), .val (.ref b1), .unset, .unset, .unset, .unset, .unset, .unset, .unset, .unset] []))
  have bba : 0 ≤ (if p1 < (9223372036854775807 : Int64) then pv else 0).toInt ∧ (if p1 < (9223372036854775807 : Int64) then pv else 0).toInt ≤ 1 := by split <;> first | exact bpv | decide
  have t110 : ∀ (Tt4 : State) (Lt4 : List Loc) (Xt4 : Stand p l e room_1 s m #[(.int p0), (.long p1), (.long p2), (.long p3)] below meth c Tt4 Lt4 4 10) (ht4 : Heap) (et4 : Tt4.heap = ht4) (Nt4 : Fr n0 Lt4) (rx : Int32) (fb : Addr) (kb : ClassId) (r0 : Int64) (r1 : Int64) (g0 : Int64) (sE : Exa Z ht4 b1 "com/example/rondel/rondel/Simulator$Settling") (sW : Fld Z ht4 b1 "com/example/rondel/rondel/Simulator$Settling" "fewestWrong" "J" (.long p1)) (sS : Fld Z ht4 b1 "com/example/rondel/rondel/Simulator$Settling" "stallRounds" "I" (.int sv)) (sR : Fld Z ht4 b1 "com/example/rondel/rondel/Simulator$Settling" "rounds" "[J" (.ref ra_2)) (sA : Fld Z ht4 b1 "com/example/rondel/rondel/Simulator$Settling" "roundsAtFewest" "[J" (.ref fb)) (sV : Arv Z ht4 ra_2 kr_2 .long (2 : Int32) [(.long r0), (.long r1)] (.long (0 : Int64))) (sU : Arv Z ht4 fb kb .long (2 : Int32) [(.long g0), (.long (0 : Int64))] (.long (0 : Int64))) (sJ : Exa Z ht4 ra_2 "[J") (fG : n0 ≤ fb) (fN : b1 ≠ fb) (fM : ra_2 ≠ fb) (Zt4 : n0 ≤ ht4.size) (hr0 : r0 = (pv + av).toInt64) (hr1 : r1 = bv.toInt64) (hg0 : g0 = ((if p1 < (9223372036854775807 : Int64) then pv else 0)).toInt64) (hrx : rx = if p1 = (9223372036854775807 : Int64) ∧ sv = 0 then 1 else 0), own_Go p.tables e below (fun u o => ∃ v L, o = .returned v ∧ Q_rm0 Z p0 p1 p2 p3 h0 n0 v u.heap L ∧ FrameEnd s o u L room_1.cells room_1.slots) (Tt4.setTop (mkF m 110 #[.val (.int p0), .val (.long p1), .second, .val (.long p2), .second, .val (.long p3), .second, .val (.int sv), .val (.int pv), .val (.int av), .val (.int bv), .val (.ref b1), .val (.int rx), .unset, .unset, .unset, .unset, .unset, .unset, .unset] [])) := by
    intro Tt4 Lt4 Xt4 ht4 et4 Nt4 rx fb kb r0 r1 g0 sE sW sS sR sA sV sU sJ fG fN fM Zt4 hr0 hr1 hg0 hrx
    refine own_up (fun _ k => XS.aload Xt4.here hx rfl (hb hby at_110) rfl rfl k) ?_
    show own_Go p.tables e below _ (Tt4.setTop (mkF m 112 #[.val (.int p0), .val (.long p1), .second, .val (.long p2), .second, .val (.long p3), .second, .val (.int sv), .val (.int pv), .val (.int av), .val (.int bv), .val (.ref b1), .val (.int rx), .unset, .unset, .unset, .unset, .unset, .unset, .unset] [(.ref b1)]))
    refine own_up (fun _ k => XS.lloadN Xt4.here hx rfl (hb hby at_112) rfl k) ?_
    show own_Go p.tables e below _ (Tt4.setTop (mkF m 113 #[.val (.int p0), .val (.long p1), .second, .val (.long p2), .second, .val (.long p3), .second, .val (.int sv), .val (.int pv), .val (.int av), .val (.int bv), .val (.ref b1), .val (.int rx), .unset, .unset, .unset, .unset, .unset, .unset, .unset] [(.long p2), (.ref b1)]))
    obtain ⟨cq5, kq5, q5a, q5b, q5c⟩ := isOf hZ et4 sE
    obtain ⟨_, _, ⟨T5, L5, k5, n5⟩, -, X5, ⟨Lc5, hQ5, l5, y5, z5⟩, st5⟩ := Xt4.virtualBack hx (y := (⟨"com/example/rondel/rondel/Simulator$Settling", "stalled", "(J)Z"⟩ : MethodName)) (z := (⟨"com/example/rondel/rondel/Simulator$Settling", "stalled", "(J)Z"⟩ : MethodName)) hown (mvT hZ (hw _ (List.mem_of_getElem? (i := 28) rfl))) (mvT hZ (hw _ (List.mem_of_getElem? (i := 29) rfl))) (notFace_of_selects (args := #[]) (mvT hZ (hw _ (List.mem_of_getElem? (i := 31) rfl)))) (mvT hZ (hw _ (List.mem_of_getElem? (i := 31) rfl))) (mvT hZ (hw _ (List.mem_of_getElem? (i := 30) rfl))) (by decide) (backOf (W := 0) (rm4 l Z a0 hw [] b1 p2 ra_2 fb kr_2 kb p1 sv r0 r1 g0 (0 : Int64) ht4 n0 Zt4 sE sW sS sR sA sV sU sJ ge1 fG P2_2 fN fM) hZ (hw _ (List.mem_of_getElem? (i := 32) rfl)) (hw _ (List.mem_of_getElem? (i := 2) rfl)) (by decide) (by decide)) q5a q5c (g := (mkF m 113 #[.val (.int p0), .val (.long p1), .second, .val (.long p2), .second, .val (.long p3), .second, .val (.int sv), .val (.int pv), .val (.int av), .val (.int bv), .val (.ref b1), .val (.int rx), .unset, .unset, .unset, .unset, .unset, .unset, .unset] [(.long p2), (.ref b1)])) rfl (by rw [hml]; rfl) (Steps.refl _) (argsL := [(.long p2)]) (rest := []) (lenOf own_pd1 rfl) rfl (by show 2 * 0 + _ ≤ _; exact Nat.le_of_eq rfl) (hb hby at_113) (fun _ _ => ⟨rfl, et4, (by decide : 4 + 1 ≤ _), (by decide : 10 + 2 ≤ _)⟩)
    dsimp only [Pt.U, Pt.locs, Pt.cells, Pt.slots] at X5 l5 y5 z5 st5 hQ5
    subst l5 y5 z5
    obtain ⟨fb_5, kb_5, rfl, N5q, K5, P5_0, P5_1, P5_2, P5_3, P5_4, P5_5, P5_6, P5_7, P5_8⟩ := hQ5
    have N5 := Fr.app Nt4 N5q
    refine own_up (fun _ k => st5.trans k) ?_
    show own_Go p.tables e below _ (T5.setTop (mkF m 116 #[.val (.int p0), .val (.long p1), .second, .val (.long p2), .second, .val (.long p3), .second, .val (.int sv), .val (.int pv), .val (.int av), .val (.int bv), .val (.ref b1), .val (.int rx), .unset, .unset, .unset, .unset, .unset, .unset, .unset] [(.int (if p2 < p1 then (0 : Int32) else if ¬ (r0 - g0) < sv.toInt64 ∧ ¬ (r1 - (0 : Int64)) < sv.toInt64 then 1 else 0))]))
    obtain ⟨R2, hR2⟩ : ∃ z, z = (if p2 < p1 then (0 : Int32) else if ¬ (r0 - g0) < sv.toInt64 ∧ ¬ (r1 - (0 : Int64)) < sv.toInt64 then 1 else 0) := ⟨_, rfl⟩
    rw [← hR2]
    show own_Go p.tables e below _ (T5.setTop (mkF m 116 #[.val (.int p0), .val (.long p1), .second, .val (.long p2), .second, .val (.long p3), .second, .val (.int sv), .val (.int pv), .val (.int av), .val (.int bv), .val (.ref b1), .val (.int rx), .unset, .unset, .unset, .unset, .unset, .unset, .unset] [(.int R2)]))
    rw [own_R2 (own_cnd bpv bav bbv bba hr0 hr1 hg0)] at hR2
    refine own_up (fun _ k => XS.istore X5.here hx rfl (hb hby at_116) rfl (l' := #[.val (.int p0), .val (.long p1), .second, .val (.long p2), .second, .val (.long p3), .second, .val (.int sv), .val (.int pv), .val (.int av), .val (.int bv), .val (.ref b1), .val (.int rx), .val (.int R2), .unset, .unset, .unset, .unset, .unset, .unset]) rfl k) ?_
    show own_Go p.tables e below _ (T5.setTop (mkF m 118 #[.val (.int p0), .val (.long p1), .second, .val (.long p2), .second, .val (.long p3), .second, .val (.int sv), .val (.int pv), .val (.int av), .val (.int bv), .val (.ref b1), .val (.int rx), .val (.int R2), .unset, .unset, .unset, .unset, .unset, .unset] []))
    refine own_up (fun _ k => XS.aload X5.here hx rfl (hb hby at_118) rfl rfl k) ?_
    show own_Go p.tables e below _ (T5.setTop (mkF m 120 #[.val (.int p0), .val (.long p1), .second, .val (.long p2), .second, .val (.long p3), .second, .val (.int sv), .val (.int pv), .val (.int av), .val (.int bv), .val (.ref b1), .val (.int rx), .val (.int R2), .unset, .unset, .unset, .unset, .unset, .unset] [(.ref b1)]))
    refine own_up (fun _ k => XS.lload X5.here hx rfl (hb hby at_120) rfl k) ?_
    show own_Go p.tables e below _ (T5.setTop (mkF m 122 #[.val (.int p0), .val (.long p1), .second, .val (.long p2), .second, .val (.long p3), .second, .val (.int sv), .val (.int pv), .val (.int av), .val (.int bv), .val (.ref b1), .val (.int rx), .val (.int R2), .unset, .unset, .unset, .unset, .unset, .unset] [(.long p3), (.ref b1)]))
    have f7 : Arv Z T5.heap ra_2 kr_2 .long (2 : Int32) [(.long r0), (.long r1)] (.long (0 : Int64)) := (sV.keep K5 (ninS (Ne.symm P2_2) nin0))
    have f8 : Exa Z T5.heap ra_2 "[J" := (sJ.keep K5)
    have f9 : n0 ≤ T5.heap.size := (Nat.le_trans Zt4 K5.1)
    obtain ⟨cq6, kq6, q6a, q6b, q6c⟩ := isOf hZ rfl P5_3
    obtain ⟨_, _, ⟨T6, L6, k6, n6⟩, -, X6, ⟨Lc6, hQ6, l6, y6, z6⟩, st6⟩ := X5.virtualBack hx (y := (⟨"com/example/rondel/rondel/Simulator$Settling", "stalled", "(J)Z"⟩ : MethodName)) (z := (⟨"com/example/rondel/rondel/Simulator$Settling", "stalled", "(J)Z"⟩ : MethodName)) hown (mvT hZ (hw _ (List.mem_of_getElem? (i := 28) rfl))) (mvT hZ (hw _ (List.mem_of_getElem? (i := 29) rfl))) (notFace_of_selects (args := #[]) (mvT hZ (hw _ (List.mem_of_getElem? (i := 31) rfl)))) (mvT hZ (hw _ (List.mem_of_getElem? (i := 31) rfl))) (mvT hZ (hw _ (List.mem_of_getElem? (i := 30) rfl))) (by decide) (backOf (W := 0) (rm4 l Z a0 hw [] b1 p3 ra_2 fb_5 kr_2 kb_5 (if p2 < p1 then p2 else p1) sv r0 r1 (if p2 < p1 then r0 else g0) (if p2 < p1 then r1 else (0 : Int64)) T5.heap n0 f9 P5_3 P5_4 P5_5 P5_6 P5_7 f7 P5_8 f8 ge1 P5_0 P2_2 P5_1 P5_2) hZ (hw _ (List.mem_of_getElem? (i := 32) rfl)) (hw _ (List.mem_of_getElem? (i := 2) rfl)) (by decide) (by decide)) q6a q6c (g := (mkF m 122 #[.val (.int p0), .val (.long p1), .second, .val (.long p2), .second, .val (.long p3), .second, .val (.int sv), .val (.int pv), .val (.int av), .val (.int bv), .val (.ref b1), .val (.int rx), .val (.int R2), .unset, .unset, .unset, .unset, .unset, .unset] [(.long p3), (.ref b1)])) rfl (by rw [hml]; rfl) (Steps.refl _) (argsL := [(.long p3)]) (rest := []) (lenOf own_pd1 rfl) rfl (by show 2 * 0 + _ ≤ _; exact Nat.le_of_eq rfl) (hb hby at_122) (fun _ _ => ⟨rfl, rfl, (by decide : 5 + 1 ≤ _), (by decide : 12 + 2 ≤ _)⟩)
    dsimp only [Pt.U, Pt.locs, Pt.cells, Pt.slots] at X6 l6 y6 z6 st6 hQ6
    subst l6 y6 z6
    obtain ⟨fb_6, kb_6, rfl, N6q, K6, P6_0, P6_1, P6_2, P6_3, P6_4, P6_5, P6_6, P6_7, P6_8⟩ := hQ6
    have N6 := Fr.app N5 N6q
    refine own_up (fun _ k => st6.trans k) ?_
    show own_Go p.tables e below _ (T6.setTop (mkF m 125 #[.val (.int p0), .val (.long p1), .second, .val (.long p2), .second, .val (.long p3), .second, .val (.int sv), .val (.int pv), .val (.int av), .val (.int bv), .val (.ref b1), .val (.int rx), .val (.int R2), .unset, .unset, .unset, .unset, .unset, .unset] [(.int (if p3 < (if p2 < p1 then p2 else p1) then (0 : Int32) else if ¬ (r0 - (if p2 < p1 then r0 else g0)) < sv.toInt64 ∧ ¬ (r1 - (if p2 < p1 then r1 else (0 : Int64))) < sv.toInt64 then 1 else 0))]))
    obtain ⟨R3, hR3⟩ : ∃ z, z = (if p3 < (if p2 < p1 then p2 else p1) then (0 : Int32) else if ¬ (r0 - (if p2 < p1 then r0 else g0)) < sv.toInt64 ∧ ¬ (r1 - (if p2 < p1 then r1 else (0 : Int64))) < sv.toInt64 then 1 else 0) := ⟨_, rfl⟩
    rw [← hR3]
    show own_Go p.tables e below _ (T6.setTop (mkF m 125 #[.val (.int p0), .val (.long p1), .second, .val (.long p2), .second, .val (.long p3), .second, .val (.int sv), .val (.int pv), .val (.int av), .val (.int bv), .val (.ref b1), .val (.int rx), .val (.int R2), .unset, .unset, .unset, .unset, .unset, .unset] [(.int R3)]))
    rw [own_R3 (Q3 := True) (W := p2 < p1) (Q' := sv = 0) (Q'' := own_CC pv av bv (if p1 < (9223372036854775807 : Int64) then pv else 0) sv) (fun q => by rw [if_pos q, if_pos q]; exact own_zero2 _ _ bsv.1) (fun q => by rw [if_neg q, if_neg q]; exact own_cnd bpv bav bbv bba hr0 hr1 hg0)] at hR3
    refine own_up (fun _ k => XS.istore X6.here hx rfl (hb hby at_125) rfl (l' := #[.val (.int p0), .val (.long p1), .second, .val (.long p2), .second, .val (.long p3), .second, .val (.int sv), .val (.int pv), .val (.int av), .val (.int bv), .val (.ref b1), .val (.int rx), .val (.int R2), .val (.int R3), .unset, .unset, .unset, .unset, .unset]) rfl k) ?_
    show own_Go p.tables e below _ (T6.setTop (mkF m 127 #[.val (.int p0), .val (.long p1), .second, .val (.long p2), .second, .val (.long p3), .second, .val (.int sv), .val (.int pv), .val (.int av), .val (.int bv), .val (.ref b1), .val (.int rx), .val (.int R2), .val (.int R3), .unset, .unset, .unset, .unset, .unset] []))
    have t250 : ∀ (Tt10 : State) (Lt10 : List Loc) (Xt10 : Stand p l e room_1 s m #[(.int p0), (.long p1), (.long p2), (.long p3)] below meth c Tt10 Lt10 6 14) (et10 : Tt10.heap = T6.heap) (Nt10 : Fr n0 Lt10) (x15 : Int32) (x16 : Int32) (x17 : Int32) (x18 : Int32) (x19 : Int32) (h15 : rx = x15) (h18 : R2 = x18) (h19 : R3 = x19), own_Go p.tables e below (fun u o => ∃ v L, o = .returned v ∧ Q_rm0 Z p0 p1 p2 p3 h0 n0 v u.heap L ∧ FrameEnd s o u L room_1.cells room_1.slots) (Tt10.setTop (mkF m 250 #[.val (.int p0), .val (.long p1), .second, .val (.long p2), .second, .val (.long p3), .second, .val (.int sv), .val (.int pv), .val (.int av), .val (.int bv), .val (.ref b1), .val (.int rx), .val (.int R2), .val (.int R3), .val (.int x15), .val (.int x16), .val (.int x17), .val (.int x18), .val (.int x19)] [])) := by
      intro Tt10 Lt10 Xt10 et10 Nt10 x15 x16 x17 x18 x19 h15 h18 h19
      refine own_up (fun _ k => XS.iload Xt10.here hx rfl (hb hby at_250) rfl k) ?_
      show own_Go p.tables e below _ (Tt10.setTop (mkF m 252 #[.val (.int p0), .val (.long p1), .second, .val (.long p2), .second, .val (.long p3), .second, .val (.int sv), .val (.int pv), .val (.int av), .val (.int bv), .val (.ref b1), .val (.int rx), .val (.int R2), .val (.int R3), .val (.int x15), .val (.int x16), .val (.int x17), .val (.int x18), .val (.int x19)] [(.int rx)]))
      refine own_up (fun _ k => XS.iload Xt10.here hx rfl (hb hby at_252) rfl k) ?_
      show own_Go p.tables e below _ (Tt10.setTop (mkF m 254 #[.val (.int p0), .val (.long p1), .second, .val (.long p2), .second, .val (.long p3), .second, .val (.int sv), .val (.int pv), .val (.int av), .val (.int bv), .val (.ref b1), .val (.int rx), .val (.int R2), .val (.int R3), .val (.int x15), .val (.int x16), .val (.int x17), .val (.int x18), .val (.int x19)] [(.int x15), (.int rx)]))
      refine own_up (fun _ k => XS.icmpNo Xt10.here hx rfl (hb hby at_254) rfl (teq h15).2 k) ?_
      show own_Go p.tables e below _ (Tt10.setTop (mkF m 257 #[.val (.int p0), .val (.long p1), .second, .val (.long p2), .second, .val (.long p3), .second, .val (.int sv), .val (.int pv), .val (.int av), .val (.int bv), .val (.ref b1), .val (.int rx), .val (.int R2), .val (.int R3), .val (.int x15), .val (.int x16), .val (.int x17), .val (.int x18), .val (.int x19)] []))
      refine own_up (fun _ k => XS.iload Xt10.here hx rfl (hb hby at_257) rfl k) ?_
      show own_Go p.tables e below _ (Tt10.setTop (mkF m 259 #[.val (.int p0), .val (.long p1), .second, .val (.long p2), .second, .val (.long p3), .second, .val (.int sv), .val (.int pv), .val (.int av), .val (.int bv), .val (.ref b1), .val (.int rx), .val (.int R2), .val (.int R3), .val (.int x15), .val (.int x16), .val (.int x17), .val (.int x18), .val (.int x19)] [(.int R2)]))
      refine own_up (fun _ k => XS.iload Xt10.here hx rfl (hb hby at_259) rfl k) ?_
      show own_Go p.tables e below _ (Tt10.setTop (mkF m 261 #[.val (.int p0), .val (.long p1), .second, .val (.long p2), .second, .val (.long p3), .second, .val (.int sv), .val (.int pv), .val (.int av), .val (.int bv), .val (.ref b1), .val (.int rx), .val (.int R2), .val (.int R3), .val (.int x15), .val (.int x16), .val (.int x17), .val (.int x18), .val (.int x19)] [(.int x18), (.int R2)]))
      refine own_up (fun _ k => XS.icmpNo Xt10.here hx rfl (hb hby at_261) rfl (teq h18).2 k) ?_
      show own_Go p.tables e below _ (Tt10.setTop (mkF m 264 #[.val (.int p0), .val (.long p1), .second, .val (.long p2), .second, .val (.long p3), .second, .val (.int sv), .val (.int pv), .val (.int av), .val (.int bv), .val (.ref b1), .val (.int rx), .val (.int R2), .val (.int R3), .val (.int x15), .val (.int x16), .val (.int x17), .val (.int x18), .val (.int x19)] []))
      refine own_up (fun _ k => XS.iload Xt10.here hx rfl (hb hby at_264) rfl k) ?_
      show own_Go p.tables e below _ (Tt10.setTop (mkF m 266 #[.val (.int p0), .val (.long p1), .second, .val (.long p2), .second, .val (.long p3), .second, .val (.int sv), .val (.int pv), .val (.int av), .val (.int bv), .val (.ref b1), .val (.int rx), .val (.int R2), .val (.int R3), .val (.int x15), .val (.int x16), .val (.int x17), .val (.int x18), .val (.int x19)] [(.int R3)]))
      refine own_up (fun _ k => XS.iload Xt10.here hx rfl (hb hby at_266) rfl k) ?_
      show own_Go p.tables e below _ (Tt10.setTop (mkF m 268 #[.val (.int p0), .val (.long p1), .second, .val (.long p2), .second, .val (.long p3), .second, .val (.int sv), .val (.int pv), .val (.int av), .val (.int bv), .val (.ref b1), .val (.int rx), .val (.int R2), .val (.int R3), .val (.int x15), .val (.int x16), .val (.int x17), .val (.int x18), .val (.int x19)] [(.int x19), (.int R3)]))
      refine own_up (fun _ k => XS.icmpNo Xt10.here hx rfl (hb hby at_268) rfl (teq h19).2 k) ?_
      show own_Go p.tables e below _ (Tt10.setTop (mkF m 271 #[.val (.int p0), .val (.long p1), .second, .val (.long p2), .second, .val (.long p3), .second, .val (.int sv), .val (.int pv), .val (.int av), .val (.int bv), .val (.ref b1), .val (.int rx), .val (.int R2), .val (.int R3), .val (.int x15), .val (.int x16), .val (.int x17), .val (.int x18), .val (.int x19)] []))
      refine own_up (fun _ k => XS.iconst Xt10.here hx rfl (hb hby at_271) k) ?_
      show own_Go p.tables e below _ (Tt10.setTop (mkF m 272 #[.val (.int p0), .val (.long p1), .second, .val (.long p2), .second, .val (.long p3), .second, .val (.int sv), .val (.int pv), .val (.int av), .val (.int bv), .val (.ref b1), .val (.int rx), .val (.int R2), .val (.int R3), .val (.int x15), .val (.int x16), .val (.int x17), .val (.int x18), .val (.int x19)] [(.int (1 : Int32))]))
      refine own_up (fun _ k => XS.goto Xt10.here hx rfl (pc0 := 272) (pc' := 276) rfl (hb hby at_272) (by decide) (by decide) k) ?_
      show own_Go p.tables e below _ (Tt10.setTop (mkF m 276 #[.val (.int p0), .val (.long p1), .second, .val (.long p2), .second, .val (.long p3), .second, .val (.int sv), .val (.int pv), .val (.int av), .val (.int bv), .val (.ref b1), .val (.int rx), .val (.int R2), .val (.int R3), .val (.int x15), .val (.int x16), .val (.int x17), .val (.int x18), .val (.int x19)] [(.int (1 : Int32))]))
      exact own_end Xt10 hlk (v := some (.int (1 : Int32))) (fun h => by rw [Bd.returns] at h; cases h) (fun fs hr => retN Xt10 hx (z := (1 : Int32)) (t := .boolean) Bd.returns (by simp) (hb hby at_276) hr) et10 ⟨rfl, Nt10⟩ (by decide) (by decide)
    have t208 : ∀ (Tt11 : State) (Lt11 : List Loc) (Xt11 : Stand p l e room_1 s m #[(.int p0), (.long p1), (.long p2), (.long p3)] below meth c Tt11 Lt11 6 14) (et11 : Tt11.heap = T6.heap) (Nt11 : Fr n0 Lt11) (x15 : Int32) (x16 : Int32) (x17 : Int32) (x18 : Int32) (h15 : rx = x15) (h17 : x17 = if own_CC pv av bv (if p1 < (9223372036854775807 : Int64) then pv else 0) sv then (1 : Int32) else 0) (h18 : R2 = x18), own_Go p.tables e below (fun u o => ∃ v L, o = .returned v ∧ Q_rm0 Z p0 p1 p2 p3 h0 n0 v u.heap L ∧ FrameEnd s o u L room_1.cells room_1.slots) (Tt11.setTop (mkF m 208 #[.val (.int p0), .val (.long p1), .second, .val (.long p2), .second, .val (.long p3), .second, .val (.int sv), .val (.int pv), .val (.int av), .val (.int bv), .val (.ref b1), .val (.int rx), .val (.int R2), .val (.int R3), .val (.int x15), .val (.int x16), .val (.int x17), .val (.int x18), .unset] [])) := by
      intro Tt11 Lt11 Xt11 et11 Nt11 x15 x16 x17 x18 h15 h17 h18
      refine own_up (fun _ k => XS.lload Xt11.here hx rfl (hb hby at_208) rfl k) ?_
      show own_Go p.tables e below _ (Tt11.setTop (mkF m 210 #[.val (.int p0), .val (.long p1), .second, .val (.long p2), .second, .val (.long p3), .second, .val (.int sv), .val (.int pv), .val (.int av), .val (.int bv), .val (.ref b1), .val (.int rx), .val (.int R2), .val (.int R3), .val (.int x15), .val (.int x16), .val (.int x17), .val (.int x18), .unset] [(.long p3)]))
      refine own_up (fun _ k => XS.lloadN Xt11.here hx rfl (hb hby at_210) rfl k) ?_
      show own_Go p.tables e below _ (Tt11.setTop (mkF m 211 #[.val (.int p0), .val (.long p1), .second, .val (.long p2), .second, .val (.long p3), .second, .val (.int sv), .val (.int pv), .val (.int av), .val (.int bv), .val (.ref b1), .val (.int rx), .val (.int R2), .val (.int R3), .val (.int x15), .val (.int x16), .val (.int x17), .val (.int x18), .unset] [(.long p1), (.long p3)]))
      refine own_up (fun _ k => XS.lloadN Xt11.here hx rfl (hb hby at_211) rfl k) ?_
      show own_Go p.tables e below _ (Tt11.setTop (mkF m 212 #[.val (.int p0), .val (.long p1), .second, .val (.long p2), .second, .val (.long p3), .second, .val (.int sv), .val (.int pv), .val (.int av), .val (.int bv), .val (.ref b1), .val (.int rx), .val (.int R2), .val (.int R3), .val (.int x15), .val (.int x16), .val (.int x17), .val (.int x18), .unset] [(.long p2), (.long p1), (.long p3)]))
      have f13 : n0 ≤ T6.heap.size := (Nat.le_trans f9 K6.1)
      obtain ⟨_, _, ⟨T12, L12, k12, n12⟩, -, X12, ⟨Lc12, hQ12, l12, y12, z12⟩, st12⟩ := Jvm.LawKit.callS Xt11 hx (y := (⟨"java/lang/Math", "min", "(JJ)J"⟩ : MethodName)) hown (mvT hZ (hw _ (List.mem_of_getElem? (i := 34) rfl))) (mvT hZ (hw _ (List.mem_of_getElem? (i := 35) rfl))) (mvT hZ (hw _ (List.mem_of_getElem? (i := 36) rfl))) (mvT hZ (hw _ (List.mem_of_getElem? (i := 37) rfl))) (by decide) (backOf (W := 2) (rm3 l Z a0 hw [] p1 p2 T6.heap n0 f13 ) hZ (hw _ (List.mem_of_getElem? (i := 37) rfl)) (hw _ (List.mem_of_getElem? (i := 36) rfl)) (by decide) (by decide)) (g := (mkF m 212 #[.val (.int p0), .val (.long p1), .second, .val (.long p2), .second, .val (.long p3), .second, .val (.int sv), .val (.int pv), .val (.int av), .val (.int bv), .val (.ref b1), .val (.int rx), .val (.int R2), .val (.int R3), .val (.int x15), .val (.int x16), .val (.int x17), .val (.int x18), .unset] [(.long p2), (.long p1), (.long p3)])) rfl (by rw [hml]; rfl) (argsL := [(.long p1), (.long p2)]) (rest := [(.long p3)]) (lenOf own_pd2 rfl) rfl (by show 2 * 0 + _ ≤ _; exact Nat.le_of_eq rfl) (hb hby at_212) (fun _ _ => ⟨rfl, et11, (by decide : 6 + 0 ≤ _), (by decide : 14 + 0 ≤ _)⟩)
      dsimp only [Pt.U, Pt.locs, Pt.cells, Pt.slots] at X12 l12 y12 z12 st12 hQ12
      subst l12 y12 z12
      obtain ⟨rfl, N12q, eq12⟩ := hQ12
      have N12 := Fr.app Nt11 N12q
      refine own_up (fun _ k => st12 _ k) ?_
      show own_Go p.tables e below _ (T12.setTop (mkF m 215 #[.val (.int p0), .val (.long p1), .second, .val (.long p2), .second, .val (.long p3), .second, .val (.int sv), .val (.int pv), .val (.int av), .val (.int bv), .val (.ref b1), .val (.int rx), .val (.int R2), .val (.int R3), .val (.int x15), .val (.int x16), .val (.int x17), .val (.int x18), .unset] [(.long (if p2 < p1 then p2 else p1)), (.long p3)]))
      refine own_up (fun _ k => XS.lcmp X12.here hx rfl (hb hby at_215) rfl k) ?_
      show own_Go p.tables e below _ (T12.setTop (mkF m 216 #[.val (.int p0), .val (.long p1), .second, .val (.long p2), .second, .val (.long p3), .second, .val (.int sv), .val (.int pv), .val (.int av), .val (.int bv), .val (.ref b1), .val (.int rx), .val (.int R2), .val (.int R3), .val (.int x15), .val (.int x16), .val (.int x17), .val (.int x18), .unset] [(.int (lcmpW p3 (if p2 < p1 then p2 else p1)))]))
      by_cases m1 : p3 < (if p2 < p1 then p2 else p1)
      ·
        refine own_up (fun _ k => XS.ifNo X12.here hx rfl (hb hby at_216) rfl ((if0 _ _).trans (tlt ((lw_lt _ _).mpr m1)).2.1) k) ?_
        show own_Go p.tables e below _ (T12.setTop (mkF m 219 #[.val (.int p0), .val (.long p1), .second, .val (.long p2), .second, .val (.long p3), .second, .val (.int sv), .val (.int pv), .val (.int av), .val (.int bv), .val (.ref b1), .val (.int rx), .val (.int R2), .val (.int R3), .val (.int x15), .val (.int x16), .val (.int x17), .val (.int x18), .unset] []))
        refine own_up (fun _ k => XS.iconst X12.here hx rfl (hb hby at_219) k) ?_
        show own_Go p.tables e below _ (T12.setTop (mkF m 220 #[.val (.int p0), .val (.long p1), .second, .val (.long p2), .second, .val (.long p3), .second, .val (.int sv), .val (.int pv), .val (.int av), .val (.int bv), .val (.ref b1), .val (.int rx), .val (.int R2), .val (.int R3), .val (.int x15), .val (.int x16), .val (.int x17), .val (.int x18), .unset] [(.int (0 : Int32))]))
        refine own_up (fun _ k => XS.istore X12.here hx rfl (hb hby at_220) rfl (l' := #[.val (.int p0), .val (.long p1), .second, .val (.long p2), .second, .val (.long p3), .second, .val (.int sv), .val (.int pv), .val (.int av), .val (.int bv), .val (.ref b1), .val (.int rx), .val (.int R2), .val (.int R3), .val (.int x15), .val (.int x16), .val (.int x17), .val (.int x18), .val (.int (0 : Int32))]) rfl k) ?_
        show own_Go p.tables e below _ (T12.setTop (mkF m 222 #[.val (.int p0), .val (.long p1), .second, .val (.long p2), .second, .val (.long p3), .second, .val (.int sv), .val (.int pv), .val (.int av), .val (.int bv), .val (.ref b1), .val (.int rx), .val (.int R2), .val (.int R3), .val (.int x15), .val (.int x16), .val (.int x17), .val (.int x18), .val (.int (0 : Int32))] []))
        refine own_up (fun _ k => XS.goto X12.here hx rfl (pc0 := 222) (pc' := 250) rfl (hb hby at_222) (by decide) (by decide) k) ?_
        show own_Go p.tables e below _ (T12.setTop (mkF m 250 #[.val (.int p0), .val (.long p1), .second, .val (.long p2), .second, .val (.long p3), .second, .val (.int sv), .val (.int pv), .val (.int av), .val (.int bv), .val (.ref b1), .val (.int rx), .val (.int R2), .val (.int R3), .val (.int x15), .val (.int x16), .val (.int x17), .val (.int x18), .val (.int (0 : Int32))] []))
        exact t250 T12 _ X12 eq12 N12 x15 x16 x17 x18 (0 : Int32) h15 h18 (by rw [hR3, if_pos m1])
      ·
        refine own_up (fun _ k => XS.ifYes X12.here hx rfl (pc0 := 216) (pc' := 225) rfl (hb hby at_216) rfl ((if0 _ _).trans (flt (fun q => m1 ((lw_lt _ _).mp q))).2.1) (by decide) (by decide) k) ?_
        show own_Go p.tables e below _ (T12.setTop (mkF m 225 #[.val (.int p0), .val (.long p1), .second, .val (.long p2), .second, .val (.long p3), .second, .val (.int sv), .val (.int pv), .val (.int av), .val (.int bv), .val (.ref b1), .val (.int rx), .val (.int R2), .val (.int R3), .val (.int x15), .val (.int x16), .val (.int x17), .val (.int x18), .unset] []))
        refine own_up (fun _ k => XS.lloadN X12.here hx rfl (hb hby at_225) rfl k) ?_
        show own_Go p.tables e below _ (T12.setTop (mkF m 226 #[.val (.int p0), .val (.long p1), .second, .val (.long p2), .second, .val (.long p3), .second, .val (.int sv), .val (.int pv), .val (.int av), .val (.int bv), .val (.ref b1), .val (.int rx), .val (.int R2), .val (.int R3), .val (.int x15), .val (.int x16), .val (.int x17), .val (.int x18), .unset] [(.long p2)]))
        refine own_up (fun _ k => XS.lloadN X12.here hx rfl (hb hby at_226) rfl k) ?_
        show own_Go p.tables e below _ (T12.setTop (mkF m 227 #[.val (.int p0), .val (.long p1), .second, .val (.long p2), .second, .val (.long p3), .second, .val (.int sv), .val (.int pv), .val (.int av), .val (.int bv), .val (.ref b1), .val (.int rx), .val (.int R2), .val (.int R3), .val (.int x15), .val (.int x16), .val (.int x17), .val (.int x18), .unset] [(.long p1), (.long p2)]))
        refine own_up (fun _ k => XS.lcmp X12.here hx rfl (hb hby at_227) rfl k) ?_
        show own_Go p.tables e below _ (T12.setTop (mkF m 228 #[.val (.int p0), .val (.long p1), .second, .val (.long p2), .second, .val (.long p3), .second, .val (.int sv), .val (.int pv), .val (.int av), .val (.int bv), .val (.ref b1), .val (.int rx), .val (.int R2), .val (.int R3), .val (.int x15), .val (.int x16), .val (.int x17), .val (.int x18), .unset] [(.int (lcmpW p2 p1))]))
        by_cases m2 : p2 < p1
        ·
          refine own_up (fun _ k => XS.ifNo X12.here hx rfl (hb hby at_228) rfl ((if0 _ _).trans (tlt ((lw_lt _ _).mpr m2)).2.1) k) ?_
          show own_Go p.tables e below _ (T12.setTop (mkF m 231 #[.val (.int p0), .val (.long p1), .second, .val (.long p2), .second, .val (.long p3), .second, .val (.int sv), .val (.int pv), .val (.int av), .val (.int bv), .val (.ref b1), .val (.int rx), .val (.int R2), .val (.int R3), .val (.int x15), .val (.int x16), .val (.int x17), .val (.int x18), .unset] []))
          refine own_up (fun _ k => XS.iload X12.here hx rfl (hb hby at_231) rfl k) ?_
          show own_Go p.tables e below _ (T12.setTop (mkF m 233 #[.val (.int p0), .val (.long p1), .second, .val (.long p2), .second, .val (.long p3), .second, .val (.int sv), .val (.int pv), .val (.int av), .val (.int bv), .val (.ref b1), .val (.int rx), .val (.int R2), .val (.int R3), .val (.int x15), .val (.int x16), .val (.int x17), .val (.int x18), .unset] [(.int sv)]))
          by_cases m3 : sv = (0 : Int32)
          ·
            refine own_up (fun _ k => XS.ifNo X12.here hx rfl (hb hby at_233) rfl ((if0 _ _).trans (teq m3).2) k) ?_
            show own_Go p.tables e below _ (T12.setTop (mkF m 236 #[.val (.int p0), .val (.long p1), .second, .val (.long p2), .second, .val (.long p3), .second, .val (.int sv), .val (.int pv), .val (.int av), .val (.int bv), .val (.ref b1), .val (.int rx), .val (.int R2), .val (.int R3), .val (.int x15), .val (.int x16), .val (.int x17), .val (.int x18), .unset] []))
            refine own_up (fun _ k => XS.iconst X12.here hx rfl (hb hby at_236) k) ?_
            show own_Go p.tables e below _ (T12.setTop (mkF m 237 #[.val (.int p0), .val (.long p1), .second, .val (.long p2), .second, .val (.long p3), .second, .val (.int sv), .val (.int pv), .val (.int av), .val (.int bv), .val (.ref b1), .val (.int rx), .val (.int R2), .val (.int R3), .val (.int x15), .val (.int x16), .val (.int x17), .val (.int x18), .unset] [(.int (1 : Int32))]))
            refine own_up (fun _ k => XS.goto X12.here hx rfl (pc0 := 237) (pc' := 241) rfl (hb hby at_237) (by decide) (by decide) k) ?_
            show own_Go p.tables e below _ (T12.setTop (mkF m 241 #[.val (.int p0), .val (.long p1), .second, .val (.long p2), .second, .val (.long p3), .second, .val (.int sv), .val (.int pv), .val (.int av), .val (.int bv), .val (.ref b1), .val (.int rx), .val (.int R2), .val (.int R3), .val (.int x15), .val (.int x16), .val (.int x17), .val (.int x18), .unset] [(.int (1 : Int32))]))
            refine own_up (fun _ k => XS.istore X12.here hx rfl (hb hby at_241) rfl (l' := #[.val (.int p0), .val (.long p1), .second, .val (.long p2), .second, .val (.long p3), .second, .val (.int sv), .val (.int pv), .val (.int av), .val (.int bv), .val (.ref b1), .val (.int rx), .val (.int R2), .val (.int R3), .val (.int x15), .val (.int x16), .val (.int x17), .val (.int x18), .val (.int (1 : Int32))]) rfl k) ?_
            show own_Go p.tables e below _ (T12.setTop (mkF m 243 #[.val (.int p0), .val (.long p1), .second, .val (.long p2), .second, .val (.long p3), .second, .val (.int sv), .val (.int pv), .val (.int av), .val (.int bv), .val (.ref b1), .val (.int rx), .val (.int R2), .val (.int R3), .val (.int x15), .val (.int x16), .val (.int x17), .val (.int x18), .val (.int (1 : Int32))] []))
            refine own_up (fun _ k => XS.goto X12.here hx rfl (pc0 := 243) (pc' := 250) rfl (hb hby at_243) (by decide) (by decide) k) ?_
            show own_Go p.tables e below _ (T12.setTop (mkF m 250 #[.val (.int p0), .val (.long p1), .second, .val (.long p2), .second, .val (.long p3), .second, .val (.int sv), .val (.int pv), .val (.int av), .val (.int bv), .val (.ref b1), .val (.int rx), .val (.int R2), .val (.int R3), .val (.int x15), .val (.int x16), .val (.int x17), .val (.int x18), .val (.int (1 : Int32))] []))
            exact t250 T12 _ X12 eq12 N12 x15 x16 x17 x18 (1 : Int32) h15 h18 (by rw [hR3, if_neg m1, if_pos m2, if_pos m3])
          ·
            refine own_up (fun _ k => XS.ifYes X12.here hx rfl (pc0 := 233) (pc' := 240) rfl (hb hby at_233) rfl ((if0 _ _).trans (feq m3).2) (by decide) (by decide) k) ?_
            show own_Go p.tables e below _ (T12.setTop (mkF m 240 #[.val (.int p0), .val (.long p1), .second, .val (.long p2), .second, .val (.long p3), .second, .val (.int sv), .val (.int pv), .val (.int av), .val (.int bv), .val (.ref b1), .val (.int rx), .val (.int R2), .val (.int R3), .val (.int x15), .val (.int x16), .val (.int x17), .val (.int x18), .unset] []))
            refine own_up (fun _ k => XS.iconst X12.here hx rfl (hb hby at_240) k) ?_
            show own_Go p.tables e below _ (T12.setTop (mkF m 241 #[.val (.int p0), .val (.long p1), .second, .val (.long p2), .second, .val (.long p3), .second, .val (.int sv), .val (.int pv), .val (.int av), .val (.int bv), .val (.ref b1), .val (.int rx), .val (.int R2), .val (.int R3), .val (.int x15), .val (.int x16), .val (.int x17), .val (.int x18), .unset] [(.int (0 : Int32))]))
            refine own_up (fun _ k => XS.istore X12.here hx rfl (hb hby at_241) rfl (l' := #[.val (.int p0), .val (.long p1), .second, .val (.long p2), .second, .val (.long p3), .second, .val (.int sv), .val (.int pv), .val (.int av), .val (.int bv), .val (.ref b1), .val (.int rx), .val (.int R2), .val (.int R3), .val (.int x15), .val (.int x16), .val (.int x17), .val (.int x18), .val (.int (0 : Int32))]) rfl k) ?_
            show own_Go p.tables e below _ (T12.setTop (mkF m 243 #[.val (.int p0), .val (.long p1), .second, .val (.long p2), .second, .val (.long p3), .second, .val (.int sv), .val (.int pv), .val (.int av), .val (.int bv), .val (.ref b1), .val (.int rx), .val (.int R2), .val (.int R3), .val (.int x15), .val (.int x16), .val (.int x17), .val (.int x18), .val (.int (0 : Int32))] []))
            refine own_up (fun _ k => XS.goto X12.here hx rfl (pc0 := 243) (pc' := 250) rfl (hb hby at_243) (by decide) (by decide) k) ?_
            show own_Go p.tables e below _ (T12.setTop (mkF m 250 #[.val (.int p0), .val (.long p1), .second, .val (.long p2), .second, .val (.long p3), .second, .val (.int sv), .val (.int pv), .val (.int av), .val (.int bv), .val (.ref b1), .val (.int rx), .val (.int R2), .val (.int R3), .val (.int x15), .val (.int x16), .val (.int x17), .val (.int x18), .val (.int (0 : Int32))] []))
            exact t250 T12 _ X12 eq12 N12 x15 x16 x17 x18 (0 : Int32) h15 h18 (by rw [hR3, if_neg m1, if_pos m2, if_neg m3])
        ·
          refine own_up (fun _ k => XS.ifYes X12.here hx rfl (pc0 := 228) (pc' := 246) rfl (hb hby at_228) rfl ((if0 _ _).trans (flt (fun q => m2 ((lw_lt _ _).mp q))).2.1) (by decide) (by decide) k) ?_
          show own_Go p.tables e below _ (T12.setTop (mkF m 246 #[.val (.int p0), .val (.long p1), .second, .val (.long p2), .second, .val (.long p3), .second, .val (.int sv), .val (.int pv), .val (.int av), .val (.int bv), .val (.ref b1), .val (.int rx), .val (.int R2), .val (.int R3), .val (.int x15), .val (.int x16), .val (.int x17), .val (.int x18), .unset] []))
          refine own_up (fun _ k => XS.iload X12.here hx rfl (hb hby at_246) rfl k) ?_
          show own_Go p.tables e below _ (T12.setTop (mkF m 248 #[.val (.int p0), .val (.long p1), .second, .val (.long p2), .second, .val (.long p3), .second, .val (.int sv), .val (.int pv), .val (.int av), .val (.int bv), .val (.ref b1), .val (.int rx), .val (.int R2), .val (.int R3), .val (.int x15), .val (.int x16), .val (.int x17), .val (.int x18), .unset] [(.int x17)]))
          refine own_up (fun _ k => XS.istore X12.here hx rfl (hb hby at_248) rfl (l' := #[.val (.int p0), .val (.long p1), .second, .val (.long p2), .second, .val (.long p3), .second, .val (.int sv), .val (.int pv), .val (.int av), .val (.int bv), .val (.ref b1), .val (.int rx), .val (.int R2), .val (.int R3), .val (.int x15), .val (.int x16), .val (.int x17), .val (.int x18), .val (.int x17)]) rfl k) ?_
          show own_Go p.tables e below _ (T12.setTop (mkF m 250 #[.val (.int p0), .val (.long p1), .second, .val (.long p2), .second, .val (.long p3), .second, .val (.int sv), .val (.int pv), .val (.int av), .val (.int bv), .val (.ref b1), .val (.int rx), .val (.int R2), .val (.int R3), .val (.int x15), .val (.int x16), .val (.int x17), .val (.int x18), .val (.int x17)] []))
          exact t250 T12 _ X12 eq12 N12 x15 x16 x17 x18 x17 h15 h18 (by rw [hR3, if_neg m1, if_neg m2, h17])
    have t190 : ∀ (Tt14 : State) (Lt14 : List Loc) (Xt14 : Stand p l e room_1 s m #[(.int p0), (.long p1), (.long p2), (.long p3)] below meth c Tt14 Lt14 6 14) (et14 : Tt14.heap = T6.heap) (Nt14 : Fr n0 Lt14) (x15 : Int32) (x16 : Int32) (x17 : Int32) (h15 : rx = x15) (h17 : x17 = if own_CC pv av bv (if p1 < (9223372036854775807 : Int64) then pv else 0) sv then (1 : Int32) else 0), own_Go p.tables e below (fun u o => ∃ v L, o = .returned v ∧ Q_rm0 Z p0 p1 p2 p3 h0 n0 v u.heap L ∧ FrameEnd s o u L room_1.cells room_1.slots) (Tt14.setTop (mkF m 190 #[.val (.int p0), .val (.long p1), .second, .val (.long p2), .second, .val (.long p3), .second, .val (.int sv), .val (.int pv), .val (.int av), .val (.int bv), .val (.ref b1), .val (.int rx), .val (.int R2), .val (.int R3), .val (.int x15), .val (.int x16), .val (.int x17), .unset, .unset] [])) := by
      intro Tt14 Lt14 Xt14 et14 Nt14 x15 x16 x17 h15 h17
      refine own_up (fun _ k => XS.lloadN Xt14.here hx rfl (hb hby at_190) rfl k) ?_
      show own_Go p.tables e below _ (Tt14.setTop (mkF m 191 #[.val (.int p0), .val (.long p1), .second, .val (.long p2), .second, .val (.long p3), .second, .val (.int sv), .val (.int pv), .val (.int av), .val (.int bv), .val (.ref b1), .val (.int rx), .val (.int R2), .val (.int R3), .val (.int x15), .val (.int x16), .val (.int x17), .unset, .unset] [(.long p2)]))
      refine own_up (fun _ k => XS.lloadN Xt14.here hx rfl (hb hby at_191) rfl k) ?_
      show own_Go p.tables e below _ (Tt14.setTop (mkF m 192 #[.val (.int p0), .val (.long p1), .second, .val (.long p2), .second, .val (.long p3), .second, .val (.int sv), .val (.int pv), .val (.int av), .val (.int bv), .val (.ref b1), .val (.int rx), .val (.int R2), .val (.int R3), .val (.int x15), .val (.int x16), .val (.int x17), .unset, .unset] [(.long p1), (.long p2)]))
      refine own_up (fun _ k => XS.lcmp Xt14.here hx rfl (hb hby at_192) rfl k) ?_
      show own_Go p.tables e below _ (Tt14.setTop (mkF m 193 #[.val (.int p0), .val (.long p1), .second, .val (.long p2), .second, .val (.long p3), .second, .val (.int sv), .val (.int pv), .val (.int av), .val (.int bv), .val (.ref b1), .val (.int rx), .val (.int R2), .val (.int R3), .val (.int x15), .val (.int x16), .val (.int x17), .unset, .unset] [(.int (lcmpW p2 p1))]))
      by_cases m2 : p2 < p1
      ·
        refine own_up (fun _ k => XS.ifYes Xt14.here hx rfl (pc0 := 193) (pc' := 205) rfl (hb hby at_193) rfl ((if0 _ _).trans (tlt ((lw_lt _ _).mpr m2)).1) (by decide) (by decide) k) ?_
        show own_Go p.tables e below _ (Tt14.setTop (mkF m 205 #[.val (.int p0), .val (.long p1), .second, .val (.long p2), .second, .val (.long p3), .second, .val (.int sv), .val (.int pv), .val (.int av), .val (.int bv), .val (.ref b1), .val (.int rx), .val (.int R2), .val (.int R3), .val (.int x15), .val (.int x16), .val (.int x17), .unset, .unset] []))
        refine own_up (fun _ k => XS.iconst Xt14.here hx rfl (hb hby at_205) k) ?_
        show own_Go p.tables e below _ (Tt14.setTop (mkF m 206 #[.val (.int p0), .val (.long p1), .second, .val (.long p2), .second, .val (.long p3), .second, .val (.int sv), .val (.int pv), .val (.int av), .val (.int bv), .val (.ref b1), .val (.int rx), .val (.int R2), .val (.int R3), .val (.int x15), .val (.int x16), .val (.int x17), .unset, .unset] [(.int (0 : Int32))]))
        refine own_up (fun _ k => XS.istore Xt14.here hx rfl (hb hby at_206) rfl (l' := #[.val (.int p0), .val (.long p1), .second, .val (.long p2), .second, .val (.long p3), .second, .val (.int sv), .val (.int pv), .val (.int av), .val (.int bv), .val (.ref b1), .val (.int rx), .val (.int R2), .val (.int R3), .val (.int x15), .val (.int x16), .val (.int x17), .val (.int (0 : Int32)), .unset]) rfl k) ?_
        show own_Go p.tables e below _ (Tt14.setTop (mkF m 208 #[.val (.int p0), .val (.long p1), .second, .val (.long p2), .second, .val (.long p3), .second, .val (.int sv), .val (.int pv), .val (.int av), .val (.int bv), .val (.ref b1), .val (.int rx), .val (.int R2), .val (.int R3), .val (.int x15), .val (.int x16), .val (.int x17), .val (.int (0 : Int32)), .unset] []))
        exact t208 Tt14 _ Xt14 et14 Nt14 x15 x16 x17 (0 : Int32) h15 h17 (by rw [hR2, if_neg (fun q => q.1 m2)])
      ·
        refine own_up (fun _ k => XS.ifNo Xt14.here hx rfl (hb hby at_193) rfl ((if0 _ _).trans (flt (fun q => m2 ((lw_lt _ _).mp q))).1) k) ?_
        show own_Go p.tables e below _ (Tt14.setTop (mkF m 196 #[.val (.int p0), .val (.long p1), .second, .val (.long p2), .second, .val (.long p3), .second, .val (.int sv), .val (.int pv), .val (.int av), .val (.int bv), .val (.ref b1), .val (.int rx), .val (.int R2), .val (.int R3), .val (.int x15), .val (.int x16), .val (.int x17), .unset, .unset] []))
        refine own_up (fun _ k => XS.iload Xt14.here hx rfl (hb hby at_196) rfl k) ?_
        show own_Go p.tables e below _ (Tt14.setTop (mkF m 198 #[.val (.int p0), .val (.long p1), .second, .val (.long p2), .second, .val (.long p3), .second, .val (.int sv), .val (.int pv), .val (.int av), .val (.int bv), .val (.ref b1), .val (.int rx), .val (.int R2), .val (.int R3), .val (.int x15), .val (.int x16), .val (.int x17), .unset, .unset] [(.int x17)]))
        by_cases m3 : x17 = (0 : Int32)
        ·
          refine own_up (fun _ k => XS.ifYes Xt14.here hx rfl (pc0 := 198) (pc' := 205) rfl (hb hby at_198) rfl ((if0 _ _).trans (teq m3).1) (by decide) (by decide) k) ?_
          show own_Go p.tables e below _ (Tt14.setTop (mkF m 205 #[.val (.int p0), .val (.long p1), .second, .val (.long p2), .second, .val (.long p3), .second, .val (.int sv), .val (.int pv), .val (.int av), .val (.int bv), .val (.ref b1), .val (.int rx), .val (.int R2), .val (.int R3), .val (.int x15), .val (.int x16), .val (.int x17), .unset, .unset] []))
          refine own_up (fun _ k => XS.iconst Xt14.here hx rfl (hb hby at_205) k) ?_
          show own_Go p.tables e below _ (Tt14.setTop (mkF m 206 #[.val (.int p0), .val (.long p1), .second, .val (.long p2), .second, .val (.long p3), .second, .val (.int sv), .val (.int pv), .val (.int av), .val (.int bv), .val (.ref b1), .val (.int rx), .val (.int R2), .val (.int R3), .val (.int x15), .val (.int x16), .val (.int x17), .unset, .unset] [(.int (0 : Int32))]))
          refine own_up (fun _ k => XS.istore Xt14.here hx rfl (hb hby at_206) rfl (l' := #[.val (.int p0), .val (.long p1), .second, .val (.long p2), .second, .val (.long p3), .second, .val (.int sv), .val (.int pv), .val (.int av), .val (.int bv), .val (.ref b1), .val (.int rx), .val (.int R2), .val (.int R3), .val (.int x15), .val (.int x16), .val (.int x17), .val (.int (0 : Int32)), .unset]) rfl k) ?_
          show own_Go p.tables e below _ (Tt14.setTop (mkF m 208 #[.val (.int p0), .val (.long p1), .second, .val (.long p2), .second, .val (.long p3), .second, .val (.int sv), .val (.int pv), .val (.int av), .val (.int bv), .val (.ref b1), .val (.int rx), .val (.int R2), .val (.int R3), .val (.int x15), .val (.int x16), .val (.int x17), .val (.int (0 : Int32)), .unset] []))
          exact t208 Tt14 _ Xt14 et14 Nt14 x15 x16 x17 (0 : Int32) h15 h17 (by rw [hR2, if_neg (fun q => own_no (h17.symm.trans m3) q.2)])
        ·
          refine own_up (fun _ k => XS.ifNo Xt14.here hx rfl (hb hby at_198) rfl ((if0 _ _).trans (feq m3).1) k) ?_
          show own_Go p.tables e below _ (Tt14.setTop (mkF m 201 #[.val (.int p0), .val (.long p1), .second, .val (.long p2), .second, .val (.long p3), .second, .val (.int sv), .val (.int pv), .val (.int av), .val (.int bv), .val (.ref b1), .val (.int rx), .val (.int R2), .val (.int R3), .val (.int x15), .val (.int x16), .val (.int x17), .unset, .unset] []))
          refine own_up (fun _ k => XS.iconst Xt14.here hx rfl (hb hby at_201) k) ?_
          show own_Go p.tables e below _ (Tt14.setTop (mkF m 202 #[.val (.int p0), .val (.long p1), .second, .val (.long p2), .second, .val (.long p3), .second, .val (.int sv), .val (.int pv), .val (.int av), .val (.int bv), .val (.ref b1), .val (.int rx), .val (.int R2), .val (.int R3), .val (.int x15), .val (.int x16), .val (.int x17), .unset, .unset] [(.int (1 : Int32))]))
          refine own_up (fun _ k => XS.goto Xt14.here hx rfl (pc0 := 202) (pc' := 206) rfl (hb hby at_202) (by decide) (by decide) k) ?_
          show own_Go p.tables e below _ (Tt14.setTop (mkF m 206 #[.val (.int p0), .val (.long p1), .second, .val (.long p2), .second, .val (.long p3), .second, .val (.int sv), .val (.int pv), .val (.int av), .val (.int bv), .val (.ref b1), .val (.int rx), .val (.int R2), .val (.int R3), .val (.int x15), .val (.int x16), .val (.int x17), .unset, .unset] [(.int (1 : Int32))]))
          refine own_up (fun _ k => XS.istore Xt14.here hx rfl (hb hby at_206) rfl (l' := #[.val (.int p0), .val (.long p1), .second, .val (.long p2), .second, .val (.long p3), .second, .val (.int sv), .val (.int pv), .val (.int av), .val (.int bv), .val (.ref b1), .val (.int rx), .val (.int R2), .val (.int R3), .val (.int x15), .val (.int x16), .val (.int x17), .val (.int (1 : Int32)), .unset]) rfl k) ?_
          show own_Go p.tables e below _ (Tt14.setTop (mkF m 208 #[.val (.int p0), .val (.long p1), .second, .val (.long p2), .second, .val (.long p3), .second, .val (.int sv), .val (.int pv), .val (.int av), .val (.int bv), .val (.ref b1), .val (.int rx), .val (.int R2), .val (.int R3), .val (.int x15), .val (.int x16), .val (.int x17), .val (.int (1 : Int32)), .unset] []))
          exact t208 Tt14 _ Xt14 et14 Nt14 x15 x16 x17 (1 : Int32) h15 h17 (by rw [hR2, if_pos ⟨m2, own_yes (fun q => m3 (h17.trans q))⟩])
    have t163 : ∀ (Tt15 : State) (Lt15 : List Loc) (Xt15 : Stand p l e room_1 s m #[(.int p0), (.long p1), (.long p2), (.long p3)] below meth c Tt15 Lt15 6 14) (et15 : Tt15.heap = T6.heap) (Nt15 : Fr n0 Lt15) (x15 : Int32) (x16 : Int32) (h15 : rx = x15) (h16 : x16 = (if p1 < (9223372036854775807 : Int64) then pv else 0)), own_Go p.tables e below (fun u o => ∃ v L, o = .returned v ∧ Q_rm0 Z p0 p1 p2 p3 h0 n0 v u.heap L ∧ FrameEnd s o u L room_1.cells room_1.slots) (Tt15.setTop (mkF m 163 #[.val (.int p0), .val (.long p1), .second, .val (.long p2), .second, .val (.long p3), .second, .val (.int sv), .val (.int pv), .val (.int av), .val (.int bv), .val (.ref b1), .val (.int rx), .val (.int R2), .val (.int R3), .val (.int x15), .val (.int x16), .unset, .unset, .unset] [])) := by
      intro Tt15 Lt15 Xt15 et15 Nt15 x15 x16 h15 h16
      refine own_up (fun _ k => XS.iload Xt15.here hx rfl (hb hby at_163) rfl k) ?_
      show own_Go p.tables e below _ (Tt15.setTop (mkF m 165 #[.val (.int p0), .val (.long p1), .second, .val (.long p2), .second, .val (.long p3), .second, .val (.int sv), .val (.int pv), .val (.int av), .val (.int bv), .val (.ref b1), .val (.int rx), .val (.int R2), .val (.int R3), .val (.int x15), .val (.int x16), .unset, .unset, .unset] [(.int pv)]))
      refine own_up (fun _ k => XS.iload Xt15.here hx rfl (hb hby at_165) rfl k) ?_
      show own_Go p.tables e below _ (Tt15.setTop (mkF m 167 #[.val (.int p0), .val (.long p1), .second, .val (.long p2), .second, .val (.long p3), .second, .val (.int sv), .val (.int pv), .val (.int av), .val (.int bv), .val (.ref b1), .val (.int rx), .val (.int R2), .val (.int R3), .val (.int x15), .val (.int x16), .unset, .unset, .unset] [(.int av), (.int pv)]))
      refine own_up (fun _ k => XS.iadd Xt15.here hx rfl (hb hby at_167) rfl k) ?_
      show own_Go p.tables e below _ (Tt15.setTop (mkF m 168 #[.val (.int p0), .val (.long p1), .second, .val (.long p2), .second, .val (.long p3), .second, .val (.int sv), .val (.int pv), .val (.int av), .val (.int bv), .val (.ref b1), .val (.int rx), .val (.int R2), .val (.int R3), .val (.int x15), .val (.int x16), .unset, .unset, .unset] [(.int (pv + av))]))
      refine own_up (fun _ k => XS.iload Xt15.here hx rfl (hb hby at_168) rfl k) ?_
      show own_Go p.tables e below _ (Tt15.setTop (mkF m 170 #[.val (.int p0), .val (.long p1), .second, .val (.long p2), .second, .val (.long p3), .second, .val (.int sv), .val (.int pv), .val (.int av), .val (.int bv), .val (.ref b1), .val (.int rx), .val (.int R2), .val (.int R3), .val (.int x15), .val (.int x16), .unset, .unset, .unset] [(.int x16), (.int (pv + av))]))
      refine own_up (fun _ k => XS.isub Xt15.here hx rfl (hb hby at_170) rfl k) ?_
      show own_Go p.tables e below _ (Tt15.setTop (mkF m 171 #[.val (.int p0), .val (.long p1), .second, .val (.long p2), .second, .val (.long p3), .second, .val (.int sv), .val (.int pv), .val (.int av), .val (.int bv), .val (.ref b1), .val (.int rx), .val (.int R2), .val (.int R3), .val (.int x15), .val (.int x16), .unset, .unset, .unset] [(.int ((pv + av) - x16))]))
      refine own_up (fun _ k => XS.iload Xt15.here hx rfl (hb hby at_171) rfl k) ?_
      show own_Go p.tables e below _ (Tt15.setTop (mkF m 173 #[.val (.int p0), .val (.long p1), .second, .val (.long p2), .second, .val (.long p3), .second, .val (.int sv), .val (.int pv), .val (.int av), .val (.int bv), .val (.ref b1), .val (.int rx), .val (.int R2), .val (.int R3), .val (.int x15), .val (.int x16), .unset, .unset, .unset] [(.int sv), (.int ((pv + av) - x16))]))
      by_cases m1 : ((pv + av) - x16) < sv
      ·
        refine own_up (fun _ k => XS.icmpYes Xt15.here hx rfl (pc0 := 173) (pc' := 187) rfl (hb hby at_173) rfl (tlt m1).1 (by decide) (by decide) k) ?_
        show own_Go p.tables e below _ (Tt15.setTop (mkF m 187 #[.val (.int p0), .val (.long p1), .second, .val (.long p2), .second, .val (.long p3), .second, .val (.int sv), .val (.int pv), .val (.int av), .val (.int bv), .val (.ref b1), .val (.int rx), .val (.int R2), .val (.int R3), .val (.int x15), .val (.int x16), .unset, .unset, .unset] []))
        refine own_up (fun _ k => XS.iconst Xt15.here hx rfl (hb hby at_187) k) ?_
        show own_Go p.tables e below _ (Tt15.setTop (mkF m 188 #[.val (.int p0), .val (.long p1), .second, .val (.long p2), .second, .val (.long p3), .second, .val (.int sv), .val (.int pv), .val (.int av), .val (.int bv), .val (.ref b1), .val (.int rx), .val (.int R2), .val (.int R3), .val (.int x15), .val (.int x16), .unset, .unset, .unset] [(.int (0 : Int32))]))
        refine own_up (fun _ k => XS.istore Xt15.here hx rfl (hb hby at_188) rfl (l' := #[.val (.int p0), .val (.long p1), .second, .val (.long p2), .second, .val (.long p3), .second, .val (.int sv), .val (.int pv), .val (.int av), .val (.int bv), .val (.ref b1), .val (.int rx), .val (.int R2), .val (.int R3), .val (.int x15), .val (.int x16), .val (.int (0 : Int32)), .unset, .unset]) rfl k) ?_
        show own_Go p.tables e below _ (Tt15.setTop (mkF m 190 #[.val (.int p0), .val (.long p1), .second, .val (.long p2), .second, .val (.long p3), .second, .val (.int sv), .val (.int pv), .val (.int av), .val (.int bv), .val (.ref b1), .val (.int rx), .val (.int R2), .val (.int R3), .val (.int x15), .val (.int x16), .val (.int (0 : Int32)), .unset, .unset] []))
        exact t190 Tt15 _ Xt15 et15 Nt15 x15 x16 (0 : Int32) h15 ((if_neg (fun q => q.1 (h16 ▸ m1))).symm)
      ·
        refine own_up (fun _ k => XS.icmpNo Xt15.here hx rfl (hb hby at_173) rfl (flt m1).1 k) ?_
        show own_Go p.tables e below _ (Tt15.setTop (mkF m 176 #[.val (.int p0), .val (.long p1), .second, .val (.long p2), .second, .val (.long p3), .second, .val (.int sv), .val (.int pv), .val (.int av), .val (.int bv), .val (.ref b1), .val (.int rx), .val (.int R2), .val (.int R3), .val (.int x15), .val (.int x16), .unset, .unset, .unset] []))
        refine own_up (fun _ k => XS.iload Xt15.here hx rfl (hb hby at_176) rfl k) ?_
        show own_Go p.tables e below _ (Tt15.setTop (mkF m 178 #[.val (.int p0), .val (.long p1), .second, .val (.long p2), .second, .val (.long p3), .second, .val (.int sv), .val (.int pv), .val (.int av), .val (.int bv), .val (.ref b1), .val (.int rx), .val (.int R2), .val (.int R3), .val (.int x15), .val (.int x16), .unset, .unset, .unset] [(.int bv)]))
        refine own_up (fun _ k => XS.iload Xt15.here hx rfl (hb hby at_178) rfl k) ?_
        show own_Go p.tables e below _ (Tt15.setTop (mkF m 180 #[.val (.int p0), .val (.long p1), .second, .val (.long p2), .second, .val (.long p3), .second, .val (.int sv), .val (.int pv), .val (.int av), .val (.int bv), .val (.ref b1), .val (.int rx), .val (.int R2), .val (.int R3), .val (.int x15), .val (.int x16), .unset, .unset, .unset] [(.int sv), (.int bv)]))
        by_cases m2 : bv < sv
        ·
          refine own_up (fun _ k => XS.icmpYes Xt15.here hx rfl (pc0 := 180) (pc' := 187) rfl (hb hby at_180) rfl (tlt m2).1 (by decide) (by decide) k) ?_
          show own_Go p.tables e below _ (Tt15.setTop (mkF m 187 #[.val (.int p0), .val (.long p1), .second, .val (.long p2), .second, .val (.long p3), .second, .val (.int sv), .val (.int pv), .val (.int av), .val (.int bv), .val (.ref b1), .val (.int rx), .val (.int R2), .val (.int R3), .val (.int x15), .val (.int x16), .unset, .unset, .unset] []))
          refine own_up (fun _ k => XS.iconst Xt15.here hx rfl (hb hby at_187) k) ?_
          show own_Go p.tables e below _ (Tt15.setTop (mkF m 188 #[.val (.int p0), .val (.long p1), .second, .val (.long p2), .second, .val (.long p3), .second, .val (.int sv), .val (.int pv), .val (.int av), .val (.int bv), .val (.ref b1), .val (.int rx), .val (.int R2), .val (.int R3), .val (.int x15), .val (.int x16), .unset, .unset, .unset] [(.int (0 : Int32))]))
          refine own_up (fun _ k => XS.istore Xt15.here hx rfl (hb hby at_188) rfl (l' := #[.val (.int p0), .val (.long p1), .second, .val (.long p2), .second, .val (.long p3), .second, .val (.int sv), .val (.int pv), .val (.int av), .val (.int bv), .val (.ref b1), .val (.int rx), .val (.int R2), .val (.int R3), .val (.int x15), .val (.int x16), .val (.int (0 : Int32)), .unset, .unset]) rfl k) ?_
          show own_Go p.tables e below _ (Tt15.setTop (mkF m 190 #[.val (.int p0), .val (.long p1), .second, .val (.long p2), .second, .val (.long p3), .second, .val (.int sv), .val (.int pv), .val (.int av), .val (.int bv), .val (.ref b1), .val (.int rx), .val (.int R2), .val (.int R3), .val (.int x15), .val (.int x16), .val (.int (0 : Int32)), .unset, .unset] []))
          exact t190 Tt15 _ Xt15 et15 Nt15 x15 x16 (0 : Int32) h15 ((if_neg (fun q => q.2 m2)).symm)
        ·
          refine own_up (fun _ k => XS.icmpNo Xt15.here hx rfl (hb hby at_180) rfl (flt m2).1 k) ?_
          show own_Go p.tables e below _ (Tt15.setTop (mkF m 183 #[.val (.int p0), .val (.long p1), .second, .val (.long p2), .second, .val (.long p3), .second, .val (.int sv), .val (.int pv), .val (.int av), .val (.int bv), .val (.ref b1), .val (.int rx), .val (.int R2), .val (.int R3), .val (.int x15), .val (.int x16), .unset, .unset, .unset] []))
          refine own_up (fun _ k => XS.iconst Xt15.here hx rfl (hb hby at_183) k) ?_
          show own_Go p.tables e below _ (Tt15.setTop (mkF m 184 #[.val (.int p0), .val (.long p1), .second, .val (.long p2), .second, .val (.long p3), .second, .val (.int sv), .val (.int pv), .val (.int av), .val (.int bv), .val (.ref b1), .val (.int rx), .val (.int R2), .val (.int R3), .val (.int x15), .val (.int x16), .unset, .unset, .unset] [(.int (1 : Int32))]))
          refine own_up (fun _ k => XS.goto Xt15.here hx rfl (pc0 := 184) (pc' := 188) rfl (hb hby at_184) (by decide) (by decide) k) ?_
          show own_Go p.tables e below _ (Tt15.setTop (mkF m 188 #[.val (.int p0), .val (.long p1), .second, .val (.long p2), .second, .val (.long p3), .second, .val (.int sv), .val (.int pv), .val (.int av), .val (.int bv), .val (.ref b1), .val (.int rx), .val (.int R2), .val (.int R3), .val (.int x15), .val (.int x16), .unset, .unset, .unset] [(.int (1 : Int32))]))
          refine own_up (fun _ k => XS.istore Xt15.here hx rfl (hb hby at_188) rfl (l' := #[.val (.int p0), .val (.long p1), .second, .val (.long p2), .second, .val (.long p3), .second, .val (.int sv), .val (.int pv), .val (.int av), .val (.int bv), .val (.ref b1), .val (.int rx), .val (.int R2), .val (.int R3), .val (.int x15), .val (.int x16), .val (.int (1 : Int32)), .unset, .unset]) rfl k) ?_
          show own_Go p.tables e below _ (Tt15.setTop (mkF m 190 #[.val (.int p0), .val (.long p1), .second, .val (.long p2), .second, .val (.long p3), .second, .val (.int sv), .val (.int pv), .val (.int av), .val (.int bv), .val (.ref b1), .val (.int rx), .val (.int R2), .val (.int R3), .val (.int x15), .val (.int x16), .val (.int (1 : Int32)), .unset, .unset] []))
          exact t190 Tt15 _ Xt15 et15 Nt15 x15 x16 (1 : Int32) h15 ((if_pos ⟨h16 ▸ m1, m2⟩).symm)
    have t147 : ∀ (Tt16 : State) (Lt16 : List Loc) (Xt16 : Stand p l e room_1 s m #[(.int p0), (.long p1), (.long p2), (.long p3)] below meth c Tt16 Lt16 6 14) (et16 : Tt16.heap = T6.heap) (Nt16 : Fr n0 Lt16) (x15 : Int32) (h15 : rx = x15), own_Go p.tables e below (fun u o => ∃ v L, o = .returned v ∧ Q_rm0 Z p0 p1 p2 p3 h0 n0 v u.heap L ∧ FrameEnd s o u L room_1.cells room_1.slots) (Tt16.setTop (mkF m 147 #[.val (.int p0), .val (.long p1), .second, .val (.long p2), .second, .val (.long p3), .second, .val (.int sv), .val (.int pv), .val (.int av), .val (.int bv), .val (.ref b1), .val (.int rx), .val (.int R2), .val (.int R3), .val (.int x15), .unset, .unset, .unset, .unset] [])) := by
      intro Tt16 Lt16 Xt16 et16 Nt16 x15 h15
      refine own_up (fun _ k => XS.lloadN Xt16.here hx rfl (hb hby at_147) rfl k) ?_
      show own_Go p.tables e below _ (Tt16.setTop (mkF m 148 #[.val (.int p0), .val (.long p1), .second, .val (.long p2), .second, .val (.long p3), .second, .val (.int sv), .val (.int pv), .val (.int av), .val (.int bv), .val (.ref b1), .val (.int rx), .val (.int R2), .val (.int R3), .val (.int x15), .unset, .unset, .unset, .unset] [(.long p1)]))
      refine own_up (fun _ k => Xt16.ldc2Long hx hown (mvT hZ (hw _ (List.mem_of_getElem? (i := 33) rfl))) (g := (mkF m 148 #[.val (.int p0), .val (.long p1), .second, .val (.long p2), .second, .val (.long p3), .second, .val (.int sv), .val (.int pv), .val (.int av), .val (.int bv), .val (.ref b1), .val (.int rx), .val (.int R2), .val (.int R3), .val (.int x15), .unset, .unset, .unset, .unset] [(.long p1)])) rfl (hb hby at_148) _ k) ?_
      show own_Go p.tables e below _ (Tt16.setTop (mkF m 151 #[.val (.int p0), .val (.long p1), .second, .val (.long p2), .second, .val (.long p3), .second, .val (.int sv), .val (.int pv), .val (.int av), .val (.int bv), .val (.ref b1), .val (.int rx), .val (.int R2), .val (.int R3), .val (.int x15), .unset, .unset, .unset, .unset] [(.long (9223372036854775807 : Int64)), (.long p1)]))
      refine own_up (fun _ k => XS.lcmp Xt16.here hx rfl (hb hby at_151) rfl k) ?_
      show own_Go p.tables e below _ (Tt16.setTop (mkF m 152 #[.val (.int p0), .val (.long p1), .second, .val (.long p2), .second, .val (.long p3), .second, .val (.int sv), .val (.int pv), .val (.int av), .val (.int bv), .val (.ref b1), .val (.int rx), .val (.int R2), .val (.int R3), .val (.int x15), .unset, .unset, .unset, .unset] [(.int (lcmpW p1 (9223372036854775807 : Int64)))]))
      by_cases m1 : p1 < (9223372036854775807 : Int64)
      ·
        refine own_up (fun _ k => XS.ifNo Xt16.here hx rfl (hb hby at_152) rfl ((if0 _ _).trans (tlt ((lw_lt _ _).mpr m1)).2.1) k) ?_
        show own_Go p.tables e below _ (Tt16.setTop (mkF m 155 #[.val (.int p0), .val (.long p1), .second, .val (.long p2), .second, .val (.long p3), .second, .val (.int sv), .val (.int pv), .val (.int av), .val (.int bv), .val (.ref b1), .val (.int rx), .val (.int R2), .val (.int R3), .val (.int x15), .unset, .unset, .unset, .unset] []))
        refine own_up (fun _ k => XS.iload Xt16.here hx rfl (hb hby at_155) rfl k) ?_
        show own_Go p.tables e below _ (Tt16.setTop (mkF m 157 #[.val (.int p0), .val (.long p1), .second, .val (.long p2), .second, .val (.long p3), .second, .val (.int sv), .val (.int pv), .val (.int av), .val (.int bv), .val (.ref b1), .val (.int rx), .val (.int R2), .val (.int R3), .val (.int x15), .unset, .unset, .unset, .unset] [(.int pv)]))
        refine own_up (fun _ k => XS.goto Xt16.here hx rfl (pc0 := 157) (pc' := 161) rfl (hb hby at_157) (by decide) (by decide) k) ?_
        show own_Go p.tables e below _ (Tt16.setTop (mkF m 161 #[.val (.int p0), .val (.long p1), .second, .val (.long p2), .second, .val (.long p3), .second, .val (.int sv), .val (.int pv), .val (.int av), .val (.int bv), .val (.ref b1), .val (.int rx), .val (.int R2), .val (.int R3), .val (.int x15), .unset, .unset, .unset, .unset] [(.int pv)]))
        refine own_up (fun _ k => XS.istore Xt16.here hx rfl (hb hby at_161) rfl (l' := #[.val (.int p0), .val (.long p1), .second, .val (.long p2), .second, .val (.long p3), .second, .val (.int sv), .val (.int pv), .val (.int av), .val (.int bv), .val (.ref b1), .val (.int rx), .val (.int R2), .val (.int R3), .val (.int x15), .val (.int pv), .unset, .unset, .unset]) rfl k) ?_
        show own_Go p.tables e below _ (Tt16.setTop (mkF m 163 #[.val (.int p0), .val (.long p1), .second, .val (.long p2), .second, .val (.long p3), .second, .val (.int sv), .val (.int pv), .val (.int av), .val (.int bv), .val (.ref b1), .val (.int rx), .val (.int R2), .val (.int R3), .val (.int x15), .val (.int pv), .unset, .unset, .unset] []))
        exact t163 Tt16 _ Xt16 et16 Nt16 x15 pv h15 ((if_pos m1).symm)
      ·
        refine own_up (fun _ k => XS.ifYes Xt16.here hx rfl (pc0 := 152) (pc' := 160) rfl (hb hby at_152) rfl ((if0 _ _).trans (flt (fun q => m1 ((lw_lt _ _).mp q))).2.1) (by decide) (by decide) k) ?_
        show own_Go p.tables e below _ (Tt16.setTop (mkF m 160 #[.val (.int p0), .val (.long p1), .second, .val (.long p2), .second, .val (.long p3), .second, .val (.int sv), .val (.int pv), .val (.int av), .val (.int bv), .val (.ref b1), .val (.int rx), .val (.int R2), .val (.int R3), .val (.int x15), .unset, .unset, .unset, .unset] []))
        refine own_up (fun _ k => XS.iconst Xt16.here hx rfl (hb hby at_160) k) ?_
        show own_Go p.tables e below _ (Tt16.setTop (mkF m 161 #[.val (.int p0), .val (.long p1), .second, .val (.long p2), .second, .val (.long p3), .second, .val (.int sv), .val (.int pv), .val (.int av), .val (.int bv), .val (.ref b1), .val (.int rx), .val (.int R2), .val (.int R3), .val (.int x15), .unset, .unset, .unset, .unset] [(.int (0 : Int32))]))
        refine own_up (fun _ k => XS.istore Xt16.here hx rfl (hb hby at_161) rfl (l' := #[.val (.int p0), .val (.long p1), .second, .val (.long p2), .second, .val (.long p3), .second, .val (.int sv), .val (.int pv), .val (.int av), .val (.int bv), .val (.ref b1), .val (.int rx), .val (.int R2), .val (.int R3), .val (.int x15), .val (.int (0 : Int32)), .unset, .unset, .unset]) rfl k) ?_
        show own_Go p.tables e below _ (Tt16.setTop (mkF m 163 #[.val (.int p0), .val (.long p1), .second, .val (.long p2), .second, .val (.long p3), .second, .val (.int sv), .val (.int pv), .val (.int av), .val (.int bv), .val (.ref b1), .val (.int rx), .val (.int R2), .val (.int R3), .val (.int x15), .val (.int (0 : Int32)), .unset, .unset, .unset] []))
        exact t163 Tt16 _ Xt16 et16 Nt16 x15 (0 : Int32) h15 ((if_neg m1).symm)
    refine own_up (fun _ k => XS.lloadN X6.here hx rfl (hb hby at_127) rfl k) ?_
    show own_Go p.tables e below _ (T6.setTop (mkF m 128 #[.val (.int p0), .val (.long p1), .second, .val (.long p2), .second, .val (.long p3), .second, .val (.int sv), .val (.int pv), .val (.int av), .val (.int bv), .val (.ref b1), .val (.int rx), .val (.int R2), .val (.int R3), .unset, .unset, .unset, .unset, .unset] [(.long p1)]))
    refine own_up (fun _ k => X6.ldc2Long hx hown (mvT hZ (hw _ (List.mem_of_getElem? (i := 33) rfl))) (g := (mkF m 128 #[.val (.int p0), .val (.long p1), .second, .val (.long p2), .second, .val (.long p3), .second, .val (.int sv), .val (.int pv), .val (.int av), .val (.int bv), .val (.ref b1), .val (.int rx), .val (.int R2), .val (.int R3), .unset, .unset, .unset, .unset, .unset] [(.long p1)])) rfl (hb hby at_128) _ k) ?_
    show own_Go p.tables e below _ (T6.setTop (mkF m 131 #[.val (.int p0), .val (.long p1), .second, .val (.long p2), .second, .val (.long p3), .second, .val (.int sv), .val (.int pv), .val (.int av), .val (.int bv), .val (.ref b1), .val (.int rx), .val (.int R2), .val (.int R3), .unset, .unset, .unset, .unset, .unset] [(.long (9223372036854775807 : Int64)), (.long p1)]))
    refine own_up (fun _ k => XS.lcmp X6.here hx rfl (hb hby at_131) rfl k) ?_
    show own_Go p.tables e below _ (T6.setTop (mkF m 132 #[.val (.int p0), .val (.long p1), .second, .val (.long p2), .second, .val (.long p3), .second, .val (.int sv), .val (.int pv), .val (.int av), .val (.int bv), .val (.ref b1), .val (.int rx), .val (.int R2), .val (.int R3), .unset, .unset, .unset, .unset, .unset] [(.int (lcmpW p1 (9223372036854775807 : Int64)))]))
    by_cases m1 : p1 = (9223372036854775807 : Int64)
    ·
      refine own_up (fun _ k => XS.ifNo X6.here hx rfl (hb hby at_132) rfl ((if0 _ _).trans (teq ((lw_eq _ _).mpr m1)).2) k) ?_
      show own_Go p.tables e below _ (T6.setTop (mkF m 135 #[.val (.int p0), .val (.long p1), .second, .val (.long p2), .second, .val (.long p3), .second, .val (.int sv), .val (.int pv), .val (.int av), .val (.int bv), .val (.ref b1), .val (.int rx), .val (.int R2), .val (.int R3), .unset, .unset, .unset, .unset, .unset] []))
      refine own_up (fun _ k => XS.iload X6.here hx rfl (hb hby at_135) rfl k) ?_
      show own_Go p.tables e below _ (T6.setTop (mkF m 137 #[.val (.int p0), .val (.long p1), .second, .val (.long p2), .second, .val (.long p3), .second, .val (.int sv), .val (.int pv), .val (.int av), .val (.int bv), .val (.ref b1), .val (.int rx), .val (.int R2), .val (.int R3), .unset, .unset, .unset, .unset, .unset] [(.int sv)]))
      by_cases m2 : sv = (0 : Int32)
      ·
        refine own_up (fun _ k => XS.ifNo X6.here hx rfl (hb hby at_137) rfl ((if0 _ _).trans (teq m2).2) k) ?_
        show own_Go p.tables e below _ (T6.setTop (mkF m 140 #[.val (.int p0), .val (.long p1), .second, .val (.long p2), .second, .val (.long p3), .second, .val (.int sv), .val (.int pv), .val (.int av), .val (.int bv), .val (.ref b1), .val (.int rx), .val (.int R2), .val (.int R3), .unset, .unset, .unset, .unset, .unset] []))
        refine own_up (fun _ k => XS.iconst X6.here hx rfl (hb hby at_140) k) ?_
        show own_Go p.tables e below _ (T6.setTop (mkF m 141 #[.val (.int p0), .val (.long p1), .second, .val (.long p2), .second, .val (.long p3), .second, .val (.int sv), .val (.int pv), .val (.int av), .val (.int bv), .val (.ref b1), .val (.int rx), .val (.int R2), .val (.int R3), .unset, .unset, .unset, .unset, .unset] [(.int (1 : Int32))]))
        refine own_up (fun _ k => XS.goto X6.here hx rfl (pc0 := 141) (pc' := 145) rfl (hb hby at_141) (by decide) (by decide) k) ?_
        show own_Go p.tables e below _ (T6.setTop (mkF m 145 #[.val (.int p0), .val (.long p1), .second, .val (.long p2), .second, .val (.long p3), .second, .val (.int sv), .val (.int pv), .val (.int av), .val (.int bv), .val (.ref b1), .val (.int rx), .val (.int R2), .val (.int R3), .unset, .unset, .unset, .unset, .unset] [(.int (1 : Int32))]))
        refine own_up (fun _ k => XS.istore X6.here hx rfl (hb hby at_145) rfl (l' := #[.val (.int p0), .val (.long p1), .second, .val (.long p2), .second, .val (.long p3), .second, .val (.int sv), .val (.int pv), .val (.int av), .val (.int bv), .val (.ref b1), .val (.int rx), .val (.int R2), .val (.int R3), .val (.int (1 : Int32)), .unset, .unset, .unset, .unset]) rfl k) ?_
        show own_Go p.tables e below _ (T6.setTop (mkF m 147 #[.val (.int p0), .val (.long p1), .second, .val (.long p2), .second, .val (.long p3), .second, .val (.int sv), .val (.int pv), .val (.int av), .val (.int bv), .val (.ref b1), .val (.int rx), .val (.int R2), .val (.int R3), .val (.int (1 : Int32)), .unset, .unset, .unset, .unset] []))
        exact t147 T6 _ X6 rfl N6 (1 : Int32) (by rw [hrx, if_pos ⟨m1, m2⟩])
      ·
        refine own_up (fun _ k => XS.ifYes X6.here hx rfl (pc0 := 137) (pc' := 144) rfl (hb hby at_137) rfl ((if0 _ _).trans (feq m2).2) (by decide) (by decide) k) ?_
        show own_Go p.tables e below _ (T6.setTop (mkF m 144 #[.val (.int p0), .val (.long p1), .second, .val (.long p2), .second, .val (.long p3), .second, .val (.int sv), .val (.int pv), .val (.int av), .val (.int bv), .val (.ref b1), .val (.int rx), .val (.int R2), .val (.int R3), .unset, .unset, .unset, .unset, .unset] []))
        refine own_up (fun _ k => XS.iconst X6.here hx rfl (hb hby at_144) k) ?_
        show own_Go p.tables e below _ (T6.setTop (mkF m 145 #[.val (.int p0), .val (.long p1), .second, .val (.long p2), .second, .val (.long p3), .second, .val (.int sv), .val (.int pv), .val (.int av), .val (.int bv), .val (.ref b1), .val (.int rx), .val (.int R2), .val (.int R3), .unset, .unset, .unset, .unset, .unset] [(.int (0 : Int32))]))
        refine own_up (fun _ k => XS.istore X6.here hx rfl (hb hby at_145) rfl (l' := #[.val (.int p0), .val (.long p1), .second, .val (.long p2), .second, .val (.long p3), .second, .val (.int sv), .val (.int pv), .val (.int av), .val (.int bv), .val (.ref b1), .val (.int rx), .val (.int R2), .val (.int R3), .val (.int (0 : Int32)), .unset, .unset, .unset, .unset]) rfl k) ?_
        show own_Go p.tables e below _ (T6.setTop (mkF m 147 #[.val (.int p0), .val (.long p1), .second, .val (.long p2), .second, .val (.long p3), .second, .val (.int sv), .val (.int pv), .val (.int av), .val (.int bv), .val (.ref b1), .val (.int rx), .val (.int R2), .val (.int R3), .val (.int (0 : Int32)), .unset, .unset, .unset, .unset] []))
        exact t147 T6 _ X6 rfl N6 (0 : Int32) (by rw [hrx, if_neg (fun q => m2 q.2)])
    ·
      refine own_up (fun _ k => XS.ifYes X6.here hx rfl (pc0 := 132) (pc' := 144) rfl (hb hby at_132) rfl ((if0 _ _).trans (feq (fun q => m1 ((lw_eq _ _).mp q))).2) (by decide) (by decide) k) ?_
      show own_Go p.tables e below _ (T6.setTop (mkF m 144 #[.val (.int p0), .val (.long p1), .second, .val (.long p2), .second, .val (.long p3), .second, .val (.int sv), .val (.int pv), .val (.int av), .val (.int bv), .val (.ref b1), .val (.int rx), .val (.int R2), .val (.int R3), .unset, .unset, .unset, .unset, .unset] []))
      refine own_up (fun _ k => XS.iconst X6.here hx rfl (hb hby at_144) k) ?_
      show own_Go p.tables e below _ (T6.setTop (mkF m 145 #[.val (.int p0), .val (.long p1), .second, .val (.long p2), .second, .val (.long p3), .second, .val (.int sv), .val (.int pv), .val (.int av), .val (.int bv), .val (.ref b1), .val (.int rx), .val (.int R2), .val (.int R3), .unset, .unset, .unset, .unset, .unset] [(.int (0 : Int32))]))
      refine own_up (fun _ k => XS.istore X6.here hx rfl (hb hby at_145) rfl (l' := #[.val (.int p0), .val (.long p1), .second, .val (.long p2), .second, .val (.long p3), .second, .val (.int sv), .val (.int pv), .val (.int av), .val (.int bv), .val (.ref b1), .val (.int rx), .val (.int R2), .val (.int R3), .val (.int (0 : Int32)), .unset, .unset, .unset, .unset]) rfl k) ?_
      show own_Go p.tables e below _ (T6.setTop (mkF m 147 #[.val (.int p0), .val (.long p1), .second, .val (.long p2), .second, .val (.long p3), .second, .val (.int sv), .val (.int pv), .val (.int av), .val (.int bv), .val (.ref b1), .val (.int rx), .val (.int R2), .val (.int R3), .val (.int (0 : Int32)), .unset, .unset, .unset, .unset] []))
      exact t147 T6 _ X6 rfl N6 (0 : Int32) (by rw [hrx, if_neg (fun q => m1 q.1)])
  have t86 : ∀ (Tt17 : State) (Lt17 : List Loc) (Xt17 : Stand p l e room_1 s m #[(.int p0), (.long p1), (.long p2), (.long p3)] below meth c Tt17 Lt17 4 10) (ht17 : Heap) (et17 : Tt17.heap = ht17) (Nt17 : Fr n0 Lt17) (rx : Int32) (fb : Addr) (kb : ClassId) (r0 : Int64) (g0 : Int64) (sE : Exa Z ht17 b1 "com/example/rondel/rondel/Simulator$Settling") (sW : Fld Z ht17 b1 "com/example/rondel/rondel/Simulator$Settling" "fewestWrong" "J" (.long p1)) (sS : Fld Z ht17 b1 "com/example/rondel/rondel/Simulator$Settling" "stallRounds" "I" (.int sv)) (sR : Fld Z ht17 b1 "com/example/rondel/rondel/Simulator$Settling" "rounds" "[J" (.ref ra_2)) (sA : Fld Z ht17 b1 "com/example/rondel/rondel/Simulator$Settling" "roundsAtFewest" "[J" (.ref fb)) (sV : Arv Z ht17 ra_2 kr_2 .long (2 : Int32) [(.long r0), (.long (0 : Int64))] (.long (0 : Int64))) (sU : Arv Z ht17 fb kb .long (2 : Int32) [(.long g0), (.long (0 : Int64))] (.long (0 : Int64))) (sJ : Exa Z ht17 ra_2 "[J") (fG : n0 ≤ fb) (fN : b1 ≠ fb) (fM : ra_2 ≠ fb) (Zt17 : n0 ≤ ht17.size) (hr0 : r0 = (pv + av).toInt64) (hg0 : g0 = ((if p1 < (9223372036854775807 : Int64) then pv else 0)).toInt64) (hrx : rx = if p1 = (9223372036854775807 : Int64) ∧ sv = 0 then 1 else 0), own_Go p.tables e below (fun u o => ∃ v L, o = .returned v ∧ Q_rm0 Z p0 p1 p2 p3 h0 n0 v u.heap L ∧ FrameEnd s o u L room_1.cells room_1.slots) (Tt17.setTop (mkF m 86 #[.val (.int p0), .val (.long p1), .second, .val (.long p2), .second, .val (.long p3), .second, .val (.int sv), .val (.int pv), .val (.int av), .val (.int bv), .val (.ref b1), .val (.int rx), .unset, .unset, .unset, .unset, .unset, .unset, .unset] [])) := by
    intro Tt17 Lt17 Xt17 ht17 et17 Nt17 rx fb kb r0 g0 sE sW sS sR sA sV sU sJ fG fN fM Zt17 hr0 hg0 hrx
    rcases own_012 bbv with hz | hz | hz
    ·
      refine own_up (fun _ k => XS.iload Xt17.here hx rfl (hb hby at_86) rfl k) ?_
      show own_Go p.tables e below _ (Tt17.setTop (mkF m 88 #[.val (.int p0), .val (.long p1), .second, .val (.long p2), .second, .val (.long p3), .second, .val (.int sv), .val (.int pv), .val (.int av), .val (.int bv), .val (.ref b1), .val (.int rx), .unset, .unset, .unset, .unset, .unset, .unset, .unset] [(.int bv)]))
      refine own_up (fun _ k => XS.iconst Xt17.here hx rfl (hb hby at_88) k) ?_
      show own_Go p.tables e below _ (Tt17.setTop (mkF m 89 #[.val (.int p0), .val (.long p1), .second, .val (.long p2), .second, .val (.long p3), .second, .val (.int sv), .val (.int pv), .val (.int av), .val (.int bv), .val (.ref b1), .val (.int rx), .unset, .unset, .unset, .unset, .unset, .unset, .unset] [(.int (1 : Int32)), (.int bv)]))
      refine own_up (fun _ k => XS.icmpYes Xt17.here hx rfl (pc0 := 89) (pc' := 98) rfl (hb hby at_89) rfl (tlt (by rw [hz]; decide)).1 (by decide) (by decide) k) ?_
      show own_Go p.tables e below _ (Tt17.setTop (mkF m 98 #[.val (.int p0), .val (.long p1), .second, .val (.long p2), .second, .val (.long p3), .second, .val (.int sv), .val (.int pv), .val (.int av), .val (.int bv), .val (.ref b1), .val (.int rx), .unset, .unset, .unset, .unset, .unset, .unset, .unset] []))
      refine own_up (fun _ k => XS.iload Xt17.here hx rfl (hb hby at_98) rfl k) ?_
      show own_Go p.tables e below _ (Tt17.setTop (mkF m 100 #[.val (.int p0), .val (.long p1), .second, .val (.long p2), .second, .val (.long p3), .second, .val (.int sv), .val (.int pv), .val (.int av), .val (.int bv), .val (.ref b1), .val (.int rx), .unset, .unset, .unset, .unset, .unset, .unset, .unset] [(.int bv)]))
      refine own_up (fun _ k => XS.iconst Xt17.here hx rfl (hb hby at_100) k) ?_
      show own_Go p.tables e below _ (Tt17.setTop (mkF m 101 #[.val (.int p0), .val (.long p1), .second, .val (.long p2), .second, .val (.long p3), .second, .val (.int sv), .val (.int pv), .val (.int av), .val (.int bv), .val (.ref b1), .val (.int rx), .unset, .unset, .unset, .unset, .unset, .unset, .unset] [(.int (2 : Int32)), (.int bv)]))
      refine own_up (fun _ k => XS.icmpYes Xt17.here hx rfl (pc0 := 101) (pc' := 110) rfl (hb hby at_101) rfl (tlt (by rw [hz]; decide)).1 (by decide) (by decide) k) ?_
      show own_Go p.tables e below _ (Tt17.setTop (mkF m 110 #[.val (.int p0), .val (.long p1), .second, .val (.long p2), .second, .val (.long p3), .second, .val (.int sv), .val (.int pv), .val (.int av), .val (.int bv), .val (.ref b1), .val (.int rx), .unset, .unset, .unset, .unset, .unset, .unset, .unset] []))
      exact t110 Tt17 _ Xt17 ht17 et17 Nt17 rx fb kb r0 (0 : Int64) g0 sE sW sS sR sA sV sU sJ fG fN fM Zt17 hr0 (by rw [hz]; decide) hg0 hrx
    ·
      refine own_up (fun _ k => XS.iload Xt17.here hx rfl (hb hby at_86) rfl k) ?_
      show own_Go p.tables e below _ (Tt17.setTop (mkF m 88 #[.val (.int p0), .val (.long p1), .second, .val (.long p2), .second, .val (.long p3), .second, .val (.int sv), .val (.int pv), .val (.int av), .val (.int bv), .val (.ref b1), .val (.int rx), .unset, .unset, .unset, .unset, .unset, .unset, .unset] [(.int bv)]))
      refine own_up (fun _ k => XS.iconst Xt17.here hx rfl (hb hby at_88) k) ?_
      show own_Go p.tables e below _ (Tt17.setTop (mkF m 89 #[.val (.int p0), .val (.long p1), .second, .val (.long p2), .second, .val (.long p3), .second, .val (.int sv), .val (.int pv), .val (.int av), .val (.int bv), .val (.ref b1), .val (.int rx), .unset, .unset, .unset, .unset, .unset, .unset, .unset] [(.int (1 : Int32)), (.int bv)]))
      refine own_up (fun _ k => XS.icmpNo Xt17.here hx rfl (hb hby at_89) rfl (flt (by rw [hz]; decide)).1 k) ?_
      show own_Go p.tables e below _ (Tt17.setTop (mkF m 92 #[.val (.int p0), .val (.long p1), .second, .val (.long p2), .second, .val (.long p3), .second, .val (.int sv), .val (.int pv), .val (.int av), .val (.int bv), .val (.ref b1), .val (.int rx), .unset, .unset, .unset, .unset, .unset, .unset, .unset] []))
      refine own_up (fun _ k => XS.aload Xt17.here hx rfl (hb hby at_92) rfl rfl k) ?_
      show own_Go p.tables e below _ (Tt17.setTop (mkF m 94 #[.val (.int p0), .val (.long p1), .second, .val (.long p2), .second, .val (.long p3), .second, .val (.int sv), .val (.int pv), .val (.int av), .val (.int bv), .val (.ref b1), .val (.int rx), .unset, .unset, .unset, .unset, .unset, .unset, .unset] [(.ref b1)]))
      refine own_up (fun _ k => XS.iconst Xt17.here hx rfl (hb hby at_94) k) ?_
      show own_Go p.tables e below _ (Tt17.setTop (mkF m 95 #[.val (.int p0), .val (.long p1), .second, .val (.long p2), .second, .val (.long p3), .second, .val (.int sv), .val (.int pv), .val (.int av), .val (.int bv), .val (.ref b1), .val (.int rx), .unset, .unset, .unset, .unset, .unset, .unset, .unset] [(.int (1 : Int32)), (.ref b1)]))
      obtain ⟨cq18, kq18, q18a, q18b, q18c⟩ := isOf hZ et17 sE
      obtain ⟨_, _, ⟨T18, L18, k18, n18⟩, -, X18, ⟨Lc18, hQ18, l18, y18, z18⟩, st18⟩ := Xt17.virtualBack hx (y := (⟨"com/example/rondel/rondel/Simulator$Settling", "ranRound", "(I)V"⟩ : MethodName)) (z := (⟨"com/example/rondel/rondel/Simulator$Settling", "ranRound", "(I)V"⟩ : MethodName)) hown (mvT hZ (hw _ (List.mem_of_getElem? (i := 38) rfl))) (mvT hZ (hw _ (List.mem_of_getElem? (i := 39) rfl))) (notFace_of_selects (args := #[]) (mvT hZ (hw _ (List.mem_of_getElem? (i := 41) rfl)))) (mvT hZ (hw _ (List.mem_of_getElem? (i := 41) rfl))) (mvT hZ (hw _ (List.mem_of_getElem? (i := 40) rfl))) (by decide) (backOf (W := 0) (rm2_1 l Z a0 hw [] b1 ra_2 kr_2 r0 (0 : Int64) ht17 n0 Zt17 sR sV P2_0) hZ (hw _ (List.mem_of_getElem? (i := 42) rfl)) (hw _ (List.mem_of_getElem? (i := 2) rfl)) (by decide) (by decide)) q18a q18c (g := (mkF m 95 #[.val (.int p0), .val (.long p1), .second, .val (.long p2), .second, .val (.long p3), .second, .val (.int sv), .val (.int pv), .val (.int av), .val (.int bv), .val (.ref b1), .val (.int rx), .unset, .unset, .unset, .unset, .unset, .unset, .unset] [(.int (1 : Int32)), (.ref b1)])) rfl (by rw [hml]; rfl) (Steps.refl _) (argsL := [(.int (1 : Int32))]) (rest := []) (lenOf own_pd3 rfl) rfl (by show 2 * 0 + _ ≤ _; exact Nat.le_of_eq rfl) (hb hby at_95) (fun _ _ => ⟨rfl, et17, (by decide : 4 + 0 ≤ _), (by decide : 10 + 0 ≤ _)⟩)
      dsimp only [Pt.U, Pt.locs, Pt.cells, Pt.slots] at X18 l18 y18 z18 st18 hQ18
      subst l18 y18 z18
      obtain ⟨rfl, N18q, K18, P18_0⟩ := hQ18
      have N18 := Fr.app Nt17 N18q
      refine own_up (fun _ k => st18.trans k) ?_
      show own_Go p.tables e below _ (T18.setTop (mkF m 98 #[.val (.int p0), .val (.long p1), .second, .val (.long p2), .second, .val (.long p3), .second, .val (.int sv), .val (.int pv), .val (.int av), .val (.int bv), .val (.ref b1), .val (.int rx), .unset, .unset, .unset, .unset, .unset, .unset, .unset] []))
      refine own_up (fun _ k => XS.iload X18.here hx rfl (hb hby at_98) rfl k) ?_
      show own_Go p.tables e below _ (T18.setTop (mkF m 100 #[.val (.int p0), .val (.long p1), .second, .val (.long p2), .second, .val (.long p3), .second, .val (.int sv), .val (.int pv), .val (.int av), .val (.int bv), .val (.ref b1), .val (.int rx), .unset, .unset, .unset, .unset, .unset, .unset, .unset] [(.int bv)]))
      refine own_up (fun _ k => XS.iconst X18.here hx rfl (hb hby at_100) k) ?_
      show own_Go p.tables e below _ (T18.setTop (mkF m 101 #[.val (.int p0), .val (.long p1), .second, .val (.long p2), .second, .val (.long p3), .second, .val (.int sv), .val (.int pv), .val (.int av), .val (.int bv), .val (.ref b1), .val (.int rx), .unset, .unset, .unset, .unset, .unset, .unset, .unset] [(.int (2 : Int32)), (.int bv)]))
      refine own_up (fun _ k => XS.icmpYes X18.here hx rfl (pc0 := 101) (pc' := 110) rfl (hb hby at_101) rfl (tlt (by rw [hz]; decide)).1 (by decide) (by decide) k) ?_
      show own_Go p.tables e below _ (T18.setTop (mkF m 110 #[.val (.int p0), .val (.long p1), .second, .val (.long p2), .second, .val (.long p3), .second, .val (.int sv), .val (.int pv), .val (.int av), .val (.int bv), .val (.ref b1), .val (.int rx), .unset, .unset, .unset, .unset, .unset, .unset, .unset] []))
      have f19 : Exa Z T18.heap b1 "com/example/rondel/rondel/Simulator$Settling" := (sE.keep K18)
      have f20 : Fld Z T18.heap b1 "com/example/rondel/rondel/Simulator$Settling" "fewestWrong" "J" (.long p1) := (sW.keep K18 (ninS P2_2 nin0))
      have f21 : Fld Z T18.heap b1 "com/example/rondel/rondel/Simulator$Settling" "stallRounds" "I" (.int sv) := (sS.keep K18 (ninS P2_2 nin0))
      have f22 : Fld Z T18.heap b1 "com/example/rondel/rondel/Simulator$Settling" "rounds" "[J" (.ref ra_2) := (sR.keep K18 (ninS P2_2 nin0))
      have f23 : Fld Z T18.heap b1 "com/example/rondel/rondel/Simulator$Settling" "roundsAtFewest" "[J" (.ref fb) := (sA.keep K18 (ninS P2_2 nin0))
      have f24 : Arv Z T18.heap fb kb .long (2 : Int32) [(.long g0), (.long (0 : Int64))] (.long (0 : Int64)) := (sU.keep K18 (ninS (Ne.symm fM) nin0))
      have f25 : Exa Z T18.heap ra_2 "[J" := (sJ.keep K18)
      have f26 : n0 ≤ T18.heap.size := (Nat.le_trans Zt17 K18.1)
      exact t110 T18 _ X18 T18.heap rfl N18 rx fb kb r0 ((0 : Int64) + (1 : Int64)) g0 f19 f20 f21 f22 f23 P18_0 f24 f25 fG fN fM f26 hr0 (by rw [hz]; decide) hg0 hrx
    ·
      refine own_up (fun _ k => XS.iload Xt17.here hx rfl (hb hby at_86) rfl k) ?_
      show own_Go p.tables e below _ (Tt17.setTop (mkF m 88 #[.val (.int p0), .val (.long p1), .second, .val (.long p2), .second, .val (.long p3), .second, .val (.int sv), .val (.int pv), .val (.int av), .val (.int bv), .val (.ref b1), .val (.int rx), .unset, .unset, .unset, .unset, .unset, .unset, .unset] [(.int bv)]))
      refine own_up (fun _ k => XS.iconst Xt17.here hx rfl (hb hby at_88) k) ?_
      show own_Go p.tables e below _ (Tt17.setTop (mkF m 89 #[.val (.int p0), .val (.long p1), .second, .val (.long p2), .second, .val (.long p3), .second, .val (.int sv), .val (.int pv), .val (.int av), .val (.int bv), .val (.ref b1), .val (.int rx), .unset, .unset, .unset, .unset, .unset, .unset, .unset] [(.int (1 : Int32)), (.int bv)]))
      refine own_up (fun _ k => XS.icmpNo Xt17.here hx rfl (hb hby at_89) rfl (flt (by rw [hz]; decide)).1 k) ?_
      show own_Go p.tables e below _ (Tt17.setTop (mkF m 92 #[.val (.int p0), .val (.long p1), .second, .val (.long p2), .second, .val (.long p3), .second, .val (.int sv), .val (.int pv), .val (.int av), .val (.int bv), .val (.ref b1), .val (.int rx), .unset, .unset, .unset, .unset, .unset, .unset, .unset] []))
      refine own_up (fun _ k => XS.aload Xt17.here hx rfl (hb hby at_92) rfl rfl k) ?_
      show own_Go p.tables e below _ (Tt17.setTop (mkF m 94 #[.val (.int p0), .val (.long p1), .second, .val (.long p2), .second, .val (.long p3), .second, .val (.int sv), .val (.int pv), .val (.int av), .val (.int bv), .val (.ref b1), .val (.int rx), .unset, .unset, .unset, .unset, .unset, .unset, .unset] [(.ref b1)]))
      refine own_up (fun _ k => XS.iconst Xt17.here hx rfl (hb hby at_94) k) ?_
      show own_Go p.tables e below _ (Tt17.setTop (mkF m 95 #[.val (.int p0), .val (.long p1), .second, .val (.long p2), .second, .val (.long p3), .second, .val (.int sv), .val (.int pv), .val (.int av), .val (.int bv), .val (.ref b1), .val (.int rx), .unset, .unset, .unset, .unset, .unset, .unset, .unset] [(.int (1 : Int32)), (.ref b1)]))
      obtain ⟨cq27, kq27, q27a, q27b, q27c⟩ := isOf hZ et17 sE
      obtain ⟨_, _, ⟨T27, L27, k27, n27⟩, -, X27, ⟨Lc27, hQ27, l27, y27, z27⟩, st27⟩ := Xt17.virtualBack hx (y := (⟨"com/example/rondel/rondel/Simulator$Settling", "ranRound", "(I)V"⟩ : MethodName)) (z := (⟨"com/example/rondel/rondel/Simulator$Settling", "ranRound", "(I)V"⟩ : MethodName)) hown (mvT hZ (hw _ (List.mem_of_getElem? (i := 38) rfl))) (mvT hZ (hw _ (List.mem_of_getElem? (i := 39) rfl))) (notFace_of_selects (args := #[]) (mvT hZ (hw _ (List.mem_of_getElem? (i := 41) rfl)))) (mvT hZ (hw _ (List.mem_of_getElem? (i := 41) rfl))) (mvT hZ (hw _ (List.mem_of_getElem? (i := 40) rfl))) (by decide) (backOf (W := 0) (rm2_1 l Z a0 hw [] b1 ra_2 kr_2 r0 (0 : Int64) ht17 n0 Zt17 sR sV P2_0) hZ (hw _ (List.mem_of_getElem? (i := 42) rfl)) (hw _ (List.mem_of_getElem? (i := 2) rfl)) (by decide) (by decide)) q27a q27c (g := (mkF m 95 #[.val (.int p0), .val (.long p1), .second, .val (.long p2), .second, .val (.long p3), .second, .val (.int sv), .val (.int pv), .val (.int av), .val (.int bv), .val (.ref b1), .val (.int rx), .unset, .unset, .unset, .unset, .unset, .unset, .unset] [(.int (1 : Int32)), (.ref b1)])) rfl (by rw [hml]; rfl) (Steps.refl _) (argsL := [(.int (1 : Int32))]) (rest := []) (lenOf own_pd3 rfl) rfl (by show 2 * 0 + _ ≤ _; exact Nat.le_of_eq rfl) (hb hby at_95) (fun _ _ => ⟨rfl, et17, (by decide : 4 + 0 ≤ _), (by decide : 10 + 0 ≤ _)⟩)
      dsimp only [Pt.U, Pt.locs, Pt.cells, Pt.slots] at X27 l27 y27 z27 st27 hQ27
      subst l27 y27 z27
      obtain ⟨rfl, N27q, K27, P27_0⟩ := hQ27
      have N27 := Fr.app Nt17 N27q
      refine own_up (fun _ k => st27.trans k) ?_
      show own_Go p.tables e below _ (T27.setTop (mkF m 98 #[.val (.int p0), .val (.long p1), .second, .val (.long p2), .second, .val (.long p3), .second, .val (.int sv), .val (.int pv), .val (.int av), .val (.int bv), .val (.ref b1), .val (.int rx), .unset, .unset, .unset, .unset, .unset, .unset, .unset] []))
      refine own_up (fun _ k => XS.iload X27.here hx rfl (hb hby at_98) rfl k) ?_
      show own_Go p.tables e below _ (T27.setTop (mkF m 100 #[.val (.int p0), .val (.long p1), .second, .val (.long p2), .second, .val (.long p3), .second, .val (.int sv), .val (.int pv), .val (.int av), .val (.int bv), .val (.ref b1), .val (.int rx), .unset, .unset, .unset, .unset, .unset, .unset, .unset] [(.int bv)]))
      refine own_up (fun _ k => XS.iconst X27.here hx rfl (hb hby at_100) k) ?_
      show own_Go p.tables e below _ (T27.setTop (mkF m 101 #[.val (.int p0), .val (.long p1), .second, .val (.long p2), .second, .val (.long p3), .second, .val (.int sv), .val (.int pv), .val (.int av), .val (.int bv), .val (.ref b1), .val (.int rx), .unset, .unset, .unset, .unset, .unset, .unset, .unset] [(.int (2 : Int32)), (.int bv)]))
      refine own_up (fun _ k => XS.icmpNo X27.here hx rfl (hb hby at_101) rfl (flt (by rw [hz]; decide)).1 k) ?_
      show own_Go p.tables e below _ (T27.setTop (mkF m 104 #[.val (.int p0), .val (.long p1), .second, .val (.long p2), .second, .val (.long p3), .second, .val (.int sv), .val (.int pv), .val (.int av), .val (.int bv), .val (.ref b1), .val (.int rx), .unset, .unset, .unset, .unset, .unset, .unset, .unset] []))
      refine own_up (fun _ k => XS.aload X27.here hx rfl (hb hby at_104) rfl rfl k) ?_
      show own_Go p.tables e below _ (T27.setTop (mkF m 106 #[.val (.int p0), .val (.long p1), .second, .val (.long p2), .second, .val (.long p3), .second, .val (.int sv), .val (.int pv), .val (.int av), .val (.int bv), .val (.ref b1), .val (.int rx), .unset, .unset, .unset, .unset, .unset, .unset, .unset] [(.ref b1)]))
      refine own_up (fun _ k => XS.iconst X27.here hx rfl (hb hby at_106) k) ?_
      show own_Go p.tables e below _ (T27.setTop (mkF m 107 #[.val (.int p0), .val (.long p1), .second, .val (.long p2), .second, .val (.long p3), .second, .val (.int sv), .val (.int pv), .val (.int av), .val (.int bv), .val (.ref b1), .val (.int rx), .unset, .unset, .unset, .unset, .unset, .unset, .unset] [(.int (1 : Int32)), (.ref b1)]))
      have f29 : Fld Z T27.heap b1 "com/example/rondel/rondel/Simulator$Settling" "rounds" "[J" (.ref ra_2) := (sR.keep K27 (ninS P2_2 nin0))
      have f30 : n0 ≤ T27.heap.size := (Nat.le_trans Zt17 K27.1)
      have f31 : Exa Z T27.heap b1 "com/example/rondel/rondel/Simulator$Settling" := (sE.keep K27)
      obtain ⟨cq28, kq28, q28a, q28b, q28c⟩ := isOf hZ rfl f31
      obtain ⟨_, _, ⟨T28, L28, k28, n28⟩, -, X28, ⟨Lc28, hQ28, l28, y28, z28⟩, st28⟩ := X27.virtualBack hx (y := (⟨"com/example/rondel/rondel/Simulator$Settling", "ranRound", "(I)V"⟩ : MethodName)) (z := (⟨"com/example/rondel/rondel/Simulator$Settling", "ranRound", "(I)V"⟩ : MethodName)) hown (mvT hZ (hw _ (List.mem_of_getElem? (i := 38) rfl))) (mvT hZ (hw _ (List.mem_of_getElem? (i := 39) rfl))) (notFace_of_selects (args := #[]) (mvT hZ (hw _ (List.mem_of_getElem? (i := 41) rfl)))) (mvT hZ (hw _ (List.mem_of_getElem? (i := 41) rfl))) (mvT hZ (hw _ (List.mem_of_getElem? (i := 40) rfl))) (by decide) (backOf (W := 0) (rm2_1 l Z a0 hw [] b1 ra_2 kr_2 r0 ((0 : Int64) + (1 : Int64)) T27.heap n0 f30 f29 P27_0 P2_0) hZ (hw _ (List.mem_of_getElem? (i := 42) rfl)) (hw _ (List.mem_of_getElem? (i := 2) rfl)) (by decide) (by decide)) q28a q28c (g := (mkF m 107 #[.val (.int p0), .val (.long p1), .second, .val (.long p2), .second, .val (.long p3), .second, .val (.int sv), .val (.int pv), .val (.int av), .val (.int bv), .val (.ref b1), .val (.int rx), .unset, .unset, .unset, .unset, .unset, .unset, .unset] [(.int (1 : Int32)), (.ref b1)])) rfl (by rw [hml]; rfl) (Steps.refl _) (argsL := [(.int (1 : Int32))]) (rest := []) (lenOf own_pd3 rfl) rfl (by show 2 * 0 + _ ≤ _; exact Nat.le_of_eq rfl) (hb hby at_107) (fun _ _ => ⟨rfl, rfl, (by decide : 4 + 0 ≤ _), (by decide : 10 + 0 ≤ _)⟩)
      dsimp only [Pt.U, Pt.locs, Pt.cells, Pt.slots] at X28 l28 y28 z28 st28 hQ28
      subst l28 y28 z28
      obtain ⟨rfl, N28q, K28, P28_0⟩ := hQ28
      have N28 := Fr.app N27 N28q
      refine own_up (fun _ k => st28.trans k) ?_
      show own_Go p.tables e below _ (T28.setTop (mkF m 110 #[.val (.int p0), .val (.long p1), .second, .val (.long p2), .second, .val (.long p3), .second, .val (.int sv), .val (.int pv), .val (.int av), .val (.int bv), .val (.ref b1), .val (.int rx), .unset, .unset, .unset, .unset, .unset, .unset, .unset] []))
      have f32 : Exa Z T28.heap b1 "com/example/rondel/rondel/Simulator$Settling" := (f31.keep K28)
      have f33 : Fld Z T28.heap b1 "com/example/rondel/rondel/Simulator$Settling" "fewestWrong" "J" (.long p1) := ((sW.keep K27 (ninS P2_2 nin0)).keep K28 (ninS P2_2 nin0))
      have f34 : Fld Z T28.heap b1 "com/example/rondel/rondel/Simulator$Settling" "stallRounds" "I" (.int sv) := ((sS.keep K27 (ninS P2_2 nin0)).keep K28 (ninS P2_2 nin0))
      have f35 : Fld Z T28.heap b1 "com/example/rondel/rondel/Simulator$Settling" "rounds" "[J" (.ref ra_2) := (f29.keep K28 (ninS P2_2 nin0))
      have f36 : Fld Z T28.heap b1 "com/example/rondel/rondel/Simulator$Settling" "roundsAtFewest" "[J" (.ref fb) := ((sA.keep K27 (ninS P2_2 nin0)).keep K28 (ninS P2_2 nin0))
      have f37 : Arv Z T28.heap fb kb .long (2 : Int32) [(.long g0), (.long (0 : Int64))] (.long (0 : Int64)) := ((sU.keep K27 (ninS (Ne.symm fM) nin0)).keep K28 (ninS (Ne.symm fM) nin0))
      have f38 : Exa Z T28.heap ra_2 "[J" := ((sJ.keep K27).keep K28)
      have f39 : n0 ≤ T28.heap.size := (Nat.le_trans f30 K28.1)
      exact t110 T28 _ X28 T28.heap rfl N28 rx fb kb r0 (((0 : Int64) + (1 : Int64)) + (1 : Int64)) g0 f32 f33 f34 f35 f36 P28_0 f37 f38 fG fN fM f39 hr0 (by rw [hz]; decide) hg0 hrx
  have t54 : ∀ (Tt40 : State) (Lt40 : List Loc) (Xt40 : Stand p l e room_1 s m #[(.int p0), (.long p1), (.long p2), (.long p3)] below meth c Tt40 Lt40 3 8) (ht40 : Heap) (et40 : Tt40.heap = ht40) (Nt40 : Fr n0 Lt40) (r0 : Int64) (sE : Exa Z ht40 b1 "com/example/rondel/rondel/Simulator$Settling") (sW : Fld Z ht40 b1 "com/example/rondel/rondel/Simulator$Settling" "fewestWrong" "J" (.long (9223372036854775807 : Int64))) (sS : Fld Z ht40 b1 "com/example/rondel/rondel/Simulator$Settling" "stallRounds" "I" (.int sv)) (sR : Fld Z ht40 b1 "com/example/rondel/rondel/Simulator$Settling" "rounds" "[J" (.ref ra_2)) (sA : Fld Z ht40 b1 "com/example/rondel/rondel/Simulator$Settling" "roundsAtFewest" "[J" (.ref fa_2)) (sV : Arv Z ht40 ra_2 kr_2 .long (2 : Int32) [(.long r0), (.long (0 : Int64))] (.long (0 : Int64))) (sU : Arv Z ht40 fa_2 kr_2 .long (2 : Int32) [(.long (0 : Int64)), (.long (0 : Int64))] (.long (0 : Int64))) (sJ : Exa Z ht40 ra_2 "[J") (Zt40 : n0 ≤ ht40.size) (hr0 : r0 = pv.toInt64), own_Go p.tables e below (fun u o => ∃ v L, o = .returned v ∧ Q_rm0 Z p0 p1 p2 p3 h0 n0 v u.heap L ∧ FrameEnd s o u L room_1.cells room_1.slots) (Tt40.setTop (mkF m 54 #[.val (.int p0), .val (.long p1), .second, .val (.long p2), .second, .val (.long p3), .second, .val (.int sv), .val (.int pv), .val (.int av), .val (.int bv), .val (.ref b1), .unset, .unset, .unset, .unset, .unset, .unset, .unset, .unset] [])) := by
    intro Tt40 Lt40 Xt40 ht40 et40 Nt40 r0 sE sW sS sR sA sV sU sJ Zt40 hr0
    refine own_up (fun _ k => XS.aload Xt40.here hx rfl (hb hby at_54) rfl rfl k) ?_
    show own_Go p.tables e below _ (Tt40.setTop (mkF m 56 #[.val (.int p0), .val (.long p1), .second, .val (.long p2), .second, .val (.long p3), .second, .val (.int sv), .val (.int pv), .val (.int av), .val (.int bv), .val (.ref b1), .unset, .unset, .unset, .unset, .unset, .unset, .unset, .unset] [(.ref b1)]))
    refine own_up (fun _ k => XS.lloadN Xt40.here hx rfl (hb hby at_56) rfl k) ?_
    show own_Go p.tables e below _ (Tt40.setTop (mkF m 57 #[.val (.int p0), .val (.long p1), .second, .val (.long p2), .second, .val (.long p3), .second, .val (.int sv), .val (.int pv), .val (.int av), .val (.int bv), .val (.ref b1), .unset, .unset, .unset, .unset, .unset, .unset, .unset, .unset] [(.long p1), (.ref b1)]))
    obtain ⟨cq41, kq41, q41a, q41b, q41c⟩ := isOf hZ et40 sE
    obtain ⟨_, _, ⟨T41, L41, k41, n41⟩, -, X41, ⟨Lc41, hQ41, l41, y41, z41⟩, st41⟩ := Xt40.virtualBack hx (y := (⟨"com/example/rondel/rondel/Simulator$Settling", "stalled", "(J)Z"⟩ : MethodName)) (z := (⟨"com/example/rondel/rondel/Simulator$Settling", "stalled", "(J)Z"⟩ : MethodName)) hown (mvT hZ (hw _ (List.mem_of_getElem? (i := 28) rfl))) (mvT hZ (hw _ (List.mem_of_getElem? (i := 29) rfl))) (notFace_of_selects (args := #[]) (mvT hZ (hw _ (List.mem_of_getElem? (i := 31) rfl)))) (mvT hZ (hw _ (List.mem_of_getElem? (i := 31) rfl))) (mvT hZ (hw _ (List.mem_of_getElem? (i := 30) rfl))) (by decide) (backOf (W := 0) (rm4 l Z a0 hw [] b1 p1 ra_2 fa_2 kr_2 kr_2 (9223372036854775807 : Int64) sv r0 (0 : Int64) (0 : Int64) (0 : Int64) ht40 n0 Zt40 sE sW sS sR sA sV sU sJ ge1 P2_1 P2_2 P2_3 P2_4) hZ (hw _ (List.mem_of_getElem? (i := 32) rfl)) (hw _ (List.mem_of_getElem? (i := 2) rfl)) (by decide) (by decide)) q41a q41c (g := (mkF m 57 #[.val (.int p0), .val (.long p1), .second, .val (.long p2), .second, .val (.long p3), .second, .val (.int sv), .val (.int pv), .val (.int av), .val (.int bv), .val (.ref b1), .unset, .unset, .unset, .unset, .unset, .unset, .unset, .unset] [(.long p1), (.ref b1)])) rfl (by rw [hml]; rfl) (Steps.refl _) (argsL := [(.long p1)]) (rest := []) (lenOf own_pd1 rfl) rfl (by show 2 * 0 + _ ≤ _; exact Nat.le_of_eq rfl) (hb hby at_57) (fun _ _ => ⟨rfl, et40, (by decide : 3 + 1 ≤ _), (by decide : 8 + 2 ≤ _)⟩)
    dsimp only [Pt.U, Pt.locs, Pt.cells, Pt.slots] at X41 l41 y41 z41 st41 hQ41
    subst l41 y41 z41
    obtain ⟨fb_41, kb_41, rfl, N41q, K41, P41_0, P41_1, P41_2, P41_3, P41_4, P41_5, P41_6, P41_7, P41_8⟩ := hQ41
    have N41 := Fr.app Nt40 N41q
    refine own_up (fun _ k => st41.trans k) ?_
    show own_Go p.tables e below _ (T41.setTop (mkF m 60 #[.val (.int p0), .val (.long p1), .second, .val (.long p2), .second, .val (.long p3), .second, .val (.int sv), .val (.int pv), .val (.int av), .val (.int bv), .val (.ref b1), .unset, .unset, .unset, .unset, .unset, .unset, .unset, .unset] [(.int (if p1 < (9223372036854775807 : Int64) then (0 : Int32) else if ¬ (r0 - (0 : Int64)) < sv.toInt64 ∧ ¬ ((0 : Int64) - (0 : Int64)) < sv.toInt64 then 1 else 0))]))
    obtain ⟨rx, hrx0⟩ : ∃ z, z = (if p1 < (9223372036854775807 : Int64) then (0 : Int32) else if ¬ (r0 - (0 : Int64)) < sv.toInt64 ∧ ¬ ((0 : Int64) - (0 : Int64)) < sv.toInt64 then 1 else 0) := ⟨_, rfl⟩
    rw [← hrx0]
    show own_Go p.tables e below _ (T41.setTop (mkF m 60 #[.val (.int p0), .val (.long p1), .second, .val (.long p2), .second, .val (.long p3), .second, .val (.int sv), .val (.int pv), .val (.int av), .val (.int bv), .val (.ref b1), .unset, .unset, .unset, .unset, .unset, .unset, .unset, .unset] [(.int rx)]))
    have hrx : rx = if p1 = (9223372036854775807 : Int64) ∧ sv = 0 then 1 else 0 := by
      rw [hrx0, own_R2 (own_first bsv.1 (by rw [hr0]; exact own_p64 bpv))]
      simp only [own_eqmax]
    have r42 : Fld Z T41.heap b1 "com/example/rondel/rondel/Simulator$Settling" "fewestWrong" "J" (.long p1) := (own_max p1 ▸ P41_4)
    obtain ⟨g0, hg00⟩ : ∃ z, z = (if p1 < (9223372036854775807 : Int64) then r0 else (0 : Int64)) := ⟨_, rfl⟩
    have r43 : Arv Z T41.heap fb_41 kb_41 .long (2 : Int32) [(.long g0), (.long (0 : Int64))] (.long (0 : Int64)) := (by have q := P41_8; rw [← hg00, ite_self] at q; exact q)
    have hg0 : g0 = ((if p1 < (9223372036854775807 : Int64) then pv else 0)).toInt64 := by rw [hg00, hr0]; split <;> first | rfl | decide
    refine own_up (fun _ k => XS.istore X41.here hx rfl (hb hby at_60) rfl (l' := #[.val (.int p0), .val (.long p1), .second, .val (.long p2), .second, .val (.long p3), .second, .val (.int sv), .val (.int pv), .val (.int av), .val (.int bv), .val (.ref b1), .val (.int rx), .unset, .unset, .unset, .unset, .unset, .unset, .unset]) rfl k) ?_
    show own_Go p.tables e below _ (T41.setTop (mkF m 62 #[.val (.int p0), .val (.long p1), .second, .val (.long p2), .second, .val (.long p3), .second, .val (.int sv), .val (.int pv), .val (.int av), .val (.int bv), .val (.ref b1), .val (.int rx), .unset, .unset, .unset, .unset, .unset, .unset, .unset] []))
    rcases own_012 bav with hz | hz | hz
    ·
      refine own_up (fun _ k => XS.iload X41.here hx rfl (hb hby at_62) rfl k) ?_
      show own_Go p.tables e below _ (T41.setTop (mkF m 64 #[.val (.int p0), .val (.long p1), .second, .val (.long p2), .second, .val (.long p3), .second, .val (.int sv), .val (.int pv), .val (.int av), .val (.int bv), .val (.ref b1), .val (.int rx), .unset, .unset, .unset, .unset, .unset, .unset, .unset] [(.int av)]))
      refine own_up (fun _ k => XS.iconst X41.here hx rfl (hb hby at_64) k) ?_
      show own_Go p.tables e below _ (T41.setTop (mkF m 65 #[.val (.int p0), .val (.long p1), .second, .val (.long p2), .second, .val (.long p3), .second, .val (.int sv), .val (.int pv), .val (.int av), .val (.int bv), .val (.ref b1), .val (.int rx), .unset, .unset, .unset, .unset, .unset, .unset, .unset] [(.int (1 : Int32)), (.int av)]))
      refine own_up (fun _ k => XS.icmpYes X41.here hx rfl (pc0 := 65) (pc' := 74) rfl (hb hby at_65) rfl (tlt (by rw [hz]; decide)).1 (by decide) (by decide) k) ?_
      show own_Go p.tables e below _ (T41.setTop (mkF m 74 #[.val (.int p0), .val (.long p1), .second, .val (.long p2), .second, .val (.long p3), .second, .val (.int sv), .val (.int pv), .val (.int av), .val (.int bv), .val (.ref b1), .val (.int rx), .unset, .unset, .unset, .unset, .unset, .unset, .unset] []))
      refine own_up (fun _ k => XS.iload X41.here hx rfl (hb hby at_74) rfl k) ?_
      show own_Go p.tables e below _ (T41.setTop (mkF m 76 #[.val (.int p0), .val (.long p1), .second, .val (.long p2), .second, .val (.long p3), .second, .val (.int sv), .val (.int pv), .val (.int av), .val (.int bv), .val (.ref b1), .val (.int rx), .unset, .unset, .unset, .unset, .unset, .unset, .unset] [(.int av)]))
      refine own_up (fun _ k => XS.iconst X41.here hx rfl (hb hby at_76) k) ?_
      show own_Go p.tables e below _ (T41.setTop (mkF m 77 #[.val (.int p0), .val (.long p1), .second, .val (.long p2), .second, .val (.long p3), .second, .val (.int sv), .val (.int pv), .val (.int av), .val (.int bv), .val (.ref b1), .val (.int rx), .unset, .unset, .unset, .unset, .unset, .unset, .unset] [(.int (2 : Int32)), (.int av)]))
      refine own_up (fun _ k => XS.icmpYes X41.here hx rfl (pc0 := 77) (pc' := 86) rfl (hb hby at_77) rfl (tlt (by rw [hz]; decide)).1 (by decide) (by decide) k) ?_
      show own_Go p.tables e below _ (T41.setTop (mkF m 86 #[.val (.int p0), .val (.long p1), .second, .val (.long p2), .second, .val (.long p3), .second, .val (.int sv), .val (.int pv), .val (.int av), .val (.int bv), .val (.ref b1), .val (.int rx), .unset, .unset, .unset, .unset, .unset, .unset, .unset] []))
      have f44 : Arv Z T41.heap ra_2 kr_2 .long (2 : Int32) [(.long r0), (.long (0 : Int64))] (.long (0 : Int64)) := (sV.keep K41 (ninS (Ne.symm P2_2) nin0))
      have f45 : Exa Z T41.heap ra_2 "[J" := (sJ.keep K41)
      have f46 : n0 ≤ T41.heap.size := (Nat.le_trans Zt40 K41.1)
      exact t86 T41 _ X41 T41.heap rfl N41 rx fb_41 kb_41 r0 g0 P41_3 r42 P41_5 P41_6 P41_7 f44 r43 f45 P41_0 P41_1 P41_2 f46 (by rw [hz, hr0]; rcases own_01 bpv with q | q <;> rw [q] <;> decide) hg0 hrx
    ·
      refine own_up (fun _ k => XS.iload X41.here hx rfl (hb hby at_62) rfl k) ?_
      show own_Go p.tables e below _ (T41.setTop (mkF m 64 #[.val (.int p0), .val (.long p1), .second, .val (.long p2), .second, .val (.long p3), .second, .val (.int sv), .val (.int pv), .val (.int av), .val (.int bv), .val (.ref b1), .val (.int rx), .unset, .unset, .unset, .unset, .unset, .unset, .unset] [(.int av)]))
      refine own_up (fun _ k => XS.iconst X41.here hx rfl (hb hby at_64) k) ?_
      show own_Go p.tables e below _ (T41.setTop (mkF m 65 #[.val (.int p0), .val (.long p1), .second, .val (.long p2), .second, .val (.long p3), .second, .val (.int sv), .val (.int pv), .val (.int av), .val (.int bv), .val (.ref b1), .val (.int rx), .unset, .unset, .unset, .unset, .unset, .unset, .unset] [(.int (1 : Int32)), (.int av)]))
      refine own_up (fun _ k => XS.icmpNo X41.here hx rfl (hb hby at_65) rfl (flt (by rw [hz]; decide)).1 k) ?_
      show own_Go p.tables e below _ (T41.setTop (mkF m 68 #[.val (.int p0), .val (.long p1), .second, .val (.long p2), .second, .val (.long p3), .second, .val (.int sv), .val (.int pv), .val (.int av), .val (.int bv), .val (.ref b1), .val (.int rx), .unset, .unset, .unset, .unset, .unset, .unset, .unset] []))
      refine own_up (fun _ k => XS.aload X41.here hx rfl (hb hby at_68) rfl rfl k) ?_
      show own_Go p.tables e below _ (T41.setTop (mkF m 70 #[.val (.int p0), .val (.long p1), .second, .val (.long p2), .second, .val (.long p3), .second, .val (.int sv), .val (.int pv), .val (.int av), .val (.int bv), .val (.ref b1), .val (.int rx), .unset, .unset, .unset, .unset, .unset, .unset, .unset] [(.ref b1)]))
      refine own_up (fun _ k => XS.iconst X41.here hx rfl (hb hby at_70) k) ?_
      show own_Go p.tables e below _ (T41.setTop (mkF m 71 #[.val (.int p0), .val (.long p1), .second, .val (.long p2), .second, .val (.long p3), .second, .val (.int sv), .val (.int pv), .val (.int av), .val (.int bv), .val (.ref b1), .val (.int rx), .unset, .unset, .unset, .unset, .unset, .unset, .unset] [(.int (0 : Int32)), (.ref b1)]))
      have f48 : Arv Z T41.heap ra_2 kr_2 .long (2 : Int32) [(.long r0), (.long (0 : Int64))] (.long (0 : Int64)) := (sV.keep K41 (ninS (Ne.symm P2_2) nin0))
      have f49 : n0 ≤ T41.heap.size := (Nat.le_trans Zt40 K41.1)
      obtain ⟨cq47, kq47, q47a, q47b, q47c⟩ := isOf hZ rfl P41_3
      obtain ⟨_, _, ⟨T47, L47, k47, n47⟩, -, X47, ⟨Lc47, hQ47, l47, y47, z47⟩, st47⟩ := X41.virtualBack hx (y := (⟨"com/example/rondel/rondel/Simulator$Settling", "ranRound", "(I)V"⟩ : MethodName)) (z := (⟨"com/example/rondel/rondel/Simulator$Settling", "ranRound", "(I)V"⟩ : MethodName)) hown (mvT hZ (hw _ (List.mem_of_getElem? (i := 38) rfl))) (mvT hZ (hw _ (List.mem_of_getElem? (i := 39) rfl))) (notFace_of_selects (args := #[]) (mvT hZ (hw _ (List.mem_of_getElem? (i := 41) rfl)))) (mvT hZ (hw _ (List.mem_of_getElem? (i := 41) rfl))) (mvT hZ (hw _ (List.mem_of_getElem? (i := 40) rfl))) (by decide) (backOf (W := 0) (rm2_0 l Z a0 hw [] b1 ra_2 kr_2 r0 (0 : Int64) T41.heap n0 f49 P41_6 f48 P2_0) hZ (hw _ (List.mem_of_getElem? (i := 42) rfl)) (hw _ (List.mem_of_getElem? (i := 2) rfl)) (by decide) (by decide)) q47a q47c (g := (mkF m 71 #[.val (.int p0), .val (.long p1), .second, .val (.long p2), .second, .val (.long p3), .second, .val (.int sv), .val (.int pv), .val (.int av), .val (.int bv), .val (.ref b1), .val (.int rx), .unset, .unset, .unset, .unset, .unset, .unset, .unset] [(.int (0 : Int32)), (.ref b1)])) rfl (by rw [hml]; rfl) (Steps.refl _) (argsL := [(.int (0 : Int32))]) (rest := []) (lenOf own_pd3 rfl) rfl (by show 2 * 0 + _ ≤ _; exact Nat.le_of_eq rfl) (hb hby at_71) (fun _ _ => ⟨rfl, rfl, (by decide : 4 + 0 ≤ _), (by decide : 10 + 0 ≤ _)⟩)
      dsimp only [Pt.U, Pt.locs, Pt.cells, Pt.slots] at X47 l47 y47 z47 st47 hQ47
      subst l47 y47 z47
      obtain ⟨rfl, N47q, K47, P47_0⟩ := hQ47
      have N47 := Fr.app N41 N47q
      refine own_up (fun _ k => st47.trans k) ?_
      show own_Go p.tables e below _ (T47.setTop (mkF m 74 #[.val (.int p0), .val (.long p1), .second, .val (.long p2), .second, .val (.long p3), .second, .val (.int sv), .val (.int pv), .val (.int av), .val (.int bv), .val (.ref b1), .val (.int rx), .unset, .unset, .unset, .unset, .unset, .unset, .unset] []))
      refine own_up (fun _ k => XS.iload X47.here hx rfl (hb hby at_74) rfl k) ?_
      show own_Go p.tables e below _ (T47.setTop (mkF m 76 #[.val (.int p0), .val (.long p1), .second, .val (.long p2), .second, .val (.long p3), .second, .val (.int sv), .val (.int pv), .val (.int av), .val (.int bv), .val (.ref b1), .val (.int rx), .unset, .unset, .unset, .unset, .unset, .unset, .unset] [(.int av)]))
      refine own_up (fun _ k => XS.iconst X47.here hx rfl (hb hby at_76) k) ?_
      show own_Go p.tables e below _ (T47.setTop (mkF m 77 #[.val (.int p0), .val (.long p1), .second, .val (.long p2), .second, .val (.long p3), .second, .val (.int sv), .val (.int pv), .val (.int av), .val (.int bv), .val (.ref b1), .val (.int rx), .unset, .unset, .unset, .unset, .unset, .unset, .unset] [(.int (2 : Int32)), (.int av)]))
      refine own_up (fun _ k => XS.icmpYes X47.here hx rfl (pc0 := 77) (pc' := 86) rfl (hb hby at_77) rfl (tlt (by rw [hz]; decide)).1 (by decide) (by decide) k) ?_
      show own_Go p.tables e below _ (T47.setTop (mkF m 86 #[.val (.int p0), .val (.long p1), .second, .val (.long p2), .second, .val (.long p3), .second, .val (.int sv), .val (.int pv), .val (.int av), .val (.int bv), .val (.ref b1), .val (.int rx), .unset, .unset, .unset, .unset, .unset, .unset, .unset] []))
      have f50 : Exa Z T47.heap b1 "com/example/rondel/rondel/Simulator$Settling" := (P41_3.keep K47)
      have f51 : Fld Z T47.heap b1 "com/example/rondel/rondel/Simulator$Settling" "fewestWrong" "J" (.long p1) := (r42.keep K47 (ninS P2_2 nin0))
      have f52 : Fld Z T47.heap b1 "com/example/rondel/rondel/Simulator$Settling" "stallRounds" "I" (.int sv) := (P41_5.keep K47 (ninS P2_2 nin0))
      have f53 : Fld Z T47.heap b1 "com/example/rondel/rondel/Simulator$Settling" "rounds" "[J" (.ref ra_2) := (P41_6.keep K47 (ninS P2_2 nin0))
      have f54 : Fld Z T47.heap b1 "com/example/rondel/rondel/Simulator$Settling" "roundsAtFewest" "[J" (.ref fb_41) := (P41_7.keep K47 (ninS P2_2 nin0))
      have f55 : Arv Z T47.heap fb_41 kb_41 .long (2 : Int32) [(.long g0), (.long (0 : Int64))] (.long (0 : Int64)) := (r43.keep K47 (ninS (Ne.symm P41_2) nin0))
      have f56 : Exa Z T47.heap ra_2 "[J" := ((sJ.keep K41).keep K47)
      have f57 : n0 ≤ T47.heap.size := (Nat.le_trans f49 K47.1)
      exact t86 T47 _ X47 T47.heap rfl N47 rx fb_41 kb_41 (r0 + (1 : Int64)) g0 f50 f51 f52 f53 f54 P47_0 f55 f56 P41_0 P41_1 P41_2 f57 (by rw [hz, hr0]; rcases own_01 bpv with q | q <;> rw [q] <;> decide) hg0 hrx
    ·
      refine own_up (fun _ k => XS.iload X41.here hx rfl (hb hby at_62) rfl k) ?_
      show own_Go p.tables e below _ (T41.setTop (mkF m 64 #[.val (.int p0), .val (.long p1), .second, .val (.long p2), .second, .val (.long p3), .second, .val (.int sv), .val (.int pv), .val (.int av), .val (.int bv), .val (.ref b1), .val (.int rx), .unset, .unset, .unset, .unset, .unset, .unset, .unset] [(.int av)]))
      refine own_up (fun _ k => XS.iconst X41.here hx rfl (hb hby at_64) k) ?_
      show own_Go p.tables e below _ (T41.setTop (mkF m 65 #[.val (.int p0), .val (.long p1), .second, .val (.long p2), .second, .val (.long p3), .second, .val (.int sv), .val (.int pv), .val (.int av), .val (.int bv), .val (.ref b1), .val (.int rx), .unset, .unset, .unset, .unset, .unset, .unset, .unset] [(.int (1 : Int32)), (.int av)]))
      refine own_up (fun _ k => XS.icmpNo X41.here hx rfl (hb hby at_65) rfl (flt (by rw [hz]; decide)).1 k) ?_
      show own_Go p.tables e below _ (T41.setTop (mkF m 68 #[.val (.int p0), .val (.long p1), .second, .val (.long p2), .second, .val (.long p3), .second, .val (.int sv), .val (.int pv), .val (.int av), .val (.int bv), .val (.ref b1), .val (.int rx), .unset, .unset, .unset, .unset, .unset, .unset, .unset] []))
      refine own_up (fun _ k => XS.aload X41.here hx rfl (hb hby at_68) rfl rfl k) ?_
      show own_Go p.tables e below _ (T41.setTop (mkF m 70 #[.val (.int p0), .val (.long p1), .second, .val (.long p2), .second, .val (.long p3), .second, .val (.int sv), .val (.int pv), .val (.int av), .val (.int bv), .val (.ref b1), .val (.int rx), .unset, .unset, .unset, .unset, .unset, .unset, .unset] [(.ref b1)]))
      refine own_up (fun _ k => XS.iconst X41.here hx rfl (hb hby at_70) k) ?_
      show own_Go p.tables e below _ (T41.setTop (mkF m 71 #[.val (.int p0), .val (.long p1), .second, .val (.long p2), .second, .val (.long p3), .second, .val (.int sv), .val (.int pv), .val (.int av), .val (.int bv), .val (.ref b1), .val (.int rx), .unset, .unset, .unset, .unset, .unset, .unset, .unset] [(.int (0 : Int32)), (.ref b1)]))
      have f59 : Arv Z T41.heap ra_2 kr_2 .long (2 : Int32) [(.long r0), (.long (0 : Int64))] (.long (0 : Int64)) := (sV.keep K41 (ninS (Ne.symm P2_2) nin0))
      have f60 : n0 ≤ T41.heap.size := (Nat.le_trans Zt40 K41.1)
      obtain ⟨cq58, kq58, q58a, q58b, q58c⟩ := isOf hZ rfl P41_3
      obtain ⟨_, _, ⟨T58, L58, k58, n58⟩, -, X58, ⟨Lc58, hQ58, l58, y58, z58⟩, st58⟩ := X41.virtualBack hx (y := (⟨"com/example/rondel/rondel/Simulator$Settling", "ranRound", "(I)V"⟩ : MethodName)) (z := (⟨"com/example/rondel/rondel/Simulator$Settling", "ranRound", "(I)V"⟩ : MethodName)) hown (mvT hZ (hw _ (List.mem_of_getElem? (i := 38) rfl))) (mvT hZ (hw _ (List.mem_of_getElem? (i := 39) rfl))) (notFace_of_selects (args := #[]) (mvT hZ (hw _ (List.mem_of_getElem? (i := 41) rfl)))) (mvT hZ (hw _ (List.mem_of_getElem? (i := 41) rfl))) (mvT hZ (hw _ (List.mem_of_getElem? (i := 40) rfl))) (by decide) (backOf (W := 0) (rm2_0 l Z a0 hw [] b1 ra_2 kr_2 r0 (0 : Int64) T41.heap n0 f60 P41_6 f59 P2_0) hZ (hw _ (List.mem_of_getElem? (i := 42) rfl)) (hw _ (List.mem_of_getElem? (i := 2) rfl)) (by decide) (by decide)) q58a q58c (g := (mkF m 71 #[.val (.int p0), .val (.long p1), .second, .val (.long p2), .second, .val (.long p3), .second, .val (.int sv), .val (.int pv), .val (.int av), .val (.int bv), .val (.ref b1), .val (.int rx), .unset, .unset, .unset, .unset, .unset, .unset, .unset] [(.int (0 : Int32)), (.ref b1)])) rfl (by rw [hml]; rfl) (Steps.refl _) (argsL := [(.int (0 : Int32))]) (rest := []) (lenOf own_pd3 rfl) rfl (by show 2 * 0 + _ ≤ _; exact Nat.le_of_eq rfl) (hb hby at_71) (fun _ _ => ⟨rfl, rfl, (by decide : 4 + 0 ≤ _), (by decide : 10 + 0 ≤ _)⟩)
      dsimp only [Pt.U, Pt.locs, Pt.cells, Pt.slots] at X58 l58 y58 z58 st58 hQ58
      subst l58 y58 z58
      obtain ⟨rfl, N58q, K58, P58_0⟩ := hQ58
      have N58 := Fr.app N41 N58q
      refine own_up (fun _ k => st58.trans k) ?_
      show own_Go p.tables e below _ (T58.setTop (mkF m 74 #[.val (.int p0), .val (.long p1), .second, .val (.long p2), .second, .val (.long p3), .second, .val (.int sv), .val (.int pv), .val (.int av), .val (.int bv), .val (.ref b1), .val (.int rx), .unset, .unset, .unset, .unset, .unset, .unset, .unset] []))
      refine own_up (fun _ k => XS.iload X58.here hx rfl (hb hby at_74) rfl k) ?_
      show own_Go p.tables e below _ (T58.setTop (mkF m 76 #[.val (.int p0), .val (.long p1), .second, .val (.long p2), .second, .val (.long p3), .second, .val (.int sv), .val (.int pv), .val (.int av), .val (.int bv), .val (.ref b1), .val (.int rx), .unset, .unset, .unset, .unset, .unset, .unset, .unset] [(.int av)]))
      refine own_up (fun _ k => XS.iconst X58.here hx rfl (hb hby at_76) k) ?_
      show own_Go p.tables e below _ (T58.setTop (mkF m 77 #[.val (.int p0), .val (.long p1), .second, .val (.long p2), .second, .val (.long p3), .second, .val (.int sv), .val (.int pv), .val (.int av), .val (.int bv), .val (.ref b1), .val (.int rx), .unset, .unset, .unset, .unset, .unset, .unset, .unset] [(.int (2 : Int32)), (.int av)]))
      refine own_up (fun _ k => XS.icmpNo X58.here hx rfl (hb hby at_77) rfl (flt (by rw [hz]; decide)).1 k) ?_
      show own_Go p.tables e below _ (T58.setTop (mkF m 80 #[.val (.int p0), .val (.long p1), .second, .val (.long p2), .second, .val (.long p3), .second, .val (.int sv), .val (.int pv), .val (.int av), .val (.int bv), .val (.ref b1), .val (.int rx), .unset, .unset, .unset, .unset, .unset, .unset, .unset] []))
      refine own_up (fun _ k => XS.aload X58.here hx rfl (hb hby at_80) rfl rfl k) ?_
      show own_Go p.tables e below _ (T58.setTop (mkF m 82 #[.val (.int p0), .val (.long p1), .second, .val (.long p2), .second, .val (.long p3), .second, .val (.int sv), .val (.int pv), .val (.int av), .val (.int bv), .val (.ref b1), .val (.int rx), .unset, .unset, .unset, .unset, .unset, .unset, .unset] [(.ref b1)]))
      refine own_up (fun _ k => XS.iconst X58.here hx rfl (hb hby at_82) k) ?_
      show own_Go p.tables e below _ (T58.setTop (mkF m 83 #[.val (.int p0), .val (.long p1), .second, .val (.long p2), .second, .val (.long p3), .second, .val (.int sv), .val (.int pv), .val (.int av), .val (.int bv), .val (.ref b1), .val (.int rx), .unset, .unset, .unset, .unset, .unset, .unset, .unset] [(.int (0 : Int32)), (.ref b1)]))
      have f62 : Fld Z T58.heap b1 "com/example/rondel/rondel/Simulator$Settling" "rounds" "[J" (.ref ra_2) := (P41_6.keep K58 (ninS P2_2 nin0))
      have f63 : n0 ≤ T58.heap.size := (Nat.le_trans f60 K58.1)
      have f64 : Exa Z T58.heap b1 "com/example/rondel/rondel/Simulator$Settling" := (P41_3.keep K58)
      obtain ⟨cq61, kq61, q61a, q61b, q61c⟩ := isOf hZ rfl f64
      obtain ⟨_, _, ⟨T61, L61, k61, n61⟩, -, X61, ⟨Lc61, hQ61, l61, y61, z61⟩, st61⟩ := X58.virtualBack hx (y := (⟨"com/example/rondel/rondel/Simulator$Settling", "ranRound", "(I)V"⟩ : MethodName)) (z := (⟨"com/example/rondel/rondel/Simulator$Settling", "ranRound", "(I)V"⟩ : MethodName)) hown (mvT hZ (hw _ (List.mem_of_getElem? (i := 38) rfl))) (mvT hZ (hw _ (List.mem_of_getElem? (i := 39) rfl))) (notFace_of_selects (args := #[]) (mvT hZ (hw _ (List.mem_of_getElem? (i := 41) rfl)))) (mvT hZ (hw _ (List.mem_of_getElem? (i := 41) rfl))) (mvT hZ (hw _ (List.mem_of_getElem? (i := 40) rfl))) (by decide) (backOf (W := 0) (rm2_0 l Z a0 hw [] b1 ra_2 kr_2 (r0 + (1 : Int64)) (0 : Int64) T58.heap n0 f63 f62 P58_0 P2_0) hZ (hw _ (List.mem_of_getElem? (i := 42) rfl)) (hw _ (List.mem_of_getElem? (i := 2) rfl)) (by decide) (by decide)) q61a q61c (g := (mkF m 83 #[.val (.int p0), .val (.long p1), .second, .val (.long p2), .second, .val (.long p3), .second, .val (.int sv), .val (.int pv), .val (.int av), .val (.int bv), .val (.ref b1), .val (.int rx), .unset, .unset, .unset, .unset, .unset, .unset, .unset] [(.int (0 : Int32)), (.ref b1)])) rfl (by rw [hml]; rfl) (Steps.refl _) (argsL := [(.int (0 : Int32))]) (rest := []) (lenOf own_pd3 rfl) rfl (by show 2 * 0 + _ ≤ _; exact Nat.le_of_eq rfl) (hb hby at_83) (fun _ _ => ⟨rfl, rfl, (by decide : 4 + 0 ≤ _), (by decide : 10 + 0 ≤ _)⟩)
      dsimp only [Pt.U, Pt.locs, Pt.cells, Pt.slots] at X61 l61 y61 z61 st61 hQ61
      subst l61 y61 z61
      obtain ⟨rfl, N61q, K61, P61_0⟩ := hQ61
      have N61 := Fr.app N58 N61q
      refine own_up (fun _ k => st61.trans k) ?_
      show own_Go p.tables e below _ (T61.setTop (mkF m 86 #[.val (.int p0), .val (.long p1), .second, .val (.long p2), .second, .val (.long p3), .second, .val (.int sv), .val (.int pv), .val (.int av), .val (.int bv), .val (.ref b1), .val (.int rx), .unset, .unset, .unset, .unset, .unset, .unset, .unset] []))
      have f65 : Exa Z T61.heap b1 "com/example/rondel/rondel/Simulator$Settling" := (f64.keep K61)
      have f66 : Fld Z T61.heap b1 "com/example/rondel/rondel/Simulator$Settling" "fewestWrong" "J" (.long p1) := ((r42.keep K58 (ninS P2_2 nin0)).keep K61 (ninS P2_2 nin0))
      have f67 : Fld Z T61.heap b1 "com/example/rondel/rondel/Simulator$Settling" "stallRounds" "I" (.int sv) := ((P41_5.keep K58 (ninS P2_2 nin0)).keep K61 (ninS P2_2 nin0))
      have f68 : Fld Z T61.heap b1 "com/example/rondel/rondel/Simulator$Settling" "rounds" "[J" (.ref ra_2) := (f62.keep K61 (ninS P2_2 nin0))
      have f69 : Fld Z T61.heap b1 "com/example/rondel/rondel/Simulator$Settling" "roundsAtFewest" "[J" (.ref fb_41) := ((P41_7.keep K58 (ninS P2_2 nin0)).keep K61 (ninS P2_2 nin0))
      have f70 : Arv Z T61.heap fb_41 kb_41 .long (2 : Int32) [(.long g0), (.long (0 : Int64))] (.long (0 : Int64)) := ((r43.keep K58 (ninS (Ne.symm P41_2) nin0)).keep K61 (ninS (Ne.symm P41_2) nin0))
      have f71 : Exa Z T61.heap ra_2 "[J" := (((sJ.keep K41).keep K58).keep K61)
      have f72 : n0 ≤ T61.heap.size := (Nat.le_trans f63 K61.1)
      exact t86 T61 _ X61 T61.heap rfl N61 rx fb_41 kb_41 ((r0 + (1 : Int64)) + (1 : Int64)) g0 f65 f66 f67 f68 f69 P61_0 f70 f71 P41_0 P41_1 P41_2 f72 (by rw [hz, hr0]; rcases own_01 bpv with q | q <;> rw [q] <;> decide) hg0 hrx
  refine own_up (fun _ k => XS.iload X2.here hx rfl (hb hby at_42) rfl k) ?_
  show own_Go p.tables e below _ (T2.setTop (mkF m 44 #[.val (.int p0), .val (.long p1), .second, .val (.long p2), .second, .val (.long p3), .second, .val (.int sv), .val (.int pv), .val (.int av), .val (.int bv), .val (.ref b1), .unset, .unset, .unset, .unset, .unset, .unset, .unset, .unset] [(.int pv)]))
  refine own_up (fun _ k => XS.iconst X2.here hx rfl (hb hby at_44) k) ?_
  show own_Go p.tables e below _ (T2.setTop (mkF m 45 #[.val (.int p0), .val (.long p1), .second, .val (.long p2), .second, .val (.long p3), .second, .val (.int sv), .val (.int pv), .val (.int av), .val (.int bv), .val (.ref b1), .unset, .unset, .unset, .unset, .unset, .unset, .unset, .unset] [(.int (1 : Int32)), (.int pv)]))
  by_cases hp1 : pv = (1 : Int32)
  ·
    refine own_up (fun _ k => XS.icmpNo X2.here hx rfl (hb hby at_45) rfl (teq hp1).2 k) ?_
    show own_Go p.tables e below _ (T2.setTop (mkF m 48 #[.val (.int p0), .val (.long p1), .second, .val (.long p2), .second, .val (.long p3), .second, .val (.int sv), .val (.int pv), .val (.int av), .val (.int bv), .val (.ref b1), .unset, .unset, .unset, .unset, .unset, .unset, .unset, .unset] []))
    refine own_up (fun _ k => XS.aload X2.here hx rfl (hb hby at_48) rfl rfl k) ?_
    show own_Go p.tables e below _ (T2.setTop (mkF m 50 #[.val (.int p0), .val (.long p1), .second, .val (.long p2), .second, .val (.long p3), .second, .val (.int sv), .val (.int pv), .val (.int av), .val (.int bv), .val (.ref b1), .unset, .unset, .unset, .unset, .unset, .unset, .unset, .unset] [(.ref b1)]))
    refine own_up (fun _ k => XS.iconst X2.here hx rfl (hb hby at_50) k) ?_
    show own_Go p.tables e below _ (T2.setTop (mkF m 51 #[.val (.int p0), .val (.long p1), .second, .val (.long p2), .second, .val (.long p3), .second, .val (.int sv), .val (.int pv), .val (.int av), .val (.int bv), .val (.ref b1), .unset, .unset, .unset, .unset, .unset, .unset, .unset, .unset] [(.int (0 : Int32)), (.ref b1)]))
    have f74 : n0 ≤ T2.heap.size := (Nat.le_trans f3 K2.1)
    obtain ⟨cq73, kq73, q73a, q73b, q73c⟩ := isOf hZ rfl P2_5
    obtain ⟨_, _, ⟨T73, L73, k73, n73⟩, -, X73, ⟨Lc73, hQ73, l73, y73, z73⟩, st73⟩ := X2.virtualBack hx (y := (⟨"com/example/rondel/rondel/Simulator$Settling", "ranRound", "(I)V"⟩ : MethodName)) (z := (⟨"com/example/rondel/rondel/Simulator$Settling", "ranRound", "(I)V"⟩ : MethodName)) hown (mvT hZ (hw _ (List.mem_of_getElem? (i := 38) rfl))) (mvT hZ (hw _ (List.mem_of_getElem? (i := 39) rfl))) (notFace_of_selects (args := #[]) (mvT hZ (hw _ (List.mem_of_getElem? (i := 41) rfl)))) (mvT hZ (hw _ (List.mem_of_getElem? (i := 41) rfl))) (mvT hZ (hw _ (List.mem_of_getElem? (i := 40) rfl))) (by decide) (backOf (W := 0) (rm2_0 l Z a0 hw [] b1 ra_2 kr_2 (0 : Int64) (0 : Int64) T2.heap n0 f74 P2_8 P2_10 P2_0) hZ (hw _ (List.mem_of_getElem? (i := 42) rfl)) (hw _ (List.mem_of_getElem? (i := 2) rfl)) (by decide) (by decide)) q73a q73c (g := (mkF m 51 #[.val (.int p0), .val (.long p1), .second, .val (.long p2), .second, .val (.long p3), .second, .val (.int sv), .val (.int pv), .val (.int av), .val (.int bv), .val (.ref b1), .unset, .unset, .unset, .unset, .unset, .unset, .unset, .unset] [(.int (0 : Int32)), (.ref b1)])) rfl (by rw [hml]; rfl) (Steps.refl _) (argsL := [(.int (0 : Int32))]) (rest := []) (lenOf own_pd3 rfl) rfl (by show 2 * 0 + _ ≤ _; exact Nat.le_of_eq rfl) (hb hby at_51) (fun _ _ => ⟨rfl, rfl, (by decide : 3 + 0 ≤ _), (by decide : 8 + 0 ≤ _)⟩)
    dsimp only [Pt.U, Pt.locs, Pt.cells, Pt.slots] at X73 l73 y73 z73 st73 hQ73
    subst l73 y73 z73
    obtain ⟨rfl, N73q, K73, P73_0⟩ := hQ73
    have N73 := Fr.app N2 N73q
    refine own_up (fun _ k => st73.trans k) ?_
    show own_Go p.tables e below _ (T73.setTop (mkF m 54 #[.val (.int p0), .val (.long p1), .second, .val (.long p2), .second, .val (.long p3), .second, .val (.int sv), .val (.int pv), .val (.int av), .val (.int bv), .val (.ref b1), .unset, .unset, .unset, .unset, .unset, .unset, .unset, .unset] []))
    have f75 : Exa Z T73.heap b1 "com/example/rondel/rondel/Simulator$Settling" := (P2_5.keep K73)
    have f76 : Fld Z T73.heap b1 "com/example/rondel/rondel/Simulator$Settling" "fewestWrong" "J" (.long (9223372036854775807 : Int64)) := (P2_6.keep K73 (ninS P2_2 nin0))
    have f77 : Fld Z T73.heap b1 "com/example/rondel/rondel/Simulator$Settling" "stallRounds" "I" (.int sv) := (P2_7.keep K73 (ninS P2_2 nin0))
    have f78 : Fld Z T73.heap b1 "com/example/rondel/rondel/Simulator$Settling" "rounds" "[J" (.ref ra_2) := (P2_8.keep K73 (ninS P2_2 nin0))
    have f79 : Fld Z T73.heap b1 "com/example/rondel/rondel/Simulator$Settling" "roundsAtFewest" "[J" (.ref fa_2) := (P2_9.keep K73 (ninS P2_2 nin0))
    have f80 : Arv Z T73.heap fa_2 kr_2 .long (2 : Int32) [(.long (0 : Int64)), (.long (0 : Int64))] (.long (0 : Int64)) := (P2_11.keep K73 (ninS (Ne.symm P2_4) nin0))
    have f81 : Exa Z T73.heap ra_2 "[J" := (P2_12.keep K73)
    have f82 : n0 ≤ T73.heap.size := (Nat.le_trans f74 K73.1)
    exact t54 T73 _ X73 T73.heap rfl N73 ((0 : Int64) + (1 : Int64)) f75 f76 f77 f78 f79 P73_0 f80 f81 f82 (by rw [hp1]; decide)
  ·
    refine own_up (fun _ k => XS.icmpYes X2.here hx rfl (pc0 := 45) (pc' := 54) rfl (hb hby at_45) rfl (feq hp1).2 (by decide) (by decide) k) ?_
    show own_Go p.tables e below _ (T2.setTop (mkF m 54 #[.val (.int p0), .val (.long p1), .second, .val (.long p2), .second, .val (.long p3), .second, .val (.int sv), .val (.int pv), .val (.int av), .val (.int bv), .val (.ref b1), .unset, .unset, .unset, .unset, .unset, .unset, .unset, .unset] []))
    have f83 : n0 ≤ T2.heap.size := (Nat.le_trans f3 K2.1)
    exact t54 T2 _ X2 T2.heap rfl N2 (0 : Int64) P2_5 P2_6 P2_7 P2_8 P2_9 P2_10 P2_11 P2_12 f83 ((own_01 bpv).elim (fun q => by rw [q]; decide) (fun q => absurd q hp1))
set_option maxRecDepth 65536 in
set_option maxHeartbeats 40000000 in
theorem comes_1 {Post : Tables → Env → Array Value → State → Outcome → State → Prop} (hpost : ∀ tb e args s v u, (limb_1_1.after args s (.returned v) u = true ∧ limb_1_2.after args s (.returned v) u = true ∧ True) → FrameEnd s (.returned v) u (Jvm.fieldLocs frame_1_writes args s ++ Jvm.arrayLocs frame_1_arrays args s ++ Jvm.staticLocs frame_1_statics s) 24 128 → Post tb e args s (.returned v) u) :
    ArmFor flags0 classFile x code maxLocals ret World_1 tables_1 room_1 Calls_1 rest_1 Pre_1 Post := by
  intro l hfl _ _ p e ha hc hk s m args below hf hA hF happ hP
  obtain ⟨hcalls, hrest, hpre⟩ := hP
  obtain ⟨-, -, -, hnamed, -, -, -, hat⟩ := (Spec.applies_iff hf).mp happ
  obtain ⟨hg, hn⟩ := and_e (Cond.before_iff.mp (show (Jvm.Cond.and given_1 narrow_1).before args s = true from hpre))
  obtain ⟨hcnt, hgr0⟩ := and_e hg
  obtain ⟨ga0, hgr1⟩ := and_e hgr0
  obtain ⟨ga1, hgr2⟩ := and_e hgr1
  obtain ⟨ga2, hgr3⟩ := and_e hgr2
  obtain ⟨w0, w1, w2, w3, rfl⟩ : ∃ w0 w1 w2 w3 : Value, args = #[w0, w1, w2, w3] := by
    have hs : args.size = 4 := by simpa [Cond.value, given_1] using hcnt
    obtain ⟨L⟩ := args
    match L, hs with
    | [w0, w1, w2, w3], _ => exact ⟨w0, w1, w2, w3, rfl⟩
  have hw := fun d (hd : d ∈ tables_1) => atoms_spec (ws := Jvm.Cond.code x code maxLocals ret :: tables_1) hat d (List.mem_cons_of_mem _ hd)
  have hfit : Fit s := fun {y c} hc i hi => by
    obtain ⟨ha, rfl⟩ := Array.getElem?_eq_some_iff.mp hc
    have q := List.all_eq_true.mp ((Array.all_eq_true_iff_forall_mem.mp hF) _ (Array.getElem_mem ha)) i (List.mem_range.mpr hi)
    simpa [Array.getElem?_eq_getElem hi] using q
  obtain ⟨i0, ei0⟩ := is_v ga0
  obtain rfl : w0 = (.int i0) := Option.some.inj ei0
  obtain ⟨i1, ei1⟩ := isL_v ga1
  obtain rfl : w1 = (.long i1) := Option.some.inj ei1
  obtain ⟨i2, ei2⟩ := isL_v ga2
  obtain rfl : w2 = (.long i2) := Option.some.inj ei2
  obtain ⟨i3, ei3⟩ := isL_v hgr3
  obtain rfl : w3 = (.long i3) := Option.some.inj ei3
  obtain ⟨n, o, h1, h2, h3, _, L, rfl, ⟨rfl, N⟩, hq⟩ := rm0 l s _ hw tables_1 i0 i1 i2 i3 s.heap s.heap.size (Nat.le_refl _)  p e ha hc hk s m _ below hf ((Spec.applies_iff_loose hf).mp happ).1 ⟨rfl, State.Warmed39.refl s, rfl⟩ trivial
  refine ⟨n, _, h1, h2, h3, hpost _ _ _ _ _ _ ⟨Cond.after_iff.mpr rfl, Cond.after_iff.mpr (eq_i res_at (Term.int_eval (1)) rfl), trivial⟩ ⟨hq.1, hq.2.1, (hq.2.2.sift fun y hy => Or.inr (N y hy)).mono (by decide) (by decide)⟩⟩
theorem main_1_1 : Claimed_1_1 := comes_1 fun _ _ _ _ _ _ h hF => ⟨h.1, hF⟩
theorem main_1_2 : Claimed_1_2 := comes_1 fun _ _ _ _ _ _ h hF => ⟨h.2.1, hF⟩
end Jvm.Pilot.@@N@@
namespace Jvm.Pilot.@@N@@
open Jvm Jvm.ClassFile Sem Op Lib Jvm.Free Jvm.Stand Jvm.Pilot.@@N@@.Jvm.D
/-! MADE BY PROGRAM (witnessworld.py) out of the Statement's table words and the real class files: 12 classes; the members and pool entries that the words name. The judged class is class 1, her method 1. -/
namespace start1
open Jvm.ClassFile
def u (s : String) : CpInfo := .utf8 (stringToUtf16 s)
/-- a pool by its gaps: so many unusable entries, then the entry; so many at the end -/
def gap : Nat → List CpInfo → List CpInfo
  | 0, r => r
  | n + 1, r => .unusable :: gap n r
def poolList (es : List (Nat × CpInfo)) (last : Nat) : List CpInfo := es.foldr (fun e r => gap e.1 (e.2 :: r)) (gap last [])
def pool (es : List (Nat × CpInfo)) (last : Nat) : Array CpInfo := ⟨poolList es last⟩
def fileOf (pool : Array CpInfo) (this : Nat) (attrs : Array Attribute := #[]) (ms : Array MethodInfo := #[]) (fl : Nat := 33) (sup : Nat := 0) (ifs : Array Nat := #[]) (fds : Array FieldInfo := #[]) : ClassFile where
  minorVersion := 0
  majorVersion := 65
  constantPool := pool
  accessFlags := fl
  thisClass := this
  superClass := sup
  interfaces := ifs
  fields := fds
  methods := ms
  attributes := attrs
def plain (name : String) (sup : Option ClassId) : Class where
  name := name
  kind := .ordinary
  loader := none
  accessFlags := 33
  super := sup
  interfaces := #[]
  cf := none
  fields := #[]
  methods := #[]
  instanceTypes := #[]
  staticTypes := #[]
  resolved := #[]
  callSites := []
  init := .initialized
  statics := none
  mirror := none

def pool0 : Array CpInfo := pool [(5, u "<init>"), (0, u "()V"), (1, .class_ 10), (1, u "java/lang/Object"), (85, u "clone"), (0, u "()Ljava/lang/Object;")] 26

def k0c0 : Code := { maxStack := 0, maxLocals := 1, code := object_method_1_code, exceptionTable := #[], attributes := #[] }
def k0m0 : Method := { name := "<init>", desc := "()V", sig := { parameters := [], returnType := none }, accessFlags := 1, code := some k0c0 }
def k0m1 : Method := { name := "clone", desc := "()Ljava/lang/Object;", sig := { parameters := [], returnType := some (.object "java/lang/Object") }, accessFlags := 260, code := none }
/-- java/lang/Object -/
def k0 : Class := { plain "java/lang/Object" none with
  accessFlags := 33
  interfaces := #[]
  cf := some (fileOf pool0 8 #[] #[{ accessFlags := 1, nameIndex := 5, descriptorIndex := 6, attributes := #[] }, { accessFlags := 260, nameIndex := 96, descriptorIndex := 97, attributes := #[] }] 33 0 #[] #[])
  fields := #[]
  methods := #[k0m0, k0m1]
  instanceTypes := #[]
  staticTypes := #[]
  resolved := Array.replicate 124 none
  statics := none }

def pool1 : Array CpInfo := pool [(2, .class_ 4), (1, u "java/lang/Object"), (0, u "<init>"), (0, u "()V"), (0, .class_ 8), (0, u "com/example/rondel/rondel/Simulator$Settling"), (0, .methodref 7 10), (0, .nameAndType 5 11), (0, u "(II)V"), (0, .methodref 7 13), (0, .nameAndType 14 15), (0, u "ranRound"), (0, u "(I)V"), (0, .methodref 7 17), (0, .nameAndType 18 19), (0, u "stalled"), (0, u "(J)Z"), (2, .long 9223372036854775807), (1, .methodref 25 26), (0, .class_ 27), (0, .nameAndType 28 29), (0, u "java/lang/Math"), (0, u "min"), (0, u "(JJ)J"), (0, .class_ 31), (0, u "com/example/rondel/rondel/SettlingStalledPinLaw"), (2, u "law"), (0, u "(IJJJ)Z")] 7

def k1m0 : Method := { name := "<init>", desc := "()V", sig := { parameters := [], returnType := none }, accessFlags := 1, code := none }
def k1c1 : Code := { maxStack := 6, maxLocals := 20, code := code, exceptionTable := #[], attributes := #[] }
def k1m1 : Method := { name := "law", desc := "(IJJJ)Z", sig := { parameters := [.int, .long, .long, .long], returnType := some .boolean }, accessFlags := 9, code := some k1c1 }
/-- com/example/rondel/rondel/SettlingStalledPinLaw -/
def k1 : Class := { plain "com/example/rondel/rondel/SettlingStalledPinLaw" (some 0) with
  accessFlags := 49
  interfaces := #[]
  cf := some (fileOf pool1 30 #[] #[{ accessFlags := 1, nameIndex := 5, descriptorIndex := 6, attributes := #[] }, { accessFlags := 9, nameIndex := 34, descriptorIndex := 35, attributes := #[] }] 49 2 #[] #[])
  fields := #[]
  methods := #[k1m0, k1m1]
  instanceTypes := #[]
  staticTypes := #[]
  resolved := Array.replicate 43 none
  statics := none }

def pool2 : Array CpInfo := pool [(1, .methodref 2 3), (0, .class_ 4), (0, .nameAndType 5 6), (0, u "java/lang/Object"), (0, u "<init>"), (0, u "()V"), (2, .long 9223372036854775807), (1, .fieldref 12 13), (0, .class_ 14), (0, .nameAndType 15 16), (0, u "com/example/rondel/rondel/Simulator$Settling"), (0, u "fewestWrong"), (0, u "J"), (0, .fieldref 12 18), (0, .nameAndType 19 20), (0, u "stallRounds"), (0, u "I"), (0, .fieldref 12 22), (0, .nameAndType 23 24), (0, u "rounds"), (0, u "[J"), (0, .methodref 26 27), (0, .class_ 24), (0, .nameAndType 28 29), (0, u "clone"), (0, u "()Ljava/lang/Object;"), (0, .fieldref 12 31), (0, .nameAndType 32 24), (0, u "roundsAtFewest"), (0, u "(II)V"), (2, u "ranRound"), (0, u "(I)V"), (0, u "stalled"), (0, u "(J)Z"), (4, .class_ 45), (0, u "com/example/rondel/rondel/Simulator")] 2

def k2c0 : Code := { maxStack := 3, maxLocals := 3, code := prog_73_method_1_code, exceptionTable := #[], attributes := #[] }
def k2m0 : Method := { name := "<init>", desc := "(II)V", sig := { parameters := [.int, .int], returnType := none }, accessFlags := 0, code := some k2c0 }
def k2c1 : Code := { maxStack := 6, maxLocals := 2, code := prog_73_method_2_code, exceptionTable := #[], attributes := #[] }
def k2m1 : Method := { name := "ranRound", desc := "(I)V", sig := { parameters := [.int], returnType := none }, accessFlags := 0, code := some k2c1 }
def k2c2 : Code := { maxStack := 4, maxLocals := 4, code := prog_73_method_3_code, exceptionTable := #[], attributes := #[] }
def k2m2 : Method := { name := "stalled", desc := "(J)Z", sig := { parameters := [.long], returnType := some .boolean }, accessFlags := 0, code := some k2c2 }
/-- com/example/rondel/rondel/Simulator$Settling -/
def k2 : Class := { plain "com/example/rondel/rondel/Simulator$Settling" (some 0) with
  accessFlags := 48
  interfaces := #[]
  cf := some (fileOf pool2 12 #[.nestHost 44] #[{ accessFlags := 0, nameIndex := 5, descriptorIndex := 33, attributes := #[] }, { accessFlags := 0, nameIndex := 36, descriptorIndex := 37, attributes := #[] }, { accessFlags := 0, nameIndex := 38, descriptorIndex := 39, attributes := #[] }] 48 2 #[] #[{ accessFlags := 18, nameIndex := 19, descriptorIndex := 20, attributes := #[] }, { accessFlags := 18, nameIndex := 23, descriptorIndex := 24, attributes := #[] }, { accessFlags := 2, nameIndex := 32, descriptorIndex := 24, attributes := #[] }, { accessFlags := 2, nameIndex := 15, descriptorIndex := 16, attributes := #[] }])
  fields := #[{ name := "stallRounds", type := .int, accessFlags := 18, slot := 0, constantValue := 0 }, { name := "rounds", type := (.array .long), accessFlags := 18, slot := 1, constantValue := 0 }, { name := "roundsAtFewest", type := (.array .long), accessFlags := 2, slot := 2, constantValue := 0 }, { name := "fewestWrong", type := .long, accessFlags := 2, slot := 3, constantValue := 0 }]
  methods := #[k2m0, k2m1, k2m2]
  instanceTypes := #[.int, (.array .long), (.array .long), .long]
  staticTypes := #[]
  resolved := Array.replicate 48 none
  statics := none }

def pool3 : Array CpInfo := pool [(1, .class_ 2), (0, u "java/lang/Cloneable"), (0, .class_ 4), (0, u "java/lang/Object")] 2

/-- java/lang/Cloneable -/
def k3 : Class := { plain "java/lang/Cloneable" (some 0) with
  accessFlags := 1537
  interfaces := #[]
  cf := some (fileOf pool3 1 #[] #[] 1537 3 #[] #[])
  fields := #[]
  methods := #[]
  instanceTypes := #[]
  staticTypes := #[]
  resolved := Array.replicate 7 none
  statics := none }

def pool4 : Array CpInfo := pool [(1, .class_ 2), (0, u "java/lang/Math"), (1, .class_ 6), (1, u "java/lang/Object"), (0, u "<init>"), (0, u "()V"), (89, .class_ 100), (1, u "java/lang/Math$RandomNumberGeneratorHolder"), (20, u "(JJ)J"), (50, u "negativeZeroFloatBits"), (0, u "J"), (2, u "negativeZeroDoubleBits"), (24, u "min"), (43, u "$assertionsDisabled"), (0, u "Z"), (91, u "twoToTheDoubleScaleDown"), (0, u "D"), (4, u "twoToTheDoubleScaleUp"), (9, u "E"), (3, u "PI"), (2, u "TAU"), (2, u "DEGREES_TO_RADIANS"), (0, u "RADIANS_TO_DEGREES")] 94

def k4m0 : Method := { name := "<init>", desc := "()V", sig := { parameters := [], returnType := none }, accessFlags := 2, code := none }
def k4c1 : Code := { maxStack := 4, maxLocals := 4, code := jdk_29_method_70_code, exceptionTable := #[], attributes := #[] }
def k4m1 : Method := { name := "min", desc := "(JJ)J", sig := { parameters := [.long, .long], returnType := some .long }, accessFlags := 9, code := some k4c1 }
/-- java/lang/Math -/
def k4 : Class := { plain "java/lang/Math" (some 0) with
  accessFlags := 49
  interfaces := #[]
  cf := some (fileOf pool4 1 #[.nestMembers #[98]] #[{ accessFlags := 2, nameIndex := 7, descriptorIndex := 8, attributes := #[] }, { accessFlags := 9, nameIndex := 201, descriptorIndex := 121, attributes := #[] }] 49 4 #[] #[{ accessFlags := 25, nameIndex := 354, descriptorIndex := 339, attributes := #[] }, { accessFlags := 25, nameIndex := 358, descriptorIndex := 339, attributes := #[] }, { accessFlags := 25, nameIndex := 361, descriptorIndex := 339, attributes := #[] }, { accessFlags := 26, nameIndex := 364, descriptorIndex := 339, attributes := #[] }, { accessFlags := 26, nameIndex := 365, descriptorIndex := 339, attributes := #[] }, { accessFlags := 26, nameIndex := 172, descriptorIndex := 173, attributes := #[] }, { accessFlags := 26, nameIndex := 176, descriptorIndex := 173, attributes := #[] }, { accessFlags := 8, nameIndex := 344, descriptorIndex := 339, attributes := #[] }, { accessFlags := 8, nameIndex := 338, descriptorIndex := 339, attributes := #[] }, { accessFlags := 4120, nameIndex := 245, descriptorIndex := 246, attributes := #[] }])
  fields := #[{ name := "E", type := .double, accessFlags := 25, slot := 0, constantValue := 0 }, { name := "PI", type := .double, accessFlags := 25, slot := 1, constantValue := 0 }, { name := "TAU", type := .double, accessFlags := 25, slot := 2, constantValue := 0 }, { name := "DEGREES_TO_RADIANS", type := .double, accessFlags := 26, slot := 3, constantValue := 0 }, { name := "RADIANS_TO_DEGREES", type := .double, accessFlags := 26, slot := 4, constantValue := 0 }, { name := "negativeZeroFloatBits", type := .long, accessFlags := 26, slot := 5, constantValue := 0 }, { name := "negativeZeroDoubleBits", type := .long, accessFlags := 26, slot := 6, constantValue := 0 }, { name := "twoToTheDoubleScaleUp", type := .double, accessFlags := 8, slot := 7, constantValue := 0 }, { name := "twoToTheDoubleScaleDown", type := .double, accessFlags := 8, slot := 8, constantValue := 0 }, { name := "$assertionsDisabled", type := .boolean, accessFlags := 4120, slot := 9, constantValue := 0 }]
  methods := #[k4m0, k4m1]
  instanceTypes := #[]
  staticTypes := #[.double, .double, .double, .double, .double, .long, .long, .double, .double, .boolean]
  resolved := Array.replicate 460 none
  statics := none }

def pool5 : Array CpInfo := pool [(1, u "java/io/Serializable"), (0, .class_ 1), (0, u "java/lang/Object"), (0, .class_ 3)] 3

/-- java/io/Serializable -/
def k5 : Class := { plain "java/io/Serializable" (some 0) with
  accessFlags := 1537
  interfaces := #[]
  cf := some (fileOf pool5 2 #[] #[] 1537 4 #[] #[])
  fields := #[]
  methods := #[]
  instanceTypes := #[]
  staticTypes := #[]
  resolved := Array.replicate 8 none
  statics := none }

/-- the primitive byte -/
def k6 : Class := { plain "byte" none with kind := .primitive 'B', accessFlags := 0x411 }
/-- [B -/
def k7 : Class := { plain "[B" (some 0) with kind := .array 6 .byte, interfaces := #[3, 5], accessFlags := 1041 }

/-- the primitive int -/
def k8 : Class := { plain "int" none with kind := .primitive 'I', accessFlags := 0x411 }
/-- [I -/
def k9 : Class := { plain "[I" (some 0) with kind := .array 8 .int, interfaces := #[3, 5], accessFlags := 1041 }

/-- the primitive long -/
def k10 : Class := { plain "long" none with kind := .primitive 'J', accessFlags := 0x411 }
/-- [J -/
def k11 : Class := { plain "[J" (some 0) with kind := .array 10 .long, interfaces := #[3, 5], accessFlags := 1041 }

def heap : Heap := #[]
def classes : Array Class := #[k0, k1, k2, k3, k4, k5, k6, k7, k8, k9, k10, k11]
def interned : List (Array UInt16 × Addr) := []
def slotsUsed : Nat := 0
def theMethod : MethodId := ⟨1, 1⟩
def args0 : Array Value := #[.int 5, .long 6, .long 7, .long 8]
def aboutOver (below : List Frame) : State where
  vm := { classes := classes, interned := interned.toArray }
  heap := heap
  slotsUsed := slotsUsed
  threads := #[{ frames := .invoking theMethod args0 :: below }]
def below0 : List Frame := [.native { method := ⟨0, 0⟩, args := #[] }]
def about1 : State := aboutOver below0
def p0 : Program := .bare "" "" ""
def e0 : Env := launch0.env 0 0 0
theorem w_frames : about1.frames = Frame.invoking theMethod args0 :: below0 := rfl
set_option maxRecDepth 65536 in
theorem w_args : argsFit about1.vm theMethod args0 = true := by decide +kernel
set_option maxRecDepth 65536 in
theorem w_heap : heapFits about1 = true := by decide +kernel
set_option maxRecDepth 65536 in
theorem w_runnable : about1.curStatus? = some .runnable := by decide +kernel
set_option maxRecDepth 65536 in
theorem w_alone : about1.alone = true := by decide +kernel
set_option maxRecDepth 65536 in
theorem w_named : about1.methodNamed? x = some theMethod := by decide +kernel
set_option maxRecDepth 65536 in
theorem w_hears : about1.hears theMethod below0 = true := by decide +kernel
set_option maxRecDepth 65536 in
theorem w_ripe : about1.ripe theMethod args0 below0 = true := by decide +kernel
theorem w_running : about1.status = .running := rfl
set_option maxRecDepth 65536 in
theorem w_room : about1.hasRoom e0.platform room_1 = true :=
  launch0.hasRoom_least _ room_1 (by decide +kernel) (by decide +kernel) (by decide +kernel) (by decide +kernel) (by decide +kernel) (by decide +kernel)
theorem allAtoms_all (ts : List Jvm.Cond) (a : Array Jvm.Value) (st : Jvm.State) : (allAtoms ts).before a st = ts.all (fun c => c.before a st) := by
  induction ts with
  | nil => rfl
  | cons c t ih =>
    show (Jvm.Cond.and c (allAtoms t)).before a st = _
    rw [Jvm.Cond.before_and, ih, List.all_cons]
def words1 : List Jvm.Cond := Jvm.Cond.code x code maxLocals ret :: tables_1
/-- a 'code' word, met by the world's own term for the bytes: nothing is compared byte by byte -/
theorem code_word {y : MethodName} {bytes : ByteArray} {mx : Nat} {rt : Option FieldType} {a : Array Value} {s : State} {m : MethodId} {meth : Method} {c : Code} (h1 : s.methodNamed? y = some m) (h2 : s.vm.method? m = some meth) (h3 : meth.code = some c) (h4 : c.code = bytes)
    (h5 : (c.maxLocals == mx && c.exceptionTable.isEmpty && decide (c.maxStack ≤ mostOperands) && decide (meth.sig.returnType = rt) && !meth.locks && decide (parseMethodDescriptor y.desc = some meth.sig)) = true) : (Jvm.Cond.code y bytes mx rt).before a s = true := by
  simp only [Bool.and_eq_true, beq_iff_eq, Bool.not_eq_true', decide_eq_true_eq] at h5
  obtain ⟨⟨⟨⟨⟨g1, g2⟩, g3⟩, g4⟩, g5⟩, g6⟩ := h5
  simp [Cond.before, Cond.holds, Cond.value, h1, h2, h3, h4, g1, g2, g3, g4, g5, g6]
def isCode : Jvm.Cond → Bool
  | .code _ _ _ _ => true
  | _ => false
theorem all_split {L : List Jvm.Cond} {P : Jvm.Cond → Bool} (h1 : L.all (fun c => isCode c || P c) = true) (h2 : ∀ c ∈ L.filter isCode, P c = true) : L.all P = true := by
  refine List.all_eq_true.mpr fun c hc => ?_
  have h := List.all_eq_true.mp h1 c hc
  rcases Bool.eq_false_or_eq_true (isCode c) with hi | hi
  · exact h2 c (List.mem_filter.mpr ⟨hc, hi⟩)
  · simpa [hi] using h
set_option maxRecDepth 65536 in
theorem w_c0 : (Jvm.Cond.code x code maxLocals ret).before args0 about1 = true := code_word (m := ⟨1, 1⟩) (meth := k1m1) (c := k1c1) (by decide +kernel) rfl rfl rfl (by decide +kernel)
set_option maxRecDepth 65536 in
theorem w_c1 : (Jvm.Cond.code ({ cls := "com/example/rondel/rondel/Simulator$Settling", name := "<init>", desc := "(II)V" } : Jvm.MethodName) prog_73_method_1_code (3 : Nat) (Option.none : Option Jvm.ClassFile.FieldType)).before args0 about1 = true := code_word (m := ⟨2, 0⟩) (meth := k2m0) (c := k2c0) (by decide +kernel) rfl rfl rfl (by decide +kernel)
set_option maxRecDepth 65536 in
theorem w_c2 : (Jvm.Cond.code ({ cls := "java/lang/Object", name := "<init>", desc := "()V" } : Jvm.MethodName) object_method_1_code (1 : Nat) (Option.none : Option Jvm.ClassFile.FieldType)).before args0 about1 = true := code_word (m := ⟨0, 0⟩) (meth := k0m0) (c := k0c0) (by decide +kernel) rfl rfl rfl (by decide +kernel)
set_option maxRecDepth 65536 in
theorem w_c3 : (Jvm.Cond.code ({ cls := "com/example/rondel/rondel/Simulator$Settling", name := "stalled", desc := "(J)Z" } : Jvm.MethodName) prog_73_method_3_code (4 : Nat) (Option.some Jvm.ClassFile.FieldType.boolean)).before args0 about1 = true := code_word (m := ⟨2, 2⟩) (meth := k2m2) (c := k2c2) (by decide +kernel) rfl rfl rfl (by decide +kernel)
set_option maxRecDepth 65536 in
theorem w_c4 : (Jvm.Cond.code ({ cls := "java/lang/Math", name := "min", desc := "(JJ)J" } : Jvm.MethodName) jdk_29_method_70_code (4 : Nat) (Option.some Jvm.ClassFile.FieldType.long)).before args0 about1 = true := code_word (m := ⟨4, 1⟩) (meth := k4m1) (c := k4c1) (by decide +kernel) rfl rfl rfl (by decide +kernel)
set_option maxRecDepth 65536 in
theorem w_c5 : (Jvm.Cond.code ({ cls := "com/example/rondel/rondel/Simulator$Settling", name := "ranRound", desc := "(I)V" } : Jvm.MethodName) prog_73_method_2_code (2 : Nat) (Option.none : Option Jvm.ClassFile.FieldType)).before args0 about1 = true := code_word (m := ⟨2, 1⟩) (meth := k2m1) (c := k2c1) (by decide +kernel) rfl rfl rfl (by decide +kernel)
def codes1 : List Jvm.Cond := [Jvm.Cond.code x code maxLocals ret, Jvm.Cond.code ({ cls := "com/example/rondel/rondel/Simulator$Settling", name := "<init>", desc := "(II)V" } : Jvm.MethodName) prog_73_method_1_code (3 : Nat) (Option.none : Option Jvm.ClassFile.FieldType), Jvm.Cond.code ({ cls := "java/lang/Object", name := "<init>", desc := "()V" } : Jvm.MethodName) object_method_1_code (1 : Nat) (Option.none : Option Jvm.ClassFile.FieldType), Jvm.Cond.code ({ cls := "com/example/rondel/rondel/Simulator$Settling", name := "stalled", desc := "(J)Z" } : Jvm.MethodName) prog_73_method_3_code (4 : Nat) (Option.some Jvm.ClassFile.FieldType.boolean), Jvm.Cond.code ({ cls := "java/lang/Math", name := "min", desc := "(JJ)J" } : Jvm.MethodName) jdk_29_method_70_code (4 : Nat) (Option.some Jvm.ClassFile.FieldType.long), Jvm.Cond.code ({ cls := "com/example/rondel/rondel/Simulator$Settling", name := "ranRound", desc := "(I)V" } : Jvm.MethodName) prog_73_method_2_code (2 : Nat) (Option.none : Option Jvm.ClassFile.FieldType)]
set_option maxRecDepth 65536 in
theorem codes_eq : words1.filter isCode = codes1 := rfl
theorem w_codes : ∀ c ∈ words1.filter isCode, c.before args0 about1 = true := by
  rw [codes_eq]
  intro c hc
  simp only [codes1, List.mem_cons, List.not_mem_nil, or_false] at hc
  rcases hc with rfl | rfl | rfl | rfl | rfl | rfl
  · exact w_c0
  · exact w_c1
  · exact w_c2
  · exact w_c3
  · exact w_c4
  · exact w_c5
set_option maxRecDepth 65536 in
theorem w_t1 : (words1.take 24).all (fun c => isCode c || c.before args0 about1) = true := by decide +kernel
set_option maxRecDepth 65536 in
theorem w_t2 : (words1.drop 24).all (fun c => isCode c || c.before args0 about1) = true := by decide +kernel
theorem w_tables : (allAtoms (Jvm.Cond.code x code maxLocals ret :: tables_1)).before args0 about1 = true := by
  rw [allAtoms_all]
  show words1.all (fun c => c.before args0 about1) = true
  refine all_split ?_ w_codes
  rw [← List.take_append_drop 24 words1, List.all_append, w_t1, w_t2]
  rfl
set_option maxRecDepth 65536 in
theorem w_case : (Jvm.Cond.and given_1 narrow_1).before args0 about1 = true := by decide +kernel
theorem w_applies : (headSpec (Jvm.Cond.code x code maxLocals ret :: tables_1) room_1).applies x e0.platform about1 = true :=
  (Spec.applies_iff w_frames).mpr ⟨w_running, w_runnable, w_alone, w_named, w_hears, w_ripe, w_room, w_tables⟩
theorem atStart : AtStart classFile x code maxLocals ret World_1 tables_1 room_1 Calls_1 rest_1 Pre_1 launch0 p0 e0 about1 theMethod args0 below0 :=
  ⟨lists_1, trivial, launch0.admits_env _ _ _, launch0.least_env, fairChoices_fair.cas, fairChoices_fair.clock, w_frames, w_args, w_heap, w_applies, trivial, trivial, w_case⟩
end start1
theorem witness_1 : WitnessClaimed_1 := ⟨start1.p0, start1.e0, start1.about1, start1.theMethod, start1.args0, start1.below0, start1.atStart⟩
end Jvm.Pilot.@@N@@
