import JvmDerived
import JvmDerived.Pilot.@@N@@Statement
import JvmDerived.Pilot.@@N@@Code
set_option linter.unusedVariables false
set_option linter.unusedSimpArgs false
namespace Jvm.Pilot.@@N@@
open Jvm Jvm.ClassFile Sem Op Lib Jvm.Free Jvm.Stand Jvm.LawKit Jvm.RoadKit Bundle Jvm.Pilot.@@N@@.Jvm.D
def own_Go (tb : Tables) (e : Env) (below : List Frame) (G : State → Outcome → Prop) (s : State) : Prop := ∃ s₂ o, Steps tb e below s s₂ ∧ s₂.status = .running ∧ Ended s₂ below o ∧ G s₂ o
theorem own_up {tb : Tables} {e : Env} {below : List Frame} {G : State → Outcome → Prop} {s s' : State} (f : ∀ t, Steps tb e below s' t → Steps tb e below s t) (h : own_Go tb e below G s') : own_Go tb e below G s := by
  obtain ⟨s₂, o, h1, h2⟩ := h
  exact ⟨s₂, o, f _ h1, h2⟩
theorem own_selp {s : State} {args : Array Value} {y : MethodName} {n : Nat} (hi : (Cond.instantiable y.cls n).before args s = true) (hp : s.PrivateAt y) (hinst : (Cond.instanceMethod y).before args s = true) (hy : y.cls ≠ "java/lang/invoke/MethodHandle" ∧ y.cls ≠ "java/lang/invoke/VarHandle") : (Cond.selects y.cls y y).before args s = true := by
  obtain ⟨c, k, h1, h2, -, h4, -, -⟩ := Cond.instantiable_spec hi
  rw [Bool.or_eq_false_iff] at h4
  exact selects_self_of_private h1 h2 h4.1 hp hinst hy
theorem own_end {p : Program} {l : Launch} {e : Env} {R : Room} {s : State} {m : MethodId} {args : Array Value} {below : List Frame} {meth : Method} {c : Code} {T : State} {locs : List Loc} {cells slots : Nat} (X : Stand p l e R s m args below meth c T locs cells slots) (hlocks : meth.locks = false) {v : Option Value} (hv : meth.sig.returnType = none → v = none) {g : JFrame}
    (step : ∀ fs, (∀ (f : JFrame) (acts : List Action), f.method = m → f.locked = none → f.entered = [] → (doReturn e (T.setTop f) acts v).1 = T.setFrames fs) → Steps p.tables e below (T.setTop g) (T.setFrames fs)) {h : Heap} (eT : T.heap = h) {Q : Option Value → Heap → List Loc → Prop} {kc ks : Nat} (hQ : Q v h locs) (hc : cells ≤ kc) (hs : slots ≤ ks) :
    own_Go p.tables e below (fun u o => ∃ v L, o = .returned v ∧ Q v u.heap L ∧ FrameEnd s o u L kc ks) (T.setTop g) := by
  obtain ⟨fs, hr, hrun, hended, hW, hsame⟩ := X.leave (v := v) hv hlocks
  subst eT
  exact ⟨_, _, step fs hr, hrun, hended, _, _, rfl, hQ, ⟨_, rfl⟩, hW, hsame.mono hc hs⟩
theorem own_other {Z : State} {a0 : Array Value} {C S O K : String} {n : Nat} (w1 : (Cond.superclass C S).before a0 Z = true) (w2 : (Cond.superclass S O).before a0 Z = true) (w3 : (Cond.noSuperclass O).before a0 Z = true) (wi : (Cond.instantiable K n).before a0 Z = true) (h1 : C ≠ K) (h2 : S ≠ K) (h3 : O ≠ K) :
    ∃ c t, Z.vm.findClass C = some c ∧ Z.vm.findClass K = some t ∧ Z.vm.assignable c t = false := by
  obtain ⟨t, kt, t1, t2, t3, t4, -, -⟩ := Cond.instantiable_spec wi
  have root : NS Z O K := by
    obtain ⟨o, ko, o1, o2, o3, -, -⟩ := Cond.noSuperclass_spec w3
    have hne := ids_ne o1 t1 h3
    exact ⟨o, t, o1, t1, fun f => by cases f <;> simp [Vm.isSubclassAux, hne, o2, o3]⟩
  obtain ⟨c, t', c1, c2, hns⟩ := (root.step w2 h2).step w1 h1
  cases t1.symm.trans c2
  obtain ⟨-, kc, -, -, c4, -, -, c5, -, -⟩ := Cond.superclass_spec c1 w1
  have hne := ids_ne c1 t1 h1
  rw [Bool.or_eq_false_iff] at t4
  refine ⟨c, t, c1, t1, ?_⟩
  show Z.vm.assignableAux (255 + 1) c t = false
  simp [Vm.assignableAux, hne, c4, t2, c5, t3, t4.1, Vm.isSubclass, hns]
theorem own_idx {x : Int64} (c1 : ¬ x < (-128 : Int64)) (c2 : ¬ (127 : Int64) < x) : ¬ (x.toInt32 + (128 : Int32)) < 0 ∧ (x.toInt32 + (128 : Int32)) < (256 : Int32) := by
  rw [Int64.lt_iff_toInt_lt, show (-128 : Int64).toInt = -128 from by decide] at c1
  rw [Int64.lt_iff_toInt_lt, show (127 : Int64).toInt = 127 from by decide] at c2
  have h1 := c_l2i x
  have r1 := rng32 x.toInt32
  have h2 := c_iadd x.toInt32 128
  have r2 := rng32 (x.toInt32 + 128)
  rw [show (128 : Int32).toInt = 128 from by decide] at h2
  rw [Int32.lt_iff_toInt_lt, Int32.lt_iff_toInt_lt, show (0 : Int32).toInt = 0 from by decide, show (256 : Int32).toInt = 256 from by decide]
  omega
theorem own_in {cl : Cell} {j : Int32} (hs : cl.slots.size = 256) (h : ¬ j < 0 ∧ j < (256 : Int32)) : ¬ (j < 0 ∨ cl.slots.size ≤ j.toNatClampNeg) :=
  inb_of (z := 256) (by rw [hs]; decide) h
theorem own_flip {a b : Int64} {c d e f : Int32} : (if a = b ∧ c = d ∧ e = f then (1 : Int32) else 0) = if b = a ∧ d = c ∧ f = e then (1 : Int32) else 0 := by
  by_cases h : a = b ∧ c = d ∧ e = f
  · rw [if_pos h, if_pos ⟨h.1.symm, h.2.1.symm, h.2.2.symm⟩]
  · rw [if_neg h, if_neg (fun q => h ⟨q.1.symm, q.2.1.symm, q.2.2.symm⟩)]
theorem own_nn {P : Prop} [Decidable P] (h : P) : (if P then (1 : Int32) else 0) = 1 := if_pos h
theorem own_len {s : State} {args : Array Value} {t : Term} {a : Addr} {cl : Cell} {ty : FieldType} {z : Int32} (ev : t.eval args s none [] s = some (.ref a)) (A : Arr s s.heap a cl ty) (h : (Cond.eq (.length t) (.int z)).value args s none s [] = some true) : cl.slots.size < 2 ^ 31 ∧ cl.slots.size.toInt32 = z := by
  have e4 := eqv_i (Term.int_eval z) h
  simp only [Term.eval, ev, Option.bind_eq_bind, Option.bind_some, A.fin (Vm.Alike.refl _)] at e4
  by_cases q : cl.slots.size < 2 ^ 31
  · rw [if_pos q] at e4
    exact ⟨q, Value.int.inj (Option.some.inj e4)⟩
  · rw [if_neg q] at e4
    cases e4
theorem own_size {s : State} {args : Array Value} {t : Term} {a : Addr} {cl : Cell} {ty : FieldType} (ev : t.eval args s none [] s = some (.ref a)) (A : Arr s s.heap a cl ty) (h : (Cond.eq (.length t) (.int 256)).value args s none s [] = some true) : cl.slots.size = 256 := by
  obtain ⟨q, e⟩ := own_len ev A h
  have S : cl.slots.size = (256 : Int32).toNatClampNeg := by rw [← e]; simp only [Int32.toNatClampNeg, len_toInt q]; rfl
  exact S.trans (by decide)
theorem own_st {C n d : String} {s : State} {args : Array Value} {v : Value} (h : (Term.static C n d).eval args s none [] s = some v) (idx : List Nat) : (Term.static C n d).eval args s none idx s = some v := by
  simpa only [Term.eval] using h
theorem own_cache {s : State} {args : Array Value} {a : Addr} {cl : Cell} {C n d : String} {k : String} {Y : Jvm.Cond} (hev : (Term.static C n d).eval args s none [] s = some (.ref a)) (A : Arr s s.heap a cl (.object k)) (hsz : cl.slots.size = 256)
    (h : (Cond.all (.static C n d) (.and (.exactly (.elem (.static C n d) (.index 0)) k) Y)).value args s none s [] = some true) :
    ∀ j : Int32, ¬ j < 0 → j < (256 : Int32) → ∃ b, cl.slots[j.toNatClampNeg]? = some (.ref b) ∧ Exa s s.heap b k := by
  intro j nn h1
  have hj : ¬ (j < 0 ∨ cl.slots.size ≤ j.toNatClampNeg) := inb_of (z := 256) (by rw [hsz]; decide) ⟨nn, h1⟩
  obtain ⟨u1, u2⟩ := and_e (Cond.all_elim hev (A.fin (Vm.Alike.refl _)) h j.toNatClampNeg (Nat.lt_of_not_le fun x => hj (Or.inr x)))
  obtain ⟨box, eb⟩ := exa_v u1
  exact ⟨box, (elem_f (own_st hev _) (idx_at nn) (A.fin (Vm.Alike.refl _)) nn).symm.trans eb, exa_at eb u1⟩
theorem d_jdk_30_m_1_0 : decode jdk_30_method_1_code 0 = .ok (.aload_n 0, 1) := by decide +kernel
theorem d_jdk_30_m_1_1 : decode jdk_30_method_1_code 1 = .ok (.invokespecial 1, 3) := by decide +kernel
theorem d_jdk_30_m_1_4 : decode jdk_30_method_1_code 4 = .ok (.return_, 1) := by decide +kernel
theorem own_pn0 : plainName "java/lang/Record" = true := by first | (simp [plainName, overriddenIn]; done) | decide +kernel
theorem ef_rmR (m : MethodId) (y0 : Addr) : entryFrame m #[(.ref y0)] 1 = mkF m 0 #[.val (.ref y0)] [] := by first | (simp [entryFrame, mkF, argsToLocals, Value.category]; done) | rfl
def Q_rmR (Z : State) (a : Addr) (h0 : Heap) (n0 : Nat) (v : Option Value) (h : Heap) (L : List Loc) : Prop := v = none ∧ Fr n0 L ∧ h = h0
set_option maxRecDepth 65536 in
set_option maxHeartbeats 40000000 in
theorem rmR (l : Launch) (Z : State) (a0 : Array Value) (hw : ∀ d ∈ tables_1, d.before a0 Z = true) (ws : List Jvm.Cond) (a : Addr) (h0 : Heap) (n0 : Nat) (Z0 : n0 ≤ h0.size) :
    MetFree l (⟨"java/lang/Record", "<init>", "()V"⟩ : MethodName) (head1 (Jvm.Cond.code (⟨"java/lang/Record", "<init>", "()V"⟩ : MethodName) jdk_30_method_1_code 1 none :: ws) ({ frames := 1, cells := 0, slots := 0, locals := 12 } : Room)) (fun ar U => ar = #[(.ref a)] ∧ Z.Warmed39 U.vm ∧ U.heap = h0) (fun _ _ _ _ _ => True) (fun _ U o U' => ∃ v L, o = .returned v ∧ Q_rmR Z a h0 n0 v U'.heap L ∧ FrameEnd U o U' L ({ frames := 1, cells := 0, slots := 0, locals := 12 } : Room).cells ({ frames := 1, cells := 0, slots := 0, locals := 12 } : Room).slots) := by
  refine MetFree.of_bodySF (plainFor_of_name own_pn0) hisR ?_
  intro p e s m args below meth c s₁ Bd hml0 hP hK
  obtain ⟨rfl, hZ, hh⟩ := hP
  have hx := Bd.exec
  have hby := Bd.bytes
  have hlk : meth.locks = false := BodyLoose.notSynchronized Bd
  have hml : c.maxLocals = 1 := hml0
  have hown : s.vm.findClass "java/lang/Record" = some m.cls := findClass_of_methodNamed Bd.named
  have hnm := (name_of_methodNamed Bd.named Bd.method).1
  have X0 : Stand p l e ({ frames := 1, cells := 0, slots := 0, locals := 12 } : Room) s m #[(.ref a)] below meth c s₁ [] 0 0 := Stand.of_body Bd
  have e0 : s₁.heap = h0 := by rw [← hh, Bd.state]; rfl
  have N0 := Fr.nil n0
  show own_Go p.tables e below (fun u o => ∃ v L, o = .returned v ∧ Q_rmR Z a h0 n0 v u.heap L ∧ FrameEnd s o u L ({ frames := 1, cells := 0, slots := 0, locals := 12 } : Room).cells ({ frames := 1, cells := 0, slots := 0, locals := 12 } : Room).slots) (s₁.setTop (entryFrame m #[(.ref a)] 1))
  refine own_up (fun _ k => castTop (ef_rmR m a) k) ?_
  show own_Go p.tables e below _ (s₁.setTop (mkF m 0 #[.val (.ref a)] []))
  refine own_up (fun _ k => XS.aloadN X0.here hx rfl (hb hby d_jdk_30_m_1_0) rfl rfl k) ?_
  show own_Go p.tables e below _ (s₁.setTop (mkF m 1 #[.val (.ref a)] [(.ref a)]))
  obtain ⟨T1, X1, e1, st1⟩ := initO X0 hx hZ hown (hw _ (List.mem_of_getElem? (i := 11) rfl)) (hw _ (List.mem_of_getElem? (i := 12) rfl)) (hw _ (List.mem_of_getElem? (i := 13) rfl)) e0 (g := (mkF m 1 #[.val (.ref a)] [(.ref a)])) rfl (by rw [hml]; rfl) rfl (hb hby d_jdk_30_m_1_1) (by decide) (W := 0) (by show 2 * 0 + _ ≤ _; exact Nat.le_of_eq rfl) (by decide)
  refine own_up st1 ?_
  show own_Go p.tables e below _ (T1.setTop (mkF m 4 #[.val (.ref a)] []))
  exact own_end X1 hlk (v := none) (fun _ => rfl) (fun fs hr => X1.returnOut hx Bd.returns (hb hby d_jdk_30_m_1_4) hr) e1 ⟨rfl, N0, rfl⟩ (by decide) (by decide)
theorem d_prog_49_m_1_0 : decode prog_49_method_1_code 0 = .ok (.aload_n 0, 1) := by decide +kernel
theorem d_prog_49_m_1_1 : decode prog_49_method_1_code 1 = .ok (.invokespecial 3, 3) := by decide +kernel
theorem own_pd0 : parseMethodDescriptor "()V" = some ⟨[], none⟩ := by decide +kernel
theorem d_prog_49_m_1_4 : decode prog_49_method_1_code 4 = .ok (.aload_n 0, 1) := by decide +kernel
theorem d_prog_49_m_1_5 : decode prog_49_method_1_code 5 = .ok (.lload_n 1, 1) := by decide +kernel
theorem d_prog_49_m_1_6 : decode prog_49_method_1_code 6 = .ok (.putfield 9, 3) := by decide +kernel
theorem d_prog_49_m_1_9 : decode prog_49_method_1_code 9 = .ok (.aload_n 0, 1) := by decide +kernel
theorem d_prog_49_m_1_10 : decode prog_49_method_1_code 10 = .ok (.iload_n 3, 1) := by decide +kernel
theorem d_prog_49_m_1_11 : decode prog_49_method_1_code 11 = .ok (.putfield 15, 3) := by decide +kernel
theorem d_prog_49_m_1_14 : decode prog_49_method_1_code 14 = .ok (.aload_n 0, 1) := by decide +kernel
theorem d_prog_49_m_1_15 : decode prog_49_method_1_code 15 = .ok (.iload 4, 2) := by decide +kernel
theorem d_prog_49_m_1_17 : decode prog_49_method_1_code 17 = .ok (.putfield 19, 3) := by decide +kernel
theorem d_prog_49_m_1_20 : decode prog_49_method_1_code 20 = .ok (.return_, 1) := by decide +kernel
theorem own_pn1 : plainName "com/example/hoptrail/hoptrail/store/Journal$Mark" = true := by first | (simp [plainName, overriddenIn]; done) | decide +kernel
theorem ef_rm1 (m : MethodId) (y0 : Addr) (y1 : Int64) (y2 : Int32) (y3 : Int32) : entryFrame m #[(.ref y0), (.long y1), (.int y2), (.int y3)] 5 = mkF m 0 #[.val (.ref y0), .val (.long y1), .second, .val (.int y2), .val (.int y3)] [] := by first | (simp [entryFrame, mkF, argsToLocals, Value.category]; done) | rfl
def Q_rm1 (Z : State) (a : Addr) (xa : Int64) (xl : Int32) (xc : Int32) (h0 : Heap) (n0 : Nat) (v : Option Value) (h : Heap) (L : List Loc) : Prop := v = none ∧ Fr n0 L ∧ Keep h0 h [a] ∧ Exa Z h a "com/example/hoptrail/hoptrail/store/Journal$Mark" ∧ Fld Z h a "com/example/hoptrail/hoptrail/store/Journal$Mark" "at" "J" (.long xa) ∧ Fld Z h a "com/example/hoptrail/hoptrail/store/Journal$Mark" "length" "I" (.int xl) ∧ Fld Z h a "com/example/hoptrail/hoptrail/store/Journal$Mark" "checksum" "I" (.int xc)
set_option maxRecDepth 65536 in
set_option maxHeartbeats 40000000 in
theorem rm1 (l : Launch) (Z : State) (a0 : Array Value) (hw : ∀ d ∈ tables_1, d.before a0 Z = true) (ws : List Jvm.Cond) (a : Addr) (xa : Int64) (xl : Int32) (xc : Int32) (h0 : Heap) (n0 : Nat) (Z0 : n0 ≤ h0.size) (E : Exa Z h0 a "com/example/hoptrail/hoptrail/store/Journal$Mark") (F1 : Fld Z h0 a "com/example/hoptrail/hoptrail/store/Journal$Mark" "at" "J" (.long (0 : Int64))) (F2 : Fld Z h0 a "com/example/hoptrail/hoptrail/store/Journal$Mark" "length" "I" (.int (0 : Int32))) (F3 : Fld Z h0 a "com/example/hoptrail/hoptrail/store/Journal$Mark" "checksum" "I" (.int (0 : Int32))) (G : n0 ≤ a) :
    MetFree l (⟨"com/example/hoptrail/hoptrail/store/Journal$Mark", "<init>", "(JII)V"⟩ : MethodName) (head1 (Jvm.Cond.code (⟨"com/example/hoptrail/hoptrail/store/Journal$Mark", "<init>", "(JII)V"⟩ : MethodName) prog_49_method_1_code 5 none :: ws) ({ frames := 2, cells := 0, slots := 0, locals := 24 } : Room)) (fun ar U => ar = #[(.ref a), (.long xa), (.int xl), (.int xc)] ∧ Z.Warmed39 U.vm ∧ U.heap = h0) (fun _ _ _ _ _ => True) (fun _ U o U' => ∃ v L, o = .returned v ∧ Q_rm1 Z a xa xl xc h0 n0 v U'.heap L ∧ FrameEnd U o U' L ({ frames := 2, cells := 0, slots := 0, locals := 24 } : Room).cells ({ frames := 2, cells := 0, slots := 0, locals := 24 } : Room).slots) := by
  refine MetFree.of_bodySF (plainFor_of_name own_pn1) hisR ?_
  intro p e s m args below meth c s₁ Bd hml0 hP hK
  obtain ⟨rfl, hZ, hh⟩ := hP
  have hx := Bd.exec
  have hby := Bd.bytes
  have hlk : meth.locks = false := BodyLoose.notSynchronized Bd
  have hml : c.maxLocals = 5 := hml0
  have hown : s.vm.findClass "com/example/hoptrail/hoptrail/store/Journal$Mark" = some m.cls := findClass_of_methodNamed Bd.named
  have hnm := (name_of_methodNamed Bd.named Bd.method).1
  have X0 : Stand p l e ({ frames := 2, cells := 0, slots := 0, locals := 24 } : Room) s m #[(.ref a), (.long xa), (.int xl), (.int xc)] below meth c s₁ [] 0 0 := Stand.of_body Bd
  have e0 : s₁.heap = h0 := by rw [← hh, Bd.state]; rfl
  have N0 := Fr.nil n0
  show own_Go p.tables e below (fun u o => ∃ v L, o = .returned v ∧ Q_rm1 Z a xa xl xc h0 n0 v u.heap L ∧ FrameEnd s o u L ({ frames := 2, cells := 0, slots := 0, locals := 24 } : Room).cells ({ frames := 2, cells := 0, slots := 0, locals := 24 } : Room).slots) (s₁.setTop (entryFrame m #[(.ref a), (.long xa), (.int xl), (.int xc)] 5))
  refine own_up (fun _ k => castTop (ef_rm1 m a xa xl xc) k) ?_
  show own_Go p.tables e below _ (s₁.setTop (mkF m 0 #[.val (.ref a), .val (.long xa), .second, .val (.int xl), .val (.int xc)] []))
  refine own_up (fun _ k => XS.aloadN X0.here hx rfl (hb hby d_prog_49_m_1_0) rfl rfl k) ?_
  show own_Go p.tables e below _ (s₁.setTop (mkF m 1 #[.val (.ref a), .val (.long xa), .second, .val (.int xl), .val (.int xc)] [(.ref a)]))
  obtain ⟨_, _, ⟨T1, L1, k1, n1⟩, -, X1, ⟨Lc1, hQ1, l1, y1, z1⟩, st1⟩ := X0.specialBack hx (y := (⟨"java/lang/Record", "<init>", "()V"⟩ : MethodName)) rfl hown (mvT hZ (hw _ (List.mem_of_getElem? (i := 6) rfl))) (mvT hZ (hw _ (List.mem_of_getElem? (i := 7) rfl))) (mvT hZ (hw _ (List.mem_of_getElem? (i := 10) rfl))) (by decide) (backOf (W := 0) (rmR l Z a0 hw [] a h0 n0 Z0 ) hZ (hw _ (List.mem_of_getElem? (i := 10) rfl)) (hw _ (List.mem_of_getElem? (i := 9) rfl)) (by decide) (by decide)) (g := (mkF m 1 #[.val (.ref a), .val (.long xa), .second, .val (.int xl), .val (.int xc)] [(.ref a)])) rfl (by rw [hml]; rfl) (Steps.refl _) (a := a) (argsL := []) (rest := []) (lenOf own_pd0 rfl) rfl (by show 2 * 0 + _ ≤ _; exact Nat.le_of_eq rfl) (hb hby d_prog_49_m_1_1) (fun _ _ => ⟨rfl, e0, (by decide : 0 + 0 ≤ _), (by decide : 0 + 0 ≤ _)⟩)
  dsimp only [Pt.U, Pt.locs, Pt.cells, Pt.slots] at X1 l1 y1 z1 st1 hQ1
  subst l1 y1 z1
  obtain ⟨rfl, N1q, eq1⟩ := hQ1
  have N1 := Fr.app N0 N1q
  refine own_up (fun _ k => st1.trans k) ?_
  show own_Go p.tables e below _ (T1.setTop (mkF m 4 #[.val (.ref a), .val (.long xa), .second, .val (.int xl), .val (.int xc)] []))
  refine own_up (fun _ k => XS.aloadN X1.here hx rfl (hb hby d_prog_49_m_1_4) rfl rfl k) ?_
  show own_Go p.tables e below _ (T1.setTop (mkF m 5 #[.val (.ref a), .val (.long xa), .second, .val (.int xl), .val (.int xc)] [(.ref a)]))
  refine own_up (fun _ k => XS.lloadN X1.here hx rfl (hb hby d_prog_49_m_1_5) rfl k) ?_
  show own_Go p.tables e below _ (T1.setTop (mkF m 6 #[.val (.ref a), .val (.long xa), .second, .val (.int xl), .val (.int xc)] [(.long xa), (.ref a)]))
  obtain ⟨T2, h2, X2, e2, W2, st2⟩ := putF X1 hx hZ hown (host := "") (Or.inl (hw _ (List.mem_of_getElem? (i := 14) rfl))) Via.refl eq1 F1 E (Or.inr ⟨(hw _ (List.mem_of_getElem? (i := 15) rfl)), rfl, hnm⟩) (hw _ (List.mem_of_getElem? (i := 1) rfl)) (ty := .long) (by decide) rfl rfl (g := (mkF m 6 #[.val (.ref a), .val (.long xa), .second, .val (.int xl), .val (.int xc)] [(.long xa), (.ref a)])) rfl rfl (hb hby d_prog_49_m_1_6)
  have Fw2 := F1.same W2
  have N2 := Fr.snoc X2 N1 G
  refine own_up st2 ?_
  show own_Go p.tables e below _ (T2.setTop (mkF m 9 #[.val (.ref a), .val (.long xa), .second, .val (.int xl), .val (.int xc)] []))
  refine own_up (fun _ k => XS.aloadN X2.here hx rfl (hb hby d_prog_49_m_1_9) rfl rfl k) ?_
  show own_Go p.tables e below _ (T2.setTop (mkF m 10 #[.val (.ref a), .val (.long xa), .second, .val (.int xl), .val (.int xc)] [(.ref a)]))
  refine own_up (fun _ k => XS.iloadN X2.here hx rfl (hb hby d_prog_49_m_1_10) rfl k) ?_
  show own_Go p.tables e below _ (T2.setTop (mkF m 11 #[.val (.ref a), .val (.long xa), .second, .val (.int xl), .val (.int xc)] [(.int xl), (.ref a)]))
  have f3 : Fld Z h2 a "com/example/hoptrail/hoptrail/store/Journal$Mark" "length" "I" (.int (0 : Int32)) := (F2.other W2 (Or.inr (slot_ne (Or.inr (hw _ (List.mem_of_getElem? (i := 17) rfl))) (Or.inr (hw _ (List.mem_of_getElem? (i := 15) rfl))) (by decide) (t := .int) (t' := .long) (by decide) (by decide))))
  have f4 : Exa Z h2 a "com/example/hoptrail/hoptrail/store/Journal$Mark" := (E.wr W2)
  obtain ⟨T5, h5, X5, e5, W5, st5⟩ := putF X2 hx hZ hown (host := "") (Or.inl (hw _ (List.mem_of_getElem? (i := 16) rfl))) Via.refl e2 f3 f4 (Or.inr ⟨(hw _ (List.mem_of_getElem? (i := 17) rfl)), rfl, hnm⟩) (hw _ (List.mem_of_getElem? (i := 1) rfl)) (ty := .int) (by decide) rfl rfl (g := (mkF m 11 #[.val (.ref a), .val (.long xa), .second, .val (.int xl), .val (.int xc)] [(.int xl), (.ref a)])) rfl rfl (hb hby d_prog_49_m_1_11)
  have Fw5 := f3.same W5
  have N5 := Fr.snoc X5 N2 G
  refine own_up st5 ?_
  show own_Go p.tables e below _ (T5.setTop (mkF m 14 #[.val (.ref a), .val (.long xa), .second, .val (.int xl), .val (.int xc)] []))
  refine own_up (fun _ k => XS.aloadN X5.here hx rfl (hb hby d_prog_49_m_1_14) rfl rfl k) ?_
  show own_Go p.tables e below _ (T5.setTop (mkF m 15 #[.val (.ref a), .val (.long xa), .second, .val (.int xl), .val (.int xc)] [(.ref a)]))
  refine own_up (fun _ k => XS.iload X5.here hx rfl (hb hby d_prog_49_m_1_15) rfl k) ?_
  show own_Go p.tables e below _ (T5.setTop (mkF m 17 #[.val (.ref a), .val (.long xa), .second, .val (.int xl), .val (.int xc)] [(.int xc), (.ref a)]))
  have f6 : Fld Z h5 a "com/example/hoptrail/hoptrail/store/Journal$Mark" "checksum" "I" (.int (0 : Int32)) := ((F3.other W2 (Or.inr (slot_ne (Or.inr (hw _ (List.mem_of_getElem? (i := 19) rfl))) (Or.inr (hw _ (List.mem_of_getElem? (i := 15) rfl))) (by decide) (t := .int) (t' := .long) (by decide) (by decide)))).other W5 (Or.inr (slot_ne (Or.inr (hw _ (List.mem_of_getElem? (i := 19) rfl))) (Or.inr (hw _ (List.mem_of_getElem? (i := 17) rfl))) (by decide) (t := .int) (t' := .int) (by decide) (by decide))))
  have f7 : Exa Z h5 a "com/example/hoptrail/hoptrail/store/Journal$Mark" := (f4.wr W5)
  obtain ⟨T8, h8, X8, e8, W8, st8⟩ := putF X5 hx hZ hown (host := "") (Or.inl (hw _ (List.mem_of_getElem? (i := 18) rfl))) Via.refl e5 f6 f7 (Or.inr ⟨(hw _ (List.mem_of_getElem? (i := 19) rfl)), rfl, hnm⟩) (hw _ (List.mem_of_getElem? (i := 1) rfl)) (ty := .int) (by decide) rfl rfl (g := (mkF m 17 #[.val (.ref a), .val (.long xa), .second, .val (.int xl), .val (.int xc)] [(.int xc), (.ref a)])) rfl rfl (hb hby d_prog_49_m_1_17)
  have Fw8 := f6.same W8
  have N8 := Fr.snoc X8 N5 G
  refine own_up st8 ?_
  show own_Go p.tables e below _ (T8.setTop (mkF m 20 #[.val (.ref a), .val (.long xa), .second, .val (.int xl), .val (.int xc)] []))
  have f9 : Exa Z h8 a "com/example/hoptrail/hoptrail/store/Journal$Mark" := (f7.wr W8)
  have f10 : Fld Z h8 a "com/example/hoptrail/hoptrail/store/Journal$Mark" "at" "J" (.long xa) := ((Fw2.other W5 (Or.inr (slot_ne (Or.inr (hw _ (List.mem_of_getElem? (i := 15) rfl))) (Or.inr (hw _ (List.mem_of_getElem? (i := 17) rfl))) (by decide) (t := .long) (t' := .int) (by decide) (by decide)))).other W8 (Or.inr (slot_ne (Or.inr (hw _ (List.mem_of_getElem? (i := 15) rfl))) (Or.inr (hw _ (List.mem_of_getElem? (i := 19) rfl))) (by decide) (t := .long) (t' := .int) (by decide) (by decide))))
  have f11 : Fld Z h8 a "com/example/hoptrail/hoptrail/store/Journal$Mark" "length" "I" (.int xl) := (Fw5.other W8 (Or.inr (slot_ne (Or.inr (hw _ (List.mem_of_getElem? (i := 17) rfl))) (Or.inr (hw _ (List.mem_of_getElem? (i := 19) rfl))) (by decide) (t := .int) (t' := .int) (by decide) (by decide))))
  exact own_end X8 hlk (v := none) (fun _ => rfl) (fun fs hr => X8.returnOut hx Bd.returns (hb hby d_prog_49_m_1_20) hr) e8 ⟨rfl, N8, ((((Keep.refl h0 [a]).wr W2 (Or.inl (List.mem_of_getElem? (i := 0) rfl))).wr W5 (Or.inl (List.mem_of_getElem? (i := 0) rfl))).wr W8 (Or.inl (List.mem_of_getElem? (i := 0) rfl))), f9, f10, f11, Fw8⟩ (by decide) (by decide)
theorem d_jdk_18_m_1_0 : decode jdk_18_method_1_code 0 = .ok (.aload_n 0, 1) := by decide +kernel
theorem d_jdk_18_m_1_1 : decode jdk_18_method_1_code 1 = .ok (.invokespecial 1, 3) := by decide +kernel
theorem d_jdk_18_m_1_4 : decode jdk_18_method_1_code 4 = .ok (.return_, 1) := by decide +kernel
theorem own_pn2 : plainName "java/lang/Number" = true := by first | (simp [plainName, overriddenIn]; done) | decide +kernel
theorem ef_rmN (m : MethodId) (y0 : Addr) : entryFrame m #[(.ref y0)] 1 = mkF m 0 #[.val (.ref y0)] [] := by first | (simp [entryFrame, mkF, argsToLocals, Value.category]; done) | rfl
def Q_rmN (Z : State) (a : Addr) (h0 : Heap) (n0 : Nat) (v : Option Value) (h : Heap) (L : List Loc) : Prop := v = none ∧ Fr n0 L ∧ h = h0
set_option maxRecDepth 65536 in
set_option maxHeartbeats 40000000 in
theorem rmN (l : Launch) (Z : State) (a0 : Array Value) (hw : ∀ d ∈ tables_1, d.before a0 Z = true) (ws : List Jvm.Cond) (a : Addr) (h0 : Heap) (n0 : Nat) (Z0 : n0 ≤ h0.size) :
    MetFree l (⟨"java/lang/Number", "<init>", "()V"⟩ : MethodName) (head1 (Jvm.Cond.code (⟨"java/lang/Number", "<init>", "()V"⟩ : MethodName) jdk_18_method_1_code 1 none :: ws) ({ frames := 1, cells := 0, slots := 0, locals := 12 } : Room)) (fun ar U => ar = #[(.ref a)] ∧ Z.Warmed39 U.vm ∧ U.heap = h0) (fun _ _ _ _ _ => True) (fun _ U o U' => ∃ v L, o = .returned v ∧ Q_rmN Z a h0 n0 v U'.heap L ∧ FrameEnd U o U' L ({ frames := 1, cells := 0, slots := 0, locals := 12 } : Room).cells ({ frames := 1, cells := 0, slots := 0, locals := 12 } : Room).slots) := by
  refine MetFree.of_bodySF (plainFor_of_name own_pn2) hisR ?_
  intro p e s m args below meth c s₁ Bd hml0 hP hK
  obtain ⟨rfl, hZ, hh⟩ := hP
  have hx := Bd.exec
  have hby := Bd.bytes
  have hlk : meth.locks = false := BodyLoose.notSynchronized Bd
  have hml : c.maxLocals = 1 := hml0
  have hown : s.vm.findClass "java/lang/Number" = some m.cls := findClass_of_methodNamed Bd.named
  have hnm := (name_of_methodNamed Bd.named Bd.method).1
  have X0 : Stand p l e ({ frames := 1, cells := 0, slots := 0, locals := 12 } : Room) s m #[(.ref a)] below meth c s₁ [] 0 0 := Stand.of_body Bd
  have e0 : s₁.heap = h0 := by rw [← hh, Bd.state]; rfl
  have N0 := Fr.nil n0
  show own_Go p.tables e below (fun u o => ∃ v L, o = .returned v ∧ Q_rmN Z a h0 n0 v u.heap L ∧ FrameEnd s o u L ({ frames := 1, cells := 0, slots := 0, locals := 12 } : Room).cells ({ frames := 1, cells := 0, slots := 0, locals := 12 } : Room).slots) (s₁.setTop (entryFrame m #[(.ref a)] 1))
  refine own_up (fun _ k => castTop (ef_rmN m a) k) ?_
  show own_Go p.tables e below _ (s₁.setTop (mkF m 0 #[.val (.ref a)] []))
  refine own_up (fun _ k => XS.aloadN X0.here hx rfl (hb hby d_jdk_18_m_1_0) rfl rfl k) ?_
  show own_Go p.tables e below _ (s₁.setTop (mkF m 1 #[.val (.ref a)] [(.ref a)]))
  obtain ⟨T1, X1, e1, st1⟩ := initO X0 hx hZ hown (hw _ (List.mem_of_getElem? (i := 45) rfl)) (hw _ (List.mem_of_getElem? (i := 12) rfl)) (hw _ (List.mem_of_getElem? (i := 13) rfl)) e0 (g := (mkF m 1 #[.val (.ref a)] [(.ref a)])) rfl (by rw [hml]; rfl) rfl (hb hby d_jdk_18_m_1_1) (by decide) (W := 0) (by show 2 * 0 + _ ≤ _; exact Nat.le_of_eq rfl) (by decide)
  refine own_up st1 ?_
  show own_Go p.tables e below _ (T1.setTop (mkF m 4 #[.val (.ref a)] []))
  exact own_end X1 hlk (v := none) (fun _ => rfl) (fun fs hr => X1.returnOut hx Bd.returns (hb hby d_jdk_18_m_1_4) hr) e1 ⟨rfl, N0, rfl⟩ (by decide) (by decide)
theorem d_jdk_35_m_26_0 : decode jdk_35_method_26_code 0 = .ok (.aload_n 0, 1) := by decide +kernel
theorem d_jdk_35_m_26_1 : decode jdk_35_method_26_code 1 = .ok (.invokespecial 270, 3) := by decide +kernel
theorem d_jdk_35_m_26_4 : decode jdk_35_method_26_code 4 = .ok (.aload_n 0, 1) := by decide +kernel
theorem d_jdk_35_m_26_5 : decode jdk_35_method_26_code 5 = .ok (.lload_n 1, 1) := by decide +kernel
theorem d_jdk_35_m_26_6 : decode jdk_35_method_26_code 6 = .ok (.putfield 273, 3) := by decide +kernel
theorem d_jdk_35_m_26_9 : decode jdk_35_method_26_code 9 = .ok (.return_, 1) := by decide +kernel
theorem own_pn3 : plainName "java/lang/Long" = true := by first | (simp [plainName, overriddenIn]; done) | decide +kernel
theorem ef_rm2 (m : MethodId) (y0 : Addr) (y1 : Int64) : entryFrame m #[(.ref y0), (.long y1)] 3 = mkF m 0 #[.val (.ref y0), .val (.long y1), .second] [] := by first | (simp [entryFrame, mkF, argsToLocals, Value.category]; done) | rfl
def Q_rm2 (Z : State) (a : Addr) (xv : Int64) (h0 : Heap) (n0 : Nat) (v : Option Value) (h : Heap) (L : List Loc) : Prop := v = none ∧ Fr n0 L ∧ Keep h0 h [a] ∧ Exa Z h a "java/lang/Long"
set_option maxRecDepth 65536 in
set_option maxHeartbeats 40000000 in
theorem rm2 (l : Launch) (Z : State) (a0 : Array Value) (hw : ∀ d ∈ tables_1, d.before a0 Z = true) (ws : List Jvm.Cond) (a : Addr) (xv : Int64) (h0 : Heap) (n0 : Nat) (Z0 : n0 ≤ h0.size) (E : Exa Z h0 a "java/lang/Long") (F1 : Fld Z h0 a "java/lang/Long" "value" "J" (.long (0 : Int64))) (G : n0 ≤ a) :
    MetFree l (⟨"java/lang/Long", "<init>", "(J)V"⟩ : MethodName) (head1 (Jvm.Cond.code (⟨"java/lang/Long", "<init>", "(J)V"⟩ : MethodName) jdk_35_method_26_code 3 none :: ws) ({ frames := 2, cells := 0, slots := 0, locals := 24 } : Room)) (fun ar U => ar = #[(.ref a), (.long xv)] ∧ Z.Warmed39 U.vm ∧ U.heap = h0) (fun _ _ _ _ _ => True) (fun _ U o U' => ∃ v L, o = .returned v ∧ Q_rm2 Z a xv h0 n0 v U'.heap L ∧ FrameEnd U o U' L ({ frames := 2, cells := 0, slots := 0, locals := 24 } : Room).cells ({ frames := 2, cells := 0, slots := 0, locals := 24 } : Room).slots) := by
  refine MetFree.of_bodySF (plainFor_of_name own_pn3) hisR ?_
  intro p e s m args below meth c s₁ Bd hml0 hP hK
  obtain ⟨rfl, hZ, hh⟩ := hP
  have hx := Bd.exec
  have hby := Bd.bytes
  have hlk : meth.locks = false := BodyLoose.notSynchronized Bd
  have hml : c.maxLocals = 3 := hml0
  have hown : s.vm.findClass "java/lang/Long" = some m.cls := findClass_of_methodNamed Bd.named
  have hnm := (name_of_methodNamed Bd.named Bd.method).1
  have X0 : Stand p l e ({ frames := 2, cells := 0, slots := 0, locals := 24 } : Room) s m #[(.ref a), (.long xv)] below meth c s₁ [] 0 0 := Stand.of_body Bd
  have e0 : s₁.heap = h0 := by rw [← hh, Bd.state]; rfl
  have N0 := Fr.nil n0
  show own_Go p.tables e below (fun u o => ∃ v L, o = .returned v ∧ Q_rm2 Z a xv h0 n0 v u.heap L ∧ FrameEnd s o u L ({ frames := 2, cells := 0, slots := 0, locals := 24 } : Room).cells ({ frames := 2, cells := 0, slots := 0, locals := 24 } : Room).slots) (s₁.setTop (entryFrame m #[(.ref a), (.long xv)] 3))
  refine own_up (fun _ k => castTop (ef_rm2 m a xv) k) ?_
  show own_Go p.tables e below _ (s₁.setTop (mkF m 0 #[.val (.ref a), .val (.long xv), .second] []))
  refine own_up (fun _ k => XS.aloadN X0.here hx rfl (hb hby d_jdk_35_m_26_0) rfl rfl k) ?_
  show own_Go p.tables e below _ (s₁.setTop (mkF m 1 #[.val (.ref a), .val (.long xv), .second] [(.ref a)]))
  obtain ⟨_, _, ⟨T1, L1, k1, n1⟩, -, X1, ⟨Lc1, hQ1, l1, y1, z1⟩, st1⟩ := X0.specialBack hx (y := (⟨"java/lang/Number", "<init>", "()V"⟩ : MethodName)) rfl hown (mvT hZ (hw _ (List.mem_of_getElem? (i := 39) rfl))) (mvT hZ (hw _ (List.mem_of_getElem? (i := 40) rfl))) (mvT hZ (hw _ (List.mem_of_getElem? (i := 44) rfl))) (by decide) (backOf (W := 0) (rmN l Z a0 hw [] a h0 n0 Z0 ) hZ (hw _ (List.mem_of_getElem? (i := 44) rfl)) (hw _ (List.mem_of_getElem? (i := 43) rfl)) (by decide) (by decide)) (g := (mkF m 1 #[.val (.ref a), .val (.long xv), .second] [(.ref a)])) rfl (by rw [hml]; rfl) (Steps.refl _) (a := a) (argsL := []) (rest := []) (lenOf own_pd0 rfl) rfl (by show 2 * 0 + _ ≤ _; exact Nat.le_of_eq rfl) (hb hby d_jdk_35_m_26_1) (fun _ _ => ⟨rfl, e0, (by decide : 0 + 0 ≤ _), (by decide : 0 + 0 ≤ _)⟩)
  dsimp only [Pt.U, Pt.locs, Pt.cells, Pt.slots] at X1 l1 y1 z1 st1 hQ1
  subst l1 y1 z1
  obtain ⟨rfl, N1q, eq1⟩ := hQ1
  have N1 := Fr.app N0 N1q
  refine own_up (fun _ k => st1.trans k) ?_
  show own_Go p.tables e below _ (T1.setTop (mkF m 4 #[.val (.ref a), .val (.long xv), .second] []))
  refine own_up (fun _ k => XS.aloadN X1.here hx rfl (hb hby d_jdk_35_m_26_4) rfl rfl k) ?_
  show own_Go p.tables e below _ (T1.setTop (mkF m 5 #[.val (.ref a), .val (.long xv), .second] [(.ref a)]))
  refine own_up (fun _ k => XS.lloadN X1.here hx rfl (hb hby d_jdk_35_m_26_5) rfl k) ?_
  show own_Go p.tables e below _ (T1.setTop (mkF m 6 #[.val (.ref a), .val (.long xv), .second] [(.long xv), (.ref a)]))
  obtain ⟨T2, h2, X2, e2, W2, st2⟩ := putF X1 hx hZ hown (host := "") (Or.inl (hw _ (List.mem_of_getElem? (i := 46) rfl))) Via.refl eq1 F1 E (Or.inr ⟨(hw _ (List.mem_of_getElem? (i := 47) rfl)), rfl, hnm⟩) (hw _ (List.mem_of_getElem? (i := 34) rfl)) (ty := .long) (by decide) rfl rfl (g := (mkF m 6 #[.val (.ref a), .val (.long xv), .second] [(.long xv), (.ref a)])) rfl rfl (hb hby d_jdk_35_m_26_6)
  have Fw2 := F1.same W2
  have N2 := Fr.snoc X2 N1 G
  refine own_up st2 ?_
  show own_Go p.tables e below _ (T2.setTop (mkF m 9 #[.val (.ref a), .val (.long xv), .second] []))
  have f3 : Exa Z h2 a "java/lang/Long" := (E.wr W2)
  exact own_end X2 hlk (v := none) (fun _ => rfl) (fun fs hr => X2.returnOut hx Bd.returns (hb hby d_jdk_35_m_26_9) hr) e2 ⟨rfl, N2, ((Keep.refl h0 [a]).wr W2 (Or.inl (List.mem_of_getElem? (i := 0) rfl))), f3⟩ (by decide) (by decide)
theorem d_jdk_35_m_24_0 : decode jdk_35_method_24_code 0 = .ok (.sipush 128, 3) := by decide +kernel
theorem d_jdk_35_m_24_3 : decode jdk_35_method_24_code 3 = .ok (.istore_n 2, 1) := by decide +kernel
theorem d_jdk_35_m_24_4 : decode jdk_35_method_24_code 4 = .ok (.lload_n 0, 1) := by decide +kernel
theorem d_jdk_35_m_24_5 : decode jdk_35_method_24_code 5 = .ok (.ldc2_w 230, 3) := by decide +kernel
theorem d_jdk_35_m_24_8 : decode jdk_35_method_24_code 8 = .ok (.lcmp, 1) := by decide +kernel
theorem d_jdk_35_m_24_9 : decode jdk_35_method_24_code 9 = .ok (.ifCond .lt 22, 3) := by decide +kernel
theorem d_jdk_35_m_24_31 : decode jdk_35_method_24_code 31 = .ok (.new 1, 3) := by decide +kernel
theorem d_jdk_35_m_24_34 : decode jdk_35_method_24_code 34 = .ok (.dup, 1) := by decide +kernel
theorem d_jdk_35_m_24_35 : decode jdk_35_method_24_code 35 = .ok (.lload_n 0, 1) := by decide +kernel
theorem d_jdk_35_m_24_36 : decode jdk_35_method_24_code 36 = .ok (.invokespecial 240, 3) := by decide +kernel
theorem own_pd1 : parseMethodDescriptor "(J)V" = some ⟨[.long], none⟩ := by decide +kernel
theorem d_jdk_35_m_24_39 : decode jdk_35_method_24_code 39 = .ok (.areturn, 1) := by decide +kernel
theorem d_jdk_35_m_24_12 : decode jdk_35_method_24_code 12 = .ok (.lload_n 0, 1) := by decide +kernel
theorem d_jdk_35_m_24_13 : decode jdk_35_method_24_code 13 = .ok (.ldc2_w 232, 3) := by decide +kernel
theorem d_jdk_35_m_24_16 : decode jdk_35_method_24_code 16 = .ok (.lcmp, 1) := by decide +kernel
theorem d_jdk_35_m_24_17 : decode jdk_35_method_24_code 17 = .ok (.ifCond .gt 14, 3) := by decide +kernel
theorem d_jdk_35_m_24_20 : decode jdk_35_method_24_code 20 = .ok (.getstatic 234, 3) := by decide +kernel
theorem d_jdk_35_m_24_23 : decode jdk_35_method_24_code 23 = .ok (.lload_n 0, 1) := by decide +kernel
theorem d_jdk_35_m_24_24 : decode jdk_35_method_24_code 24 = .ok (.l2i, 1) := by decide +kernel
theorem d_jdk_35_m_24_25 : decode jdk_35_method_24_code 25 = .ok (.sipush 128, 3) := by decide +kernel
theorem d_jdk_35_m_24_28 : decode jdk_35_method_24_code 28 = .ok (.iadd, 1) := by decide +kernel
theorem d_jdk_35_m_24_29 : decode jdk_35_method_24_code 29 = .ok (.aaload, 1) := by decide +kernel
theorem d_jdk_35_m_24_30 : decode jdk_35_method_24_code 30 = .ok (.areturn, 1) := by decide +kernel
theorem ef_rm3 (m : MethodId) (y0 : Int64) : entryFrame m #[(.long y0)] 3 = mkF m 0 #[.val (.long y0), .second, .unset] [] := by first | (simp [entryFrame, mkF, argsToLocals, Value.category]; done) | rfl
def Q_rm3 (Z : State) (xv : Int64) (ca : Addr) (cl : Cell) (h0 : Heap) (n0 : Nat) (v : Option Value) (h : Heap) (L : List Loc) : Prop := ∃ (bl : Addr), v = some (.ref bl) ∧ Fr n0 L ∧ Keep h0 h [] ∧ Exa Z h bl "java/lang/Long"
set_option maxRecDepth 65536 in
set_option maxHeartbeats 40000000 in
theorem rm3 (l : Launch) (Z : State) (a0 : Array Value) (hw : ∀ d ∈ tables_1, d.before a0 Z = true) (ws : List Jvm.Cond) (xv : Int64) (ca : Addr) (cl : Cell) (h0 : Heap) (n0 : Nat) (Z0 : n0 ≤ h0.size) (O : Old Z n0 h0) (S : Sta Z Z.heap "java/lang/Long$LongCache" "cache" "[Ljava/lang/Long;" (.ref ca)) (A : Arr Z Z.heap ca cl (.object "java/lang/Long")) (hsz : cl.slots.size = 256) (hcache : ∀ j : Int32, ¬ j < 0 → j < (256 : Int32) → ∃ b, cl.slots[j.toNatClampNeg]? = some (.ref b) ∧ Exa Z Z.heap b "java/lang/Long") :
    MetFree l (⟨"java/lang/Long", "valueOf", "(J)Ljava/lang/Long;"⟩ : MethodName) (head1 (Jvm.Cond.code (⟨"java/lang/Long", "valueOf", "(J)Ljava/lang/Long;"⟩ : MethodName) jdk_35_method_24_code 3 (some (.object "java/lang/Long")) :: ws) ({ frames := 3, cells := 1, slots := 1, locals := 39 } : Room)) (fun ar U => ar = #[(.long xv)] ∧ Z.Warmed39 U.vm ∧ U.heap = h0) (fun _ _ _ _ _ => True) (fun _ U o U' => ∃ v L, o = .returned v ∧ Q_rm3 Z xv ca cl h0 n0 v U'.heap L ∧ FrameEnd U o U' L ({ frames := 3, cells := 1, slots := 1, locals := 39 } : Room).cells ({ frames := 3, cells := 1, slots := 1, locals := 39 } : Room).slots) := by
  refine MetFree.of_bodySF (plainFor_of_name own_pn3) hisR ?_
  intro p e s m args below meth c s₁ Bd hml0 hP hK
  obtain ⟨rfl, hZ, hh⟩ := hP
  have hx := Bd.exec
  have hby := Bd.bytes
  have hlk : meth.locks = false := BodyLoose.notSynchronized Bd
  have hml : c.maxLocals = 3 := hml0
  have hown : s.vm.findClass "java/lang/Long" = some m.cls := findClass_of_methodNamed Bd.named
  have hnm := (name_of_methodNamed Bd.named Bd.method).1
  have X0 : Stand p l e ({ frames := 3, cells := 1, slots := 1, locals := 39 } : Room) s m #[(.long xv)] below meth c s₁ [] 0 0 := Stand.of_body Bd
  have e0 : s₁.heap = h0 := by rw [← hh, Bd.state]; rfl
  have N0 := Fr.nil n0
  show own_Go p.tables e below (fun u o => ∃ v L, o = .returned v ∧ Q_rm3 Z xv ca cl h0 n0 v u.heap L ∧ FrameEnd s o u L ({ frames := 3, cells := 1, slots := 1, locals := 39 } : Room).cells ({ frames := 3, cells := 1, slots := 1, locals := 39 } : Room).slots) (s₁.setTop (entryFrame m #[(.long xv)] 3))
  refine own_up (fun _ k => castTop (ef_rm3 m xv) k) ?_
  show own_Go p.tables e below _ (s₁.setTop (mkF m 0 #[.val (.long xv), .second, .unset] []))
  refine own_up (fun _ k => XS.sipush X0.here hx rfl (hb hby d_jdk_35_m_24_0) k) ?_
  show own_Go p.tables e below _ (s₁.setTop (mkF m 3 #[.val (.long xv), .second, .unset] [(.int (128 : Int32))]))
  refine own_up (fun _ k => XS.istoreN X0.here hx rfl (hb hby d_jdk_35_m_24_3) rfl (l' := #[.val (.long xv), .second, .val (.int (128 : Int32))]) rfl k) ?_
  show own_Go p.tables e below _ (s₁.setTop (mkF m 4 #[.val (.long xv), .second, .val (.int (128 : Int32))] []))
  refine own_up (fun _ k => XS.lloadN X0.here hx rfl (hb hby d_jdk_35_m_24_4) rfl k) ?_
  show own_Go p.tables e below _ (s₁.setTop (mkF m 5 #[.val (.long xv), .second, .val (.int (128 : Int32))] [(.long xv)]))
  refine own_up (fun _ k => X0.ldc2Long hx hown (mvT hZ (hw _ (List.mem_of_getElem? (i := 31) rfl))) (g := (mkF m 5 #[.val (.long xv), .second, .val (.int (128 : Int32))] [(.long xv)])) rfl (hb hby d_jdk_35_m_24_5) _ k) ?_
  show own_Go p.tables e below _ (s₁.setTop (mkF m 8 #[.val (.long xv), .second, .val (.int (128 : Int32))] [(.long (-128 : Int64)), (.long xv)]))
  refine own_up (fun _ k => XS.lcmp X0.here hx rfl (hb hby d_jdk_35_m_24_8) rfl k) ?_
  show own_Go p.tables e below _ (s₁.setTop (mkF m 9 #[.val (.long xv), .second, .val (.int (128 : Int32))] [(.int (lcmpW xv (-128 : Int64)))]))
  by_cases c1 : xv < (-128 : Int64)
  ·
    refine own_up (fun _ k => XS.ifYes X0.here hx rfl (pc0 := 9) (pc' := 31) rfl (hb hby d_jdk_35_m_24_9) rfl ((if0 _ _).trans (tlt ((lw_lt _ _).mpr c1)).1) (by decide) (by decide) k) ?_
    show own_Go p.tables e below _ (s₁.setTop (mkF m 31 #[.val (.long xv), .second, .val (.int (128 : Int32))] []))
    obtain ⟨T1, h1, X1, e1, E1, A1, D1, -, st1⟩ := newO X0 hx hZ hown (hw _ (List.mem_of_getElem? (i := 33) rfl)) (hw _ (List.mem_of_getElem? (i := 34) rfl)) (hw _ (List.mem_of_getElem? (i := 29) rfl)) e0 (g := (mkF m 31 #[.val (.long xv), .second, .val (.int (128 : Int32))] [])) rfl (hb hby d_jdk_35_m_24_31) (by decide) (by decide)
    obtain ⟨b1, g1⟩ : ∃ z, z = h0.size := ⟨_, rfl⟩
    rw [← g1] at A1 D1 st1
    have ge1 : n0 ≤ b1 := Nat.le_trans Z0 (Nat.le_of_eq g1.symm)
    have sz1 : h0.size ≤ b1 := Nat.le_trans (Nat.le_refl _) (Nat.le_of_eq g1.symm)
    refine own_up st1 ?_
    have F1_value : Fld Z h1 b1 "java/lang/Long" "value" "J" (.long (0 : Int64)) := D1 (Or.inr (hw _ (List.mem_of_getElem? (i := 47) rfl))) (ty := .long) (by decide)
    show own_Go p.tables e below _ (T1.setTop (mkF m 34 #[.val (.long xv), .second, .val (.int (128 : Int32))] [(.ref b1)]))
    refine own_up (fun _ k => XS.dup X1.here hx rfl (hb hby d_jdk_35_m_24_34) rfl rfl k) ?_
    show own_Go p.tables e below _ (T1.setTop (mkF m 35 #[.val (.long xv), .second, .val (.int (128 : Int32))] [(.ref b1), (.ref b1)]))
    refine own_up (fun _ k => XS.lloadN X1.here hx rfl (hb hby d_jdk_35_m_24_35) rfl k) ?_
    show own_Go p.tables e below _ (T1.setTop (mkF m 36 #[.val (.long xv), .second, .val (.int (128 : Int32))] [(.long xv), (.ref b1), (.ref b1)]))
    have f3 : n0 ≤ h1.size := (Nat.le_trans Z0 E1.1)
    obtain ⟨_, _, ⟨T2, L2, k2, n2⟩, -, X2, ⟨Lc2, hQ2, l2, y2, z2⟩, st2⟩ := X1.specialBack hx (y := (⟨"java/lang/Long", "<init>", "(J)V"⟩ : MethodName)) rfl hown (mvT hZ (hw _ (List.mem_of_getElem? (i := 35) rfl))) (mvT hZ (hw _ (List.mem_of_getElem? (i := 36) rfl))) (mvT hZ (hw _ (List.mem_of_getElem? (i := 38) rfl))) (by decide) (backOf (W := 1) (rm2 l Z a0 hw [] b1 xv h1 n0 f3 A1 F1_value ge1) hZ (hw _ (List.mem_of_getElem? (i := 38) rfl)) (hw _ (List.mem_of_getElem? (i := 29) rfl)) (by decide) (by decide)) (g := (mkF m 36 #[.val (.long xv), .second, .val (.int (128 : Int32))] [(.long xv), (.ref b1), (.ref b1)])) rfl (by rw [hml]; rfl) (Steps.refl _) (a := b1) (argsL := [(.long xv)]) (rest := [(.ref b1)]) (lenOf own_pd1 rfl) rfl (by show 2 * 0 + _ ≤ _; exact Nat.le_of_eq rfl) (hb hby d_jdk_35_m_24_36) (fun _ _ => ⟨rfl, e1, (by decide : 1 + 0 ≤ _), (by decide : 1 + 0 ≤ _)⟩)
    dsimp only [Pt.U, Pt.locs, Pt.cells, Pt.slots] at X2 l2 y2 z2 st2 hQ2
    subst l2 y2 z2
    have f4 : h0.size ≤ h1.size := (Nat.le_trans (Nat.le_refl _) E1.1)
    obtain ⟨rfl, N2q, K2, P2_0⟩ := hQ2
    have N2 := Fr.app N0 N2q
    refine own_up (fun _ k => st2.trans k) ?_
    show own_Go p.tables e below _ (T2.setTop (mkF m 39 #[.val (.long xv), .second, .val (.int (128 : Int32))] [(.ref b1)]))
    exact own_end X2 hlk (v := some (.ref b1)) (fun h => by rw [Bd.returns] at h; cases h) (fun fs hr => retOut X2 hx Bd.returns rfl (Or.inr (Or.inr (Or.inr (Or.inr ⟨rfl, rfl, rfl⟩)))) (hb hby d_jdk_35_m_24_39) hr) rfl ⟨b1, rfl, N2, (((Keep.refl h0 []).ext E1).trans K2 (allS (Or.inr sz1) all0)), P2_0⟩ (by decide) (by decide)
  ·
    refine own_up (fun _ k => XS.ifNo X0.here hx rfl (hb hby d_jdk_35_m_24_9) rfl ((if0 _ _).trans (flt (fun q => c1 ((lw_lt _ _).mp q))).1) k) ?_
    show own_Go p.tables e below _ (s₁.setTop (mkF m 12 #[.val (.long xv), .second, .val (.int (128 : Int32))] []))
    refine own_up (fun _ k => XS.lloadN X0.here hx rfl (hb hby d_jdk_35_m_24_12) rfl k) ?_
    show own_Go p.tables e below _ (s₁.setTop (mkF m 13 #[.val (.long xv), .second, .val (.int (128 : Int32))] [(.long xv)]))
    refine own_up (fun _ k => X0.ldc2Long hx hown (mvT hZ (hw _ (List.mem_of_getElem? (i := 32) rfl))) (g := (mkF m 13 #[.val (.long xv), .second, .val (.int (128 : Int32))] [(.long xv)])) rfl (hb hby d_jdk_35_m_24_13) _ k) ?_
    show own_Go p.tables e below _ (s₁.setTop (mkF m 16 #[.val (.long xv), .second, .val (.int (128 : Int32))] [(.long (127 : Int64)), (.long xv)]))
    refine own_up (fun _ k => XS.lcmp X0.here hx rfl (hb hby d_jdk_35_m_24_16) rfl k) ?_
    show own_Go p.tables e below _ (s₁.setTop (mkF m 17 #[.val (.long xv), .second, .val (.int (128 : Int32))] [(.int (lcmpW xv (127 : Int64)))]))
    by_cases c2 : (127 : Int64) < xv
    ·
      refine own_up (fun _ k => XS.ifYes X0.here hx rfl (pc0 := 17) (pc' := 31) rfl (hb hby d_jdk_35_m_24_17) rfl ((if0 _ _).trans (tlt ((lw_gt _ _).mpr c2)).2.2.1) (by decide) (by decide) k) ?_
      show own_Go p.tables e below _ (s₁.setTop (mkF m 31 #[.val (.long xv), .second, .val (.int (128 : Int32))] []))
      obtain ⟨T5, h5, X5, e5, E5, A5, D5, -, st5⟩ := newO X0 hx hZ hown (hw _ (List.mem_of_getElem? (i := 33) rfl)) (hw _ (List.mem_of_getElem? (i := 34) rfl)) (hw _ (List.mem_of_getElem? (i := 29) rfl)) e0 (g := (mkF m 31 #[.val (.long xv), .second, .val (.int (128 : Int32))] [])) rfl (hb hby d_jdk_35_m_24_31) (by decide) (by decide)
      obtain ⟨b5, g5⟩ : ∃ z, z = h0.size := ⟨_, rfl⟩
      rw [← g5] at A5 D5 st5
      have ge5 : n0 ≤ b5 := Nat.le_trans Z0 (Nat.le_of_eq g5.symm)
      have sz5 : h0.size ≤ b5 := Nat.le_trans (Nat.le_refl _) (Nat.le_of_eq g5.symm)
      refine own_up st5 ?_
      have F5_value : Fld Z h5 b5 "java/lang/Long" "value" "J" (.long (0 : Int64)) := D5 (Or.inr (hw _ (List.mem_of_getElem? (i := 47) rfl))) (ty := .long) (by decide)
      show own_Go p.tables e below _ (T5.setTop (mkF m 34 #[.val (.long xv), .second, .val (.int (128 : Int32))] [(.ref b5)]))
      refine own_up (fun _ k => XS.dup X5.here hx rfl (hb hby d_jdk_35_m_24_34) rfl rfl k) ?_
      show own_Go p.tables e below _ (T5.setTop (mkF m 35 #[.val (.long xv), .second, .val (.int (128 : Int32))] [(.ref b5), (.ref b5)]))
      refine own_up (fun _ k => XS.lloadN X5.here hx rfl (hb hby d_jdk_35_m_24_35) rfl k) ?_
      show own_Go p.tables e below _ (T5.setTop (mkF m 36 #[.val (.long xv), .second, .val (.int (128 : Int32))] [(.long xv), (.ref b5), (.ref b5)]))
      have f7 : n0 ≤ h5.size := (Nat.le_trans Z0 E5.1)
      obtain ⟨_, _, ⟨T6, L6, k6, n6⟩, -, X6, ⟨Lc6, hQ6, l6, y6, z6⟩, st6⟩ := X5.specialBack hx (y := (⟨"java/lang/Long", "<init>", "(J)V"⟩ : MethodName)) rfl hown (mvT hZ (hw _ (List.mem_of_getElem? (i := 35) rfl))) (mvT hZ (hw _ (List.mem_of_getElem? (i := 36) rfl))) (mvT hZ (hw _ (List.mem_of_getElem? (i := 38) rfl))) (by decide) (backOf (W := 1) (rm2 l Z a0 hw [] b5 xv h5 n0 f7 A5 F5_value ge5) hZ (hw _ (List.mem_of_getElem? (i := 38) rfl)) (hw _ (List.mem_of_getElem? (i := 29) rfl)) (by decide) (by decide)) (g := (mkF m 36 #[.val (.long xv), .second, .val (.int (128 : Int32))] [(.long xv), (.ref b5), (.ref b5)])) rfl (by rw [hml]; rfl) (Steps.refl _) (a := b5) (argsL := [(.long xv)]) (rest := [(.ref b5)]) (lenOf own_pd1 rfl) rfl (by show 2 * 0 + _ ≤ _; exact Nat.le_of_eq rfl) (hb hby d_jdk_35_m_24_36) (fun _ _ => ⟨rfl, e5, (by decide : 1 + 0 ≤ _), (by decide : 1 + 0 ≤ _)⟩)
      dsimp only [Pt.U, Pt.locs, Pt.cells, Pt.slots] at X6 l6 y6 z6 st6 hQ6
      subst l6 y6 z6
      have f8 : h0.size ≤ h5.size := (Nat.le_trans (Nat.le_refl _) E5.1)
      obtain ⟨rfl, N6q, K6, P6_0⟩ := hQ6
      have N6 := Fr.app N0 N6q
      refine own_up (fun _ k => st6.trans k) ?_
      show own_Go p.tables e below _ (T6.setTop (mkF m 39 #[.val (.long xv), .second, .val (.int (128 : Int32))] [(.ref b5)]))
      exact own_end X6 hlk (v := some (.ref b5)) (fun h => by rw [Bd.returns] at h; cases h) (fun fs hr => retOut X6 hx Bd.returns rfl (Or.inr (Or.inr (Or.inr (Or.inr ⟨rfl, rfl, rfl⟩)))) (hb hby d_jdk_35_m_24_39) hr) rfl ⟨b5, rfl, N6, (((Keep.refl h0 []).ext E5).trans K6 (allS (Or.inr sz5) all0)), P6_0⟩ (by decide) (by decide)
    ·
      refine own_up (fun _ k => XS.ifNo X0.here hx rfl (hb hby d_jdk_35_m_24_17) rfl ((if0 _ _).trans (flt (fun q => c2 ((lw_gt _ _).mp q))).2.2.1) k) ?_
      show own_Go p.tables e below _ (s₁.setTop (mkF m 20 #[.val (.long xv), .second, .val (.int (128 : Int32))] []))
      obtain ⟨T9, X9, e9, st9⟩ := getS2 X0 hx hZ hown (host := "") (Or.inl (hw _ (List.mem_of_getElem? (i := 51) rfl))) Via.refl e0 (S.ext O.2) (g := (mkF m 20 #[.val (.long xv), .second, .val (.int (128 : Int32))] [])) rfl (hb hby d_jdk_35_m_24_20)
      refine own_up st9 ?_
      show own_Go p.tables e below _ (T9.setTop (mkF m 23 #[.val (.long xv), .second, .val (.int (128 : Int32))] [(.ref ca)]))
      refine own_up (fun _ k => XS.lloadN X9.here hx rfl (hb hby d_jdk_35_m_24_23) rfl k) ?_
      show own_Go p.tables e below _ (T9.setTop (mkF m 24 #[.val (.long xv), .second, .val (.int (128 : Int32))] [(.long xv), (.ref ca)]))
      refine own_up (fun _ k => XS.l2i X9.here hx rfl (hb hby d_jdk_35_m_24_24) rfl k) ?_
      show own_Go p.tables e below _ (T9.setTop (mkF m 25 #[.val (.long xv), .second, .val (.int (128 : Int32))] [(.int (xv.toInt32)), (.ref ca)]))
      refine own_up (fun _ k => XS.sipush X9.here hx rfl (hb hby d_jdk_35_m_24_25) k) ?_
      show own_Go p.tables e below _ (T9.setTop (mkF m 28 #[.val (.long xv), .second, .val (.int (128 : Int32))] [(.int (128 : Int32)), (.int (xv.toInt32)), (.ref ca)]))
      refine own_up (fun _ k => XS.iadd X9.here hx rfl (hb hby d_jdk_35_m_24_28) rfl k) ?_
      show own_Go p.tables e below _ (T9.setTop (mkF m 29 #[.val (.long xv), .second, .val (.int (128 : Int32))] [(.int ((xv.toInt32) + (128 : Int32))), (.ref ca)]))
      obtain ⟨bx, hbx, Ebx⟩ := hcache ((xv.toInt32) + (128 : Int32)) (own_idx c1 c2).1 (own_idx c1 c2).2
      refine own_up (fun _ k => X9.aaload hx (j := ((xv.toInt32) + (128 : Int32))) (v := (.ref bx)) (by rw [e9]; exact (A.ext O.2).1) (State.isArrayOf_alike hZ.alike A.2.1) rfl A.2.2 (own_in hsz (own_idx c1 c2)) hbx (g := (mkF m 29 #[.val (.long xv), .second, .val (.int (128 : Int32))] [(.int ((xv.toInt32) + (128 : Int32))), (.ref ca)])) rfl rfl (hb hby d_jdk_35_m_24_29) _ k) ?_
      show own_Go p.tables e below _ (T9.setTop (mkF m 30 #[.val (.long xv), .second, .val (.int (128 : Int32))] [(.ref bx)]))
      exact own_end X9 hlk (v := some (.ref bx)) (fun h => by rw [Bd.returns] at h; cases h) (fun fs hr => retOut X9 hx Bd.returns rfl (Or.inr (Or.inr (Or.inr (Or.inr ⟨rfl, rfl, rfl⟩)))) (hb hby d_jdk_35_m_24_30) hr) e9 ⟨bx, rfl, N0, (Keep.refl h0 []), (Ebx.ext O.2)⟩ (by decide) (by decide)
theorem d_prog_49_m_3_0 : decode prog_49_method_3_code 0 = .ok (.aload_n 1, 1) := by decide +kernel
theorem d_prog_49_m_3_1 : decode prog_49_method_3_code 1 = .ok (.instanceof 10, 3) := by decide +kernel
theorem d_prog_49_m_3_4 : decode prog_49_method_3_code 4 = .ok (.ifCond .eq 46, 3) := by decide +kernel
theorem d_prog_49_m_3_50 : decode prog_49_method_3_code 50 = .ok (.iconst 0, 1) := by decide +kernel
theorem d_prog_49_m_3_51 : decode prog_49_method_3_code 51 = .ok (.ireturn, 1) := by decide +kernel
theorem ef_rm4 (m : MethodId) (y0 : Addr) : entryFrame m #[(.ref y0), .null] 3 = mkF m 0 #[.val (.ref y0), .val .null, .unset] [] := by first | (simp [entryFrame, mkF, argsToLocals, Value.category]; done) | rfl
def Q_rm4 (Z : State) (a : Addr) (h0 : Heap) (n0 : Nat) (v : Option Value) (h : Heap) (L : List Loc) : Prop := v = some (.int (0 : Int32)) ∧ Fr n0 L ∧ h = h0
set_option maxRecDepth 65536 in
set_option maxHeartbeats 40000000 in
theorem rm4 (l : Launch) (Z : State) (a0 : Array Value) (hw : ∀ d ∈ tables_1, d.before a0 Z = true) (ws : List Jvm.Cond) (a : Addr) (h0 : Heap) (n0 : Nat) (Z0 : n0 ≤ h0.size) :
    MetFree l (⟨"com/example/hoptrail/hoptrail/store/Journal$Mark", "equals", "(Ljava/lang/Object;)Z"⟩ : MethodName) (head1 (Jvm.Cond.code (⟨"com/example/hoptrail/hoptrail/store/Journal$Mark", "equals", "(Ljava/lang/Object;)Z"⟩ : MethodName) prog_49_method_3_code 3 (some .boolean) :: ws) ({ frames := 0, cells := 0, slots := 0, locals := 0 } : Room)) (fun ar U => ar = #[(.ref a), .null] ∧ Z.Warmed39 U.vm ∧ U.heap = h0) (fun _ _ _ _ _ => True) (fun _ U o U' => ∃ v L, o = .returned v ∧ Q_rm4 Z a h0 n0 v U'.heap L ∧ FrameEnd U o U' L ({ frames := 0, cells := 0, slots := 0, locals := 0 } : Room).cells ({ frames := 0, cells := 0, slots := 0, locals := 0 } : Room).slots) := by
  refine MetFree.of_bodySF (plainFor_of_name own_pn1) hisR ?_
  intro p e s m args below meth c s₁ Bd hml0 hP hK
  obtain ⟨rfl, hZ, hh⟩ := hP
  have hx := Bd.exec
  have hby := Bd.bytes
  have hlk : meth.locks = false := BodyLoose.notSynchronized Bd
  have hml : c.maxLocals = 3 := hml0
  have hown : s.vm.findClass "com/example/hoptrail/hoptrail/store/Journal$Mark" = some m.cls := findClass_of_methodNamed Bd.named
  have hnm := (name_of_methodNamed Bd.named Bd.method).1
  have X0 : Stand p l e ({ frames := 0, cells := 0, slots := 0, locals := 0 } : Room) s m #[(.ref a), .null] below meth c s₁ [] 0 0 := Stand.of_body Bd
  have e0 : s₁.heap = h0 := by rw [← hh, Bd.state]; rfl
  have N0 := Fr.nil n0
  show own_Go p.tables e below (fun u o => ∃ v L, o = .returned v ∧ Q_rm4 Z a h0 n0 v u.heap L ∧ FrameEnd s o u L ({ frames := 0, cells := 0, slots := 0, locals := 0 } : Room).cells ({ frames := 0, cells := 0, slots := 0, locals := 0 } : Room).slots) (s₁.setTop (entryFrame m #[(.ref a), .null] 3))
  refine own_up (fun _ k => castTop (ef_rm4 m a) k) ?_
  show own_Go p.tables e below _ (s₁.setTop (mkF m 0 #[.val (.ref a), .val .null, .unset] []))
  refine own_up (fun _ k => XS.aloadN X0.here hx rfl (hb hby d_prog_49_m_3_0) rfl rfl k) ?_
  show own_Go p.tables e below _ (s₁.setTop (mkF m 1 #[.val (.ref a), .val .null, .unset] [.null]))
  refine own_up (fun _ k => X0.instanceofNull hx (g := (mkF m 1 #[.val (.ref a), .val .null, .unset] [.null])) rfl rfl (hb hby d_prog_49_m_3_1) _ k) ?_
  show own_Go p.tables e below _ (s₁.setTop (mkF m 4 #[.val (.ref a), .val .null, .unset] [(.int (0 : Int32))]))
  refine own_up (fun _ k => XS.ifYes X0.here hx rfl (pc0 := 4) (pc' := 50) rfl (hb hby d_prog_49_m_3_4) rfl ((if0 _ _).trans (teq rfl).1) (by decide) (by decide) k) ?_
  show own_Go p.tables e below _ (s₁.setTop (mkF m 50 #[.val (.ref a), .val .null, .unset] []))
  refine own_up (fun _ k => XS.iconst X0.here hx rfl (hb hby d_prog_49_m_3_50) k) ?_
  show own_Go p.tables e below _ (s₁.setTop (mkF m 51 #[.val (.ref a), .val .null, .unset] [(.int (0 : Int32))]))
  exact own_end X0 hlk (v := some (.int (0 : Int32))) (fun h => by rw [Bd.returns] at h; cases h) (fun fs hr => retN X0 hx (z := (0 : Int32)) (t := .boolean) Bd.returns (by simp) (hb hby d_prog_49_m_3_51) hr) e0 ⟨rfl, N0, rfl⟩ (by decide) (by decide)
theorem ef_rm5 (m : MethodId) (y0 : Addr) (y1 : Addr) : entryFrame m #[(.ref y0), (.ref y1)] 3 = mkF m 0 #[.val (.ref y0), .val (.ref y1), .unset] [] := by first | (simp [entryFrame, mkF, argsToLocals, Value.category]; done) | rfl
def Q_rm5 (Z : State) (a : Addr) (b : Addr) (h0 : Heap) (n0 : Nat) (v : Option Value) (h : Heap) (L : List Loc) : Prop := v = some (.int (0 : Int32)) ∧ Fr n0 L ∧ h = h0
set_option maxRecDepth 65536 in
set_option maxHeartbeats 40000000 in
theorem rm5 (l : Launch) (Z : State) (a0 : Array Value) (hw : ∀ d ∈ tables_1, d.before a0 Z = true) (ws : List Jvm.Cond) (a : Addr) (b : Addr) (h0 : Heap) (n0 : Nat) (Z0 : n0 ≤ h0.size) (E : Exa Z h0 b "java/lang/Long") :
    MetFree l (⟨"com/example/hoptrail/hoptrail/store/Journal$Mark", "equals", "(Ljava/lang/Object;)Z"⟩ : MethodName) (head1 (Jvm.Cond.code (⟨"com/example/hoptrail/hoptrail/store/Journal$Mark", "equals", "(Ljava/lang/Object;)Z"⟩ : MethodName) prog_49_method_3_code 3 (some .boolean) :: ws) ({ frames := 0, cells := 0, slots := 0, locals := 0 } : Room)) (fun ar U => ar = #[(.ref a), (.ref b)] ∧ Z.Warmed39 U.vm ∧ U.heap = h0) (fun _ _ _ _ _ => True) (fun _ U o U' => ∃ v L, o = .returned v ∧ Q_rm5 Z a b h0 n0 v U'.heap L ∧ FrameEnd U o U' L ({ frames := 0, cells := 0, slots := 0, locals := 0 } : Room).cells ({ frames := 0, cells := 0, slots := 0, locals := 0 } : Room).slots) := by
  refine MetFree.of_bodySF (plainFor_of_name own_pn1) hisR ?_
  intro p e s m args below meth c s₁ Bd hml0 hP hK
  obtain ⟨rfl, hZ, hh⟩ := hP
  have hx := Bd.exec
  have hby := Bd.bytes
  have hlk : meth.locks = false := BodyLoose.notSynchronized Bd
  have hml : c.maxLocals = 3 := hml0
  have hown : s.vm.findClass "com/example/hoptrail/hoptrail/store/Journal$Mark" = some m.cls := findClass_of_methodNamed Bd.named
  have hnm := (name_of_methodNamed Bd.named Bd.method).1
  have X0 : Stand p l e ({ frames := 0, cells := 0, slots := 0, locals := 0 } : Room) s m #[(.ref a), (.ref b)] below meth c s₁ [] 0 0 := Stand.of_body Bd
  have e0 : s₁.heap = h0 := by rw [← hh, Bd.state]; rfl
  have N0 := Fr.nil n0
  show own_Go p.tables e below (fun u o => ∃ v L, o = .returned v ∧ Q_rm5 Z a b h0 n0 v u.heap L ∧ FrameEnd s o u L ({ frames := 0, cells := 0, slots := 0, locals := 0 } : Room).cells ({ frames := 0, cells := 0, slots := 0, locals := 0 } : Room).slots) (s₁.setTop (entryFrame m #[(.ref a), (.ref b)] 3))
  refine own_up (fun _ k => castTop (ef_rm5 m a b) k) ?_
  show own_Go p.tables e below _ (s₁.setTop (mkF m 0 #[.val (.ref a), .val (.ref b), .unset] []))
  refine own_up (fun _ k => XS.aloadN X0.here hx rfl (hb hby d_prog_49_m_3_0) rfl rfl k) ?_
  show own_Go p.tables e below _ (s₁.setTop (mkF m 1 #[.val (.ref a), .val (.ref b), .unset] [(.ref b)]))
  obtain ⟨T1, X1, e1, st1⟩ := instNo X0 hx hZ hown (hw _ (List.mem_of_getElem? (i := 25) rfl)) e0 E (own_other (hw _ (List.mem_of_getElem? (i := 48) rfl)) (hw _ (List.mem_of_getElem? (i := 49) rfl)) (hw _ (List.mem_of_getElem? (i := 50) rfl)) (hw _ (List.mem_of_getElem? (i := 1) rfl)) (by decide) (by decide) (by decide)) (g := (mkF m 1 #[.val (.ref a), .val (.ref b), .unset] [(.ref b)])) rfl rfl (hb hby d_prog_49_m_3_1)
  refine own_up st1 ?_
  show own_Go p.tables e below _ (T1.setTop (mkF m 4 #[.val (.ref a), .val (.ref b), .unset] [(.int (0 : Int32))]))
  refine own_up (fun _ k => XS.ifYes X1.here hx rfl (pc0 := 4) (pc' := 50) rfl (hb hby d_prog_49_m_3_4) rfl ((if0 _ _).trans (teq rfl).1) (by decide) (by decide) k) ?_
  show own_Go p.tables e below _ (T1.setTop (mkF m 50 #[.val (.ref a), .val (.ref b), .unset] []))
  refine own_up (fun _ k => XS.iconst X1.here hx rfl (hb hby d_prog_49_m_3_50) k) ?_
  show own_Go p.tables e below _ (T1.setTop (mkF m 51 #[.val (.ref a), .val (.ref b), .unset] [(.int (0 : Int32))]))
  exact own_end X1 hlk (v := some (.int (0 : Int32))) (fun h => by rw [Bd.returns] at h; cases h) (fun fs hr => retN X1 hx (z := (0 : Int32)) (t := .boolean) Bd.returns (by simp) (hb hby d_prog_49_m_3_51) hr) e1 ⟨rfl, N0, rfl⟩ (by decide) (by decide)
theorem d_prog_49_m_3_7 : decode prog_49_method_3_code 7 = .ok (.aload_n 1, 1) := by decide +kernel
theorem d_prog_49_m_3_8 : decode prog_49_method_3_code 8 = .ok (.checkcast 10, 3) := by decide +kernel
theorem d_prog_49_m_3_11 : decode prog_49_method_3_code 11 = .ok (.astore_n 2, 1) := by decide +kernel
theorem d_prog_49_m_3_12 : decode prog_49_method_3_code 12 = .ok (.aload_n 2, 1) := by decide +kernel
theorem d_prog_49_m_3_13 : decode prog_49_method_3_code 13 = .ok (.getfield 9, 3) := by decide +kernel
theorem d_prog_49_m_3_16 : decode prog_49_method_3_code 16 = .ok (.aload_n 0, 1) := by decide +kernel
theorem d_prog_49_m_3_17 : decode prog_49_method_3_code 17 = .ok (.getfield 9, 3) := by decide +kernel
theorem d_prog_49_m_3_20 : decode prog_49_method_3_code 20 = .ok (.lcmp, 1) := by decide +kernel
theorem d_prog_49_m_3_21 : decode prog_49_method_3_code 21 = .ok (.ifCond .ne 29, 3) := by decide +kernel
theorem d_prog_49_m_3_24 : decode prog_49_method_3_code 24 = .ok (.aload_n 2, 1) := by decide +kernel
theorem d_prog_49_m_3_25 : decode prog_49_method_3_code 25 = .ok (.getfield 15, 3) := by decide +kernel
theorem d_prog_49_m_3_28 : decode prog_49_method_3_code 28 = .ok (.aload_n 0, 1) := by decide +kernel
theorem d_prog_49_m_3_29 : decode prog_49_method_3_code 29 = .ok (.getfield 15, 3) := by decide +kernel
theorem d_prog_49_m_3_32 : decode prog_49_method_3_code 32 = .ok (.if_icmp .ne 18, 3) := by decide +kernel
theorem d_prog_49_m_3_35 : decode prog_49_method_3_code 35 = .ok (.aload_n 2, 1) := by decide +kernel
theorem d_prog_49_m_3_36 : decode prog_49_method_3_code 36 = .ok (.getfield 19, 3) := by decide +kernel
theorem d_prog_49_m_3_39 : decode prog_49_method_3_code 39 = .ok (.aload_n 0, 1) := by decide +kernel
theorem d_prog_49_m_3_40 : decode prog_49_method_3_code 40 = .ok (.getfield 19, 3) := by decide +kernel
theorem d_prog_49_m_3_43 : decode prog_49_method_3_code 43 = .ok (.if_icmp .ne 7, 3) := by decide +kernel
theorem d_prog_49_m_3_46 : decode prog_49_method_3_code 46 = .ok (.iconst 1, 1) := by decide +kernel
theorem d_prog_49_m_3_47 : decode prog_49_method_3_code 47 = .ok (.goto 4, 3) := by decide +kernel
theorem ef_rm6 (m : MethodId) (y0 : Addr) (y1 : Addr) : entryFrame m #[(.ref y0), (.ref y1)] 3 = mkF m 0 #[.val (.ref y0), .val (.ref y1), .unset] [] := by first | (simp [entryFrame, mkF, argsToLocals, Value.category]; done) | rfl
def Q_rm6 (Z : State) (a : Addr) (b : Addr) (xa : Int64) (xl : Int32) (xc : Int32) (ya : Int64) (yl : Int32) (yc : Int32) (h0 : Heap) (n0 : Nat) (v : Option Value) (h : Heap) (L : List Loc) : Prop := v = some (.int (if ya = xa ∧ yl = xl ∧ yc = xc then (1 : Int32) else 0)) ∧ Fr n0 L ∧ h = h0
set_option maxRecDepth 65536 in
set_option maxHeartbeats 40000000 in
theorem rm6 (l : Launch) (Z : State) (a0 : Array Value) (hw : ∀ d ∈ tables_1, d.before a0 Z = true) (ws : List Jvm.Cond) (a : Addr) (b : Addr) (xa : Int64) (xl : Int32) (xc : Int32) (ya : Int64) (yl : Int32) (yc : Int32) (h0 : Heap) (n0 : Nat) (Z0 : n0 ≤ h0.size) (Eb : Exa Z h0 b "com/example/hoptrail/hoptrail/store/Journal$Mark") (F1 : Fld Z h0 a "com/example/hoptrail/hoptrail/store/Journal$Mark" "at" "J" (.long xa)) (F2 : Fld Z h0 a "com/example/hoptrail/hoptrail/store/Journal$Mark" "length" "I" (.int xl)) (F3 : Fld Z h0 a "com/example/hoptrail/hoptrail/store/Journal$Mark" "checksum" "I" (.int xc)) (F4 : Fld Z h0 b "com/example/hoptrail/hoptrail/store/Journal$Mark" "at" "J" (.long ya)) (F5 : Fld Z h0 b "com/example/hoptrail/hoptrail/store/Journal$Mark" "length" "I" (.int yl)) (F6 : Fld Z h0 b "com/example/hoptrail/hoptrail/store/Journal$Mark" "checksum" "I" (.int yc)) :
    MetFree l (⟨"com/example/hoptrail/hoptrail/store/Journal$Mark", "equals", "(Ljava/lang/Object;)Z"⟩ : MethodName) (head1 (Jvm.Cond.code (⟨"com/example/hoptrail/hoptrail/store/Journal$Mark", "equals", "(Ljava/lang/Object;)Z"⟩ : MethodName) prog_49_method_3_code 3 (some .boolean) :: ws) ({ frames := 0, cells := 0, slots := 0, locals := 0 } : Room)) (fun ar U => ar = #[(.ref a), (.ref b)] ∧ Z.Warmed39 U.vm ∧ U.heap = h0) (fun _ _ _ _ _ => True) (fun _ U o U' => ∃ v L, o = .returned v ∧ Q_rm6 Z a b xa xl xc ya yl yc h0 n0 v U'.heap L ∧ FrameEnd U o U' L ({ frames := 0, cells := 0, slots := 0, locals := 0 } : Room).cells ({ frames := 0, cells := 0, slots := 0, locals := 0 } : Room).slots) := by
  refine MetFree.of_bodySF (plainFor_of_name own_pn1) hisR ?_
  intro p e s m args below meth c s₁ Bd hml0 hP hK
  obtain ⟨rfl, hZ, hh⟩ := hP
  have hx := Bd.exec
  have hby := Bd.bytes
  have hlk : meth.locks = false := BodyLoose.notSynchronized Bd
  have hml : c.maxLocals = 3 := hml0
  have hown : s.vm.findClass "com/example/hoptrail/hoptrail/store/Journal$Mark" = some m.cls := findClass_of_methodNamed Bd.named
  have hnm := (name_of_methodNamed Bd.named Bd.method).1
  have X0 : Stand p l e ({ frames := 0, cells := 0, slots := 0, locals := 0 } : Room) s m #[(.ref a), (.ref b)] below meth c s₁ [] 0 0 := Stand.of_body Bd
  have e0 : s₁.heap = h0 := by rw [← hh, Bd.state]; rfl
  have N0 := Fr.nil n0
  show own_Go p.tables e below (fun u o => ∃ v L, o = .returned v ∧ Q_rm6 Z a b xa xl xc ya yl yc h0 n0 v u.heap L ∧ FrameEnd s o u L ({ frames := 0, cells := 0, slots := 0, locals := 0 } : Room).cells ({ frames := 0, cells := 0, slots := 0, locals := 0 } : Room).slots) (s₁.setTop (entryFrame m #[(.ref a), (.ref b)] 3))
  refine own_up (fun _ k => castTop (ef_rm6 m a b) k) ?_
  show own_Go p.tables e below _ (s₁.setTop (mkF m 0 #[.val (.ref a), .val (.ref b), .unset] []))
  refine own_up (fun _ k => XS.aloadN X0.here hx rfl (hb hby d_prog_49_m_3_0) rfl rfl k) ?_
  show own_Go p.tables e below _ (s₁.setTop (mkF m 1 #[.val (.ref a), .val (.ref b), .unset] [(.ref b)]))
  obtain ⟨T1, X1, e1, st1⟩ := instY X0 hx hZ hown (hw _ (List.mem_of_getElem? (i := 25) rfl)) e0 (Ins.self Eb) (g := (mkF m 1 #[.val (.ref a), .val (.ref b), .unset] [(.ref b)])) rfl rfl (hb hby d_prog_49_m_3_1)
  refine own_up st1 ?_
  show own_Go p.tables e below _ (T1.setTop (mkF m 4 #[.val (.ref a), .val (.ref b), .unset] [(.int (1 : Int32))]))
  refine own_up (fun _ k => XS.ifNo X1.here hx rfl (hb hby d_prog_49_m_3_4) rfl ((if0 _ _).trans (feq (by decide)).1) k) ?_
  show own_Go p.tables e below _ (T1.setTop (mkF m 7 #[.val (.ref a), .val (.ref b), .unset] []))
  refine own_up (fun _ k => XS.aloadN X1.here hx rfl (hb hby d_prog_49_m_3_7) rfl rfl k) ?_
  show own_Go p.tables e below _ (T1.setTop (mkF m 8 #[.val (.ref a), .val (.ref b), .unset] [(.ref b)]))
  obtain ⟨T2, X2, e2, st2⟩ := castY X1 hx hZ hown (hw _ (List.mem_of_getElem? (i := 25) rfl)) e1 (Ins.self Eb) (g := (mkF m 8 #[.val (.ref a), .val (.ref b), .unset] [(.ref b)])) rfl rfl (hb hby d_prog_49_m_3_8)
  refine own_up st2 ?_
  show own_Go p.tables e below _ (T2.setTop (mkF m 11 #[.val (.ref a), .val (.ref b), .unset] [(.ref b)]))
  refine own_up (fun _ k => XS.astoreN X2.here hx rfl (hb hby d_prog_49_m_3_11) rfl rfl (l' := #[.val (.ref a), .val (.ref b), .val (.ref b)]) rfl k) ?_
  show own_Go p.tables e below _ (T2.setTop (mkF m 12 #[.val (.ref a), .val (.ref b), .val (.ref b)] []))
  refine own_up (fun _ k => XS.aloadN X2.here hx rfl (hb hby d_prog_49_m_3_12) rfl rfl k) ?_
  show own_Go p.tables e below _ (T2.setTop (mkF m 13 #[.val (.ref a), .val (.ref b), .val (.ref b)] [(.ref b)]))
  obtain ⟨T3, X3, e3, st3⟩ := getF X2 hx hZ hown (host := "") (Or.inl (hw _ (List.mem_of_getElem? (i := 14) rfl))) Via.refl e2 F4 (g := (mkF m 13 #[.val (.ref a), .val (.ref b), .val (.ref b)] [(.ref b)])) rfl rfl (hb hby d_prog_49_m_3_13)
  refine own_up st3 ?_
  show own_Go p.tables e below _ (T3.setTop (mkF m 16 #[.val (.ref a), .val (.ref b), .val (.ref b)] [(.long ya)]))
  refine own_up (fun _ k => XS.aloadN X3.here hx rfl (hb hby d_prog_49_m_3_16) rfl rfl k) ?_
  show own_Go p.tables e below _ (T3.setTop (mkF m 17 #[.val (.ref a), .val (.ref b), .val (.ref b)] [(.ref a), (.long ya)]))
  obtain ⟨T4, X4, e4, st4⟩ := getF X3 hx hZ hown (host := "") (Or.inl (hw _ (List.mem_of_getElem? (i := 14) rfl))) Via.refl e3 F1 (g := (mkF m 17 #[.val (.ref a), .val (.ref b), .val (.ref b)] [(.ref a), (.long ya)])) rfl rfl (hb hby d_prog_49_m_3_17)
  refine own_up st4 ?_
  show own_Go p.tables e below _ (T4.setTop (mkF m 20 #[.val (.ref a), .val (.ref b), .val (.ref b)] [(.long xa), (.long ya)]))
  refine own_up (fun _ k => XS.lcmp X4.here hx rfl (hb hby d_prog_49_m_3_20) rfl k) ?_
  show own_Go p.tables e below _ (T4.setTop (mkF m 21 #[.val (.ref a), .val (.ref b), .val (.ref b)] [(.int (lcmpW ya xa))]))
  by_cases c1 : ya = xa
  ·
    refine own_up (fun _ k => XS.ifNo X4.here hx rfl (hb hby d_prog_49_m_3_21) rfl ((if0 _ _).trans (teq ((lw_eq _ _).mpr c1)).2) k) ?_
    show own_Go p.tables e below _ (T4.setTop (mkF m 24 #[.val (.ref a), .val (.ref b), .val (.ref b)] []))
    refine own_up (fun _ k => XS.aloadN X4.here hx rfl (hb hby d_prog_49_m_3_24) rfl rfl k) ?_
    show own_Go p.tables e below _ (T4.setTop (mkF m 25 #[.val (.ref a), .val (.ref b), .val (.ref b)] [(.ref b)]))
    obtain ⟨T5, X5, e5, st5⟩ := getF X4 hx hZ hown (host := "") (Or.inl (hw _ (List.mem_of_getElem? (i := 16) rfl))) Via.refl e4 F5 (g := (mkF m 25 #[.val (.ref a), .val (.ref b), .val (.ref b)] [(.ref b)])) rfl rfl (hb hby d_prog_49_m_3_25)
    refine own_up st5 ?_
    show own_Go p.tables e below _ (T5.setTop (mkF m 28 #[.val (.ref a), .val (.ref b), .val (.ref b)] [(.int yl)]))
    refine own_up (fun _ k => XS.aloadN X5.here hx rfl (hb hby d_prog_49_m_3_28) rfl rfl k) ?_
    show own_Go p.tables e below _ (T5.setTop (mkF m 29 #[.val (.ref a), .val (.ref b), .val (.ref b)] [(.ref a), (.int yl)]))
    obtain ⟨T6, X6, e6, st6⟩ := getF X5 hx hZ hown (host := "") (Or.inl (hw _ (List.mem_of_getElem? (i := 16) rfl))) Via.refl e5 F2 (g := (mkF m 29 #[.val (.ref a), .val (.ref b), .val (.ref b)] [(.ref a), (.int yl)])) rfl rfl (hb hby d_prog_49_m_3_29)
    refine own_up st6 ?_
    show own_Go p.tables e below _ (T6.setTop (mkF m 32 #[.val (.ref a), .val (.ref b), .val (.ref b)] [(.int xl), (.int yl)]))
    by_cases c2 : yl = xl
    ·
      refine own_up (fun _ k => XS.icmpNo X6.here hx rfl (hb hby d_prog_49_m_3_32) rfl (teq c2).2 k) ?_
      show own_Go p.tables e below _ (T6.setTop (mkF m 35 #[.val (.ref a), .val (.ref b), .val (.ref b)] []))
      refine own_up (fun _ k => XS.aloadN X6.here hx rfl (hb hby d_prog_49_m_3_35) rfl rfl k) ?_
      show own_Go p.tables e below _ (T6.setTop (mkF m 36 #[.val (.ref a), .val (.ref b), .val (.ref b)] [(.ref b)]))
      obtain ⟨T7, X7, e7, st7⟩ := getF X6 hx hZ hown (host := "") (Or.inl (hw _ (List.mem_of_getElem? (i := 18) rfl))) Via.refl e6 F6 (g := (mkF m 36 #[.val (.ref a), .val (.ref b), .val (.ref b)] [(.ref b)])) rfl rfl (hb hby d_prog_49_m_3_36)
      refine own_up st7 ?_
      show own_Go p.tables e below _ (T7.setTop (mkF m 39 #[.val (.ref a), .val (.ref b), .val (.ref b)] [(.int yc)]))
      refine own_up (fun _ k => XS.aloadN X7.here hx rfl (hb hby d_prog_49_m_3_39) rfl rfl k) ?_
      show own_Go p.tables e below _ (T7.setTop (mkF m 40 #[.val (.ref a), .val (.ref b), .val (.ref b)] [(.ref a), (.int yc)]))
      obtain ⟨T8, X8, e8, st8⟩ := getF X7 hx hZ hown (host := "") (Or.inl (hw _ (List.mem_of_getElem? (i := 18) rfl))) Via.refl e7 F3 (g := (mkF m 40 #[.val (.ref a), .val (.ref b), .val (.ref b)] [(.ref a), (.int yc)])) rfl rfl (hb hby d_prog_49_m_3_40)
      refine own_up st8 ?_
      show own_Go p.tables e below _ (T8.setTop (mkF m 43 #[.val (.ref a), .val (.ref b), .val (.ref b)] [(.int xc), (.int yc)]))
      by_cases c3 : yc = xc
      ·
        refine own_up (fun _ k => XS.icmpNo X8.here hx rfl (hb hby d_prog_49_m_3_43) rfl (teq c3).2 k) ?_
        show own_Go p.tables e below _ (T8.setTop (mkF m 46 #[.val (.ref a), .val (.ref b), .val (.ref b)] []))
        refine own_up (fun _ k => XS.iconst X8.here hx rfl (hb hby d_prog_49_m_3_46) k) ?_
        show own_Go p.tables e below _ (T8.setTop (mkF m 47 #[.val (.ref a), .val (.ref b), .val (.ref b)] [(.int (1 : Int32))]))
        refine own_up (fun _ k => XS.goto X8.here hx rfl (pc0 := 47) (pc' := 51) rfl (hb hby d_prog_49_m_3_47) (by decide) (by decide) k) ?_
        show own_Go p.tables e below _ (T8.setTop (mkF m 51 #[.val (.ref a), .val (.ref b), .val (.ref b)] [(.int (1 : Int32))]))
        exact own_end X8 hlk (v := some (.int (1 : Int32))) (fun h => by rw [Bd.returns] at h; cases h) (fun fs hr => retN X8 hx (z := (1 : Int32)) (t := .boolean) Bd.returns (by simp) (hb hby d_prog_49_m_3_51) hr) e8 ⟨by rw [if_pos ⟨c1, c2, c3⟩], N0, rfl⟩ (by decide) (by decide)
      ·
        refine own_up (fun _ k => XS.icmpYes X8.here hx rfl (pc0 := 43) (pc' := 50) rfl (hb hby d_prog_49_m_3_43) rfl (feq c3).2 (by decide) (by decide) k) ?_
        show own_Go p.tables e below _ (T8.setTop (mkF m 50 #[.val (.ref a), .val (.ref b), .val (.ref b)] []))
        refine own_up (fun _ k => XS.iconst X8.here hx rfl (hb hby d_prog_49_m_3_50) k) ?_
        show own_Go p.tables e below _ (T8.setTop (mkF m 51 #[.val (.ref a), .val (.ref b), .val (.ref b)] [(.int (0 : Int32))]))
        exact own_end X8 hlk (v := some (.int (0 : Int32))) (fun h => by rw [Bd.returns] at h; cases h) (fun fs hr => retN X8 hx (z := (0 : Int32)) (t := .boolean) Bd.returns (by simp) (hb hby d_prog_49_m_3_51) hr) e8 ⟨by rw [if_neg (fun q => c3 q.2.2)], N0, rfl⟩ (by decide) (by decide)
    ·
      refine own_up (fun _ k => XS.icmpYes X6.here hx rfl (pc0 := 32) (pc' := 50) rfl (hb hby d_prog_49_m_3_32) rfl (feq c2).2 (by decide) (by decide) k) ?_
      show own_Go p.tables e below _ (T6.setTop (mkF m 50 #[.val (.ref a), .val (.ref b), .val (.ref b)] []))
      refine own_up (fun _ k => XS.iconst X6.here hx rfl (hb hby d_prog_49_m_3_50) k) ?_
      show own_Go p.tables e below _ (T6.setTop (mkF m 51 #[.val (.ref a), .val (.ref b), .val (.ref b)] [(.int (0 : Int32))]))
      exact own_end X6 hlk (v := some (.int (0 : Int32))) (fun h => by rw [Bd.returns] at h; cases h) (fun fs hr => retN X6 hx (z := (0 : Int32)) (t := .boolean) Bd.returns (by simp) (hb hby d_prog_49_m_3_51) hr) e6 ⟨by rw [if_neg (fun q => c2 q.2.1)], N0, rfl⟩ (by decide) (by decide)
  ·
    refine own_up (fun _ k => XS.ifYes X4.here hx rfl (pc0 := 21) (pc' := 50) rfl (hb hby d_prog_49_m_3_21) rfl ((if0 _ _).trans (feq (fun q => c1 ((lw_eq _ _).mp q))).2) (by decide) (by decide) k) ?_
    show own_Go p.tables e below _ (T4.setTop (mkF m 50 #[.val (.ref a), .val (.ref b), .val (.ref b)] []))
    refine own_up (fun _ k => XS.iconst X4.here hx rfl (hb hby d_prog_49_m_3_50) k) ?_
    show own_Go p.tables e below _ (T4.setTop (mkF m 51 #[.val (.ref a), .val (.ref b), .val (.ref b)] [(.int (0 : Int32))]))
    exact own_end X4 hlk (v := some (.int (0 : Int32))) (fun h => by rw [Bd.returns] at h; cases h) (fun fs hr => retN X4 hx (z := (0 : Int32)) (t := .boolean) Bd.returns (by simp) (hb hby d_prog_49_m_3_51) hr) e4 ⟨by rw [if_neg (fun q => c1 q.1)], N0, rfl⟩ (by decide) (by decide)
theorem own_pd2 : parseMethodDescriptor "(JII)V" = some ⟨[.long, .int, .int], none⟩ := by decide +kernel
theorem own_pd3 : parseMethodDescriptor "(Ljava/lang/Object;)Z" = some ⟨[(.object "java/lang/Object")], some .boolean⟩ := by decide +kernel
theorem own_pd4 : parseMethodDescriptor "(J)Ljava/lang/Long;" = some ⟨[.long], some (.object "java/lang/Long")⟩ := by decide +kernel
theorem own_pn4 : plainName "com/example/hoptrail/hoptrail/store/MarkEqualsPinLaw" = true := by first | (simp [plainName, overriddenIn]; done) | decide +kernel
theorem ef_rm0 (m : MethodId) (y0 : Int64) (y1 : Int32) (y2 : Int32) (y3 : Int64) (y4 : Int32) (y5 : Int32) : entryFrame m #[(.long y0), (.int y1), (.int y2), (.long y3), (.int y4), (.int y5)] maxLocals = mkF m 0 #[.val (.long y0), .second, .val (.int y1), .val (.int y2), .val (.long y3), .second, .val (.int y4), .val (.int y5), .unset, .unset, .unset, .unset, .unset, .unset, .unset, .unset] [] := by first | (simp [entryFrame, mkF, argsToLocals, Value.category, maxLocals]; done) | rfl
def Q_rm0 (Z : State) (p0 : Int64) (p1 : Int32) (p2 : Int32) (p3 : Int64) (p4 : Int32) (p5 : Int32) (ca : Addr) (cl : Cell) (h0 : Heap) (n0 : Nat) (v : Option Value) (h : Heap) (L : List Loc) : Prop := v = some (.int (1 : Int32)) ∧ Fr n0 L
set_option maxRecDepth 65536 in
set_option maxHeartbeats 40000000 in
theorem rm0 (l : Launch) (Z : State) (a0 : Array Value) (hw : ∀ d ∈ tables_1, d.before a0 Z = true) (ws : List Jvm.Cond) (p0 : Int64) (p1 : Int32) (p2 : Int32) (p3 : Int64) (p4 : Int32) (p5 : Int32) (ca : Addr) (cl : Cell) (h0 : Heap) (n0 : Nat) (Z0 : n0 ≤ h0.size) (O : Old Z n0 h0) (S : Sta Z Z.heap "java/lang/Long$LongCache" "cache" "[Ljava/lang/Long;" (.ref ca)) (A : Arr Z Z.heap ca cl (.object "java/lang/Long")) (hsz : cl.slots.size = 256) (hcache : ∀ j : Int32, ¬ j < 0 → j < (256 : Int32) → ∃ b, cl.slots[j.toNatClampNeg]? = some (.ref b) ∧ Exa Z Z.heap b "java/lang/Long") :
    MetFree l x (head1 (Jvm.Cond.code x code maxLocals ret :: ws) room_1) (fun ar U => ar = #[(.long p0), (.int p1), (.int p2), (.long p3), (.int p4), (.int p5)] ∧ Z.Warmed39 U.vm ∧ U.heap = h0) (fun _ _ _ _ _ => True) (fun _ U o U' => ∃ v L, o = .returned v ∧ Q_rm0 Z p0 p1 p2 p3 p4 p5 ca cl h0 n0 v U'.heap L ∧ FrameEnd U o U' L room_1.cells room_1.slots) := by
  refine MetFree.of_bodySF (plainFor_of_name own_pn4) hisR ?_
  intro p e s m args below meth c s₁ Bd hml0 hP hK
  obtain ⟨rfl, hZ, hh⟩ := hP
  have hx := Bd.exec
  have hby := Bd.bytes
  have hlk : meth.locks = false := BodyLoose.notSynchronized Bd
  have hml : c.maxLocals = 16 := hml0
  have hown : s.vm.findClass "com/example/hoptrail/hoptrail/store/MarkEqualsPinLaw" = some m.cls := findClass_of_methodNamed Bd.named
  have hnm := (name_of_methodNamed Bd.named Bd.method).1
  have X0 : Stand p l e room_1 s m #[(.long p0), (.int p1), (.int p2), (.long p3), (.int p4), (.int p5)] below meth c s₁ [] 0 0 := Stand.of_body Bd
  have e0 : s₁.heap = h0 := by rw [← hh, Bd.state]; rfl
  have N0 := Fr.nil n0
  show own_Go p.tables e below (fun u o => ∃ v L, o = .returned v ∧ Q_rm0 Z p0 p1 p2 p3 p4 p5 ca cl h0 n0 v u.heap L ∧ FrameEnd s o u L room_1.cells room_1.slots) (s₁.setTop (entryFrame m #[(.long p0), (.int p1), (.int p2), (.long p3), (.int p4), (.int p5)] maxLocals))
  refine own_up (fun _ k => castTop (ef_rm0 m p0 p1 p2 p3 p4 p5) k) ?_
  show own_Go p.tables e below _ (s₁.setTop (mkF m 0 #[.val (.long p0), .second, .val (.int p1), .val (.int p2), .val (.long p3), .second, .val (.int p4), .val (.int p5), .unset, .unset, .unset, .unset, .unset, .unset, .unset, .unset] []))
  refine own_up (fun _ k => XS.iload X0.here hx rfl (hb hby at_0) rfl k) ?_
  show own_Go p.tables e below _ (s₁.setTop (mkF m 2 #[.val (.long p0), .second, .val (.int p1), .val (.int p2), .val (.long p3), .second, .val (.int p4), .val (.int p5), .unset, .unset, .unset, .unset, .unset, .unset, .unset, .unset] [(.int p5)]))
  refine own_up (fun _ k => XS.iconst X0.here hx rfl (hb hby at_2) k) ?_
  show own_Go p.tables e below _ (s₁.setTop (mkF m 3 #[.val (.long p0), .second, .val (.int p1), .val (.int p2), .val (.long p3), .second, .val (.int p4), .val (.int p5), .unset, .unset, .unset, .unset, .unset, .unset, .unset, .unset] [(.int (1 : Int32)), (.int p5)]))
  refine own_up (fun _ k => XS.iand X0.here hx rfl (hb hby at_3) rfl k) ?_
  show own_Go p.tables e below _ (s₁.setTop (mkF m 4 #[.val (.long p0), .second, .val (.int p1), .val (.int p2), .val (.long p3), .second, .val (.int p4), .val (.int p5), .unset, .unset, .unset, .unset, .unset, .unset, .unset, .unset] [(.int (p5 &&& (1 : Int32)))]))
  have t45 : ∀ (Tt1 : State) (Lt1 : List Loc) (Xt1 : Stand p l e room_1 s m #[(.long p0), (.int p1), (.int p2), (.long p3), (.int p4), (.int p5)] below meth c Tt1 Lt1 0 0) (et1 : Tt1.heap = h0) (Nt1 : Fr n0 Lt1) (yA : Int64) (yL : Int32) (yC : Int32), own_Go p.tables e below (fun u o => ∃ v L, o = .returned v ∧ Q_rm0 Z p0 p1 p2 p3 p4 p5 ca cl h0 n0 v u.heap L ∧ FrameEnd s o u L room_1.cells room_1.slots) (Tt1.setTop (mkF m 45 #[.val (.long p0), .second, .val (.int p1), .val (.int p2), .val (.long p3), .second, .val (.int p4), .val (.int p5), .val (.long yA), .second, .val (.int yL), .val (.int yC), .unset, .unset, .unset, .unset] [])) := by
    intro Tt1 Lt1 Xt1 et1 Nt1 yA yL yC
    obtain ⟨T2, h2, X2, e2, E2, A2, D2, -, st2⟩ := newO Xt1 hx hZ hown (hw _ (List.mem_of_getElem? (i := 0) rfl)) (hw _ (List.mem_of_getElem? (i := 1) rfl)) (hw _ (List.mem_of_getElem? (i := 2) rfl)) et1 (g := (mkF m 45 #[.val (.long p0), .second, .val (.int p1), .val (.int p2), .val (.long p3), .second, .val (.int p4), .val (.int p5), .val (.long yA), .second, .val (.int yL), .val (.int yC), .unset, .unset, .unset, .unset] [])) rfl (hb hby at_45) (by decide) (by decide)
    obtain ⟨b2, g2⟩ : ∃ z, z = h0.size := ⟨_, rfl⟩
    rw [← g2] at A2 D2 st2
    have ge2 : n0 ≤ b2 := Nat.le_trans Z0 (Nat.le_of_eq g2.symm)
    refine own_up st2 ?_
    have F2_at : Fld Z h2 b2 "com/example/hoptrail/hoptrail/store/Journal$Mark" "at" "J" (.long (0 : Int64)) := D2 (Or.inr (hw _ (List.mem_of_getElem? (i := 15) rfl))) (ty := .long) (by decide)
    have F2_length : Fld Z h2 b2 "com/example/hoptrail/hoptrail/store/Journal$Mark" "length" "I" (.int (0 : Int32)) := D2 (Or.inr (hw _ (List.mem_of_getElem? (i := 17) rfl))) (ty := .int) (by decide)
    have F2_checksum : Fld Z h2 b2 "com/example/hoptrail/hoptrail/store/Journal$Mark" "checksum" "I" (.int (0 : Int32)) := D2 (Or.inr (hw _ (List.mem_of_getElem? (i := 19) rfl))) (ty := .int) (by decide)
    show own_Go p.tables e below _ (T2.setTop (mkF m 48 #[.val (.long p0), .second, .val (.int p1), .val (.int p2), .val (.long p3), .second, .val (.int p4), .val (.int p5), .val (.long yA), .second, .val (.int yL), .val (.int yC), .unset, .unset, .unset, .unset] [(.ref b2)]))
    refine own_up (fun _ k => XS.dup X2.here hx rfl (hb hby at_48) rfl rfl k) ?_
    show own_Go p.tables e below _ (T2.setTop (mkF m 49 #[.val (.long p0), .second, .val (.int p1), .val (.int p2), .val (.long p3), .second, .val (.int p4), .val (.int p5), .val (.long yA), .second, .val (.int yL), .val (.int yC), .unset, .unset, .unset, .unset] [(.ref b2), (.ref b2)]))
    refine own_up (fun _ k => XS.lloadN X2.here hx rfl (hb hby at_49) rfl k) ?_
    show own_Go p.tables e below _ (T2.setTop (mkF m 50 #[.val (.long p0), .second, .val (.int p1), .val (.int p2), .val (.long p3), .second, .val (.int p4), .val (.int p5), .val (.long yA), .second, .val (.int yL), .val (.int yC), .unset, .unset, .unset, .unset] [(.long p0), (.ref b2), (.ref b2)]))
    refine own_up (fun _ k => XS.iloadN X2.here hx rfl (hb hby at_50) rfl k) ?_
    show own_Go p.tables e below _ (T2.setTop (mkF m 51 #[.val (.long p0), .second, .val (.int p1), .val (.int p2), .val (.long p3), .second, .val (.int p4), .val (.int p5), .val (.long yA), .second, .val (.int yL), .val (.int yC), .unset, .unset, .unset, .unset] [(.int p1), (.long p0), (.ref b2), (.ref b2)]))
    refine own_up (fun _ k => XS.iloadN X2.here hx rfl (hb hby at_51) rfl k) ?_
    show own_Go p.tables e below _ (T2.setTop (mkF m 52 #[.val (.long p0), .second, .val (.int p1), .val (.int p2), .val (.long p3), .second, .val (.int p4), .val (.int p5), .val (.long yA), .second, .val (.int yL), .val (.int yC), .unset, .unset, .unset, .unset] [(.int p2), (.int p1), (.long p0), (.ref b2), (.ref b2)]))
    have f4 : n0 ≤ h2.size := (Nat.le_trans Z0 E2.1)
    obtain ⟨_, _, ⟨T3, L3, k3, n3⟩, -, X3, ⟨Lc3, hQ3, l3, y3, z3⟩, st3⟩ := X2.specialBack hx (y := (⟨"com/example/hoptrail/hoptrail/store/Journal$Mark", "<init>", "(JII)V"⟩ : MethodName)) rfl hown (mvT hZ (hw _ (List.mem_of_getElem? (i := 3) rfl))) (mvT hZ (hw _ (List.mem_of_getElem? (i := 4) rfl))) (mvT hZ (hw _ (List.mem_of_getElem? (i := 5) rfl))) (by decide) (backOf (W := 1) (rm1 l Z a0 hw [] b2 p0 p1 p2 h2 n0 f4 A2 F2_at F2_length F2_checksum ge2) hZ (hw _ (List.mem_of_getElem? (i := 5) rfl)) (hw _ (List.mem_of_getElem? (i := 2) rfl)) (by decide) (by decide)) (g := (mkF m 52 #[.val (.long p0), .second, .val (.int p1), .val (.int p2), .val (.long p3), .second, .val (.int p4), .val (.int p5), .val (.long yA), .second, .val (.int yL), .val (.int yC), .unset, .unset, .unset, .unset] [(.int p2), (.int p1), (.long p0), (.ref b2), (.ref b2)])) rfl (by rw [hml]; rfl) (Steps.refl _) (a := b2) (argsL := [(.long p0), (.int p1), (.int p2)]) (rest := [(.ref b2)]) (lenOf own_pd2 rfl) rfl (by show 2 * 0 + _ ≤ _; exact Nat.le_of_eq rfl) (hb hby at_52) (fun _ _ => ⟨rfl, e2, (by decide : 1 + 0 ≤ _), (by decide : 3 + 0 ≤ _)⟩)
    dsimp only [Pt.U, Pt.locs, Pt.cells, Pt.slots] at X3 l3 y3 z3 st3 hQ3
    subst l3 y3 z3
    obtain ⟨rfl, N3q, K3, P3_0, P3_1, P3_2, P3_3⟩ := hQ3
    have N3 := Fr.app Nt1 N3q
    refine own_up (fun _ k => st3.trans k) ?_
    show own_Go p.tables e below _ (T3.setTop (mkF m 55 #[.val (.long p0), .second, .val (.int p1), .val (.int p2), .val (.long p3), .second, .val (.int p4), .val (.int p5), .val (.long yA), .second, .val (.int yL), .val (.int yC), .unset, .unset, .unset, .unset] [(.ref b2)]))
    refine own_up (fun _ k => XS.astore X3.here hx rfl (hb hby at_55) rfl rfl (l' := #[.val (.long p0), .second, .val (.int p1), .val (.int p2), .val (.long p3), .second, .val (.int p4), .val (.int p5), .val (.long yA), .second, .val (.int yL), .val (.int yC), .val (.ref b2), .unset, .unset, .unset]) rfl k) ?_
    show own_Go p.tables e below _ (T3.setTop (mkF m 57 #[.val (.long p0), .second, .val (.int p1), .val (.int p2), .val (.long p3), .second, .val (.int p4), .val (.int p5), .val (.long yA), .second, .val (.int yL), .val (.int yC), .val (.ref b2), .unset, .unset, .unset] []))
    obtain ⟨T5, h5, X5, e5, E5, A5, D5, -, st5⟩ := newO X3 hx hZ hown (hw _ (List.mem_of_getElem? (i := 0) rfl)) (hw _ (List.mem_of_getElem? (i := 1) rfl)) (hw _ (List.mem_of_getElem? (i := 2) rfl)) rfl (g := (mkF m 57 #[.val (.long p0), .second, .val (.int p1), .val (.int p2), .val (.long p3), .second, .val (.int p4), .val (.int p5), .val (.long yA), .second, .val (.int yL), .val (.int yC), .val (.ref b2), .unset, .unset, .unset] [])) rfl (hb hby at_57) (by decide) (by decide)
    have f6 : n0 ≤ T3.heap.size := (Nat.le_trans f4 K3.1)
    obtain ⟨b5, g5⟩ : ∃ z, z = T3.heap.size := ⟨_, rfl⟩
    rw [← g5] at A5 D5 st5
    have ge5 : n0 ≤ b5 := Nat.le_trans f6 (Nat.le_of_eq g5.symm)
    have ne5_0 : b2 ≠ b5 := Nat.ne_of_lt (Nat.lt_of_lt_of_le P3_0.lt (Nat.le_of_eq g5.symm))
    refine own_up st5 ?_
    have F5_at : Fld Z h5 b5 "com/example/hoptrail/hoptrail/store/Journal$Mark" "at" "J" (.long (0 : Int64)) := D5 (Or.inr (hw _ (List.mem_of_getElem? (i := 15) rfl))) (ty := .long) (by decide)
    have F5_length : Fld Z h5 b5 "com/example/hoptrail/hoptrail/store/Journal$Mark" "length" "I" (.int (0 : Int32)) := D5 (Or.inr (hw _ (List.mem_of_getElem? (i := 17) rfl))) (ty := .int) (by decide)
    have F5_checksum : Fld Z h5 b5 "com/example/hoptrail/hoptrail/store/Journal$Mark" "checksum" "I" (.int (0 : Int32)) := D5 (Or.inr (hw _ (List.mem_of_getElem? (i := 19) rfl))) (ty := .int) (by decide)
    show own_Go p.tables e below _ (T5.setTop (mkF m 60 #[.val (.long p0), .second, .val (.int p1), .val (.int p2), .val (.long p3), .second, .val (.int p4), .val (.int p5), .val (.long yA), .second, .val (.int yL), .val (.int yC), .val (.ref b2), .unset, .unset, .unset] [(.ref b5)]))
    refine own_up (fun _ k => XS.dup X5.here hx rfl (hb hby at_60) rfl rfl k) ?_
    show own_Go p.tables e below _ (T5.setTop (mkF m 61 #[.val (.long p0), .second, .val (.int p1), .val (.int p2), .val (.long p3), .second, .val (.int p4), .val (.int p5), .val (.long yA), .second, .val (.int yL), .val (.int yC), .val (.ref b2), .unset, .unset, .unset] [(.ref b5), (.ref b5)]))
    refine own_up (fun _ k => XS.lload X5.here hx rfl (hb hby at_61) rfl k) ?_
    show own_Go p.tables e below _ (T5.setTop (mkF m 63 #[.val (.long p0), .second, .val (.int p1), .val (.int p2), .val (.long p3), .second, .val (.int p4), .val (.int p5), .val (.long yA), .second, .val (.int yL), .val (.int yC), .val (.ref b2), .unset, .unset, .unset] [(.long yA), (.ref b5), (.ref b5)]))
    refine own_up (fun _ k => XS.iload X5.here hx rfl (hb hby at_63) rfl k) ?_
    show own_Go p.tables e below _ (T5.setTop (mkF m 65 #[.val (.long p0), .second, .val (.int p1), .val (.int p2), .val (.long p3), .second, .val (.int p4), .val (.int p5), .val (.long yA), .second, .val (.int yL), .val (.int yC), .val (.ref b2), .unset, .unset, .unset] [(.int yL), (.long yA), (.ref b5), (.ref b5)]))
    refine own_up (fun _ k => XS.iload X5.here hx rfl (hb hby at_65) rfl k) ?_
    show own_Go p.tables e below _ (T5.setTop (mkF m 67 #[.val (.long p0), .second, .val (.int p1), .val (.int p2), .val (.long p3), .second, .val (.int p4), .val (.int p5), .val (.long yA), .second, .val (.int yL), .val (.int yC), .val (.ref b2), .unset, .unset, .unset] [(.int yC), (.int yL), (.long yA), (.ref b5), (.ref b5)]))
    have f8 : n0 ≤ h5.size := (Nat.le_trans f6 E5.1)
    obtain ⟨_, _, ⟨T7, L7, k7, n7⟩, -, X7, ⟨Lc7, hQ7, l7, y7, z7⟩, st7⟩ := X5.specialBack hx (y := (⟨"com/example/hoptrail/hoptrail/store/Journal$Mark", "<init>", "(JII)V"⟩ : MethodName)) rfl hown (mvT hZ (hw _ (List.mem_of_getElem? (i := 3) rfl))) (mvT hZ (hw _ (List.mem_of_getElem? (i := 4) rfl))) (mvT hZ (hw _ (List.mem_of_getElem? (i := 5) rfl))) (by decide) (backOf (W := 1) (rm1 l Z a0 hw [] b5 yA yL yC h5 n0 f8 A5 F5_at F5_length F5_checksum ge5) hZ (hw _ (List.mem_of_getElem? (i := 5) rfl)) (hw _ (List.mem_of_getElem? (i := 2) rfl)) (by decide) (by decide)) (g := (mkF m 67 #[.val (.long p0), .second, .val (.int p1), .val (.int p2), .val (.long p3), .second, .val (.int p4), .val (.int p5), .val (.long yA), .second, .val (.int yL), .val (.int yC), .val (.ref b2), .unset, .unset, .unset] [(.int yC), (.int yL), (.long yA), (.ref b5), (.ref b5)])) rfl (by rw [hml]; rfl) (Steps.refl _) (a := b5) (argsL := [(.long yA), (.int yL), (.int yC)]) (rest := [(.ref b5)]) (lenOf own_pd2 rfl) rfl (by show 2 * 0 + _ ≤ _; exact Nat.le_of_eq rfl) (hb hby at_67) (fun _ _ => ⟨rfl, e5, (by decide : 2 + 0 ≤ _), (by decide : 6 + 0 ≤ _)⟩)
    dsimp only [Pt.U, Pt.locs, Pt.cells, Pt.slots] at X7 l7 y7 z7 st7 hQ7
    subst l7 y7 z7
    obtain ⟨rfl, N7q, K7, P7_0, P7_1, P7_2, P7_3⟩ := hQ7
    have N7 := Fr.app N3 N7q
    refine own_up (fun _ k => st7.trans k) ?_
    show own_Go p.tables e below _ (T7.setTop (mkF m 70 #[.val (.long p0), .second, .val (.int p1), .val (.int p2), .val (.long p3), .second, .val (.int p4), .val (.int p5), .val (.long yA), .second, .val (.int yL), .val (.int yC), .val (.ref b2), .unset, .unset, .unset] [(.ref b5)]))
    refine own_up (fun _ k => XS.astore X7.here hx rfl (hb hby at_70) rfl rfl (l' := #[.val (.long p0), .second, .val (.int p1), .val (.int p2), .val (.long p3), .second, .val (.int p4), .val (.int p5), .val (.long yA), .second, .val (.int yL), .val (.int yC), .val (.ref b2), .val (.ref b5), .unset, .unset]) rfl k) ?_
    show own_Go p.tables e below _ (T7.setTop (mkF m 72 #[.val (.long p0), .second, .val (.int p1), .val (.int p2), .val (.long p3), .second, .val (.int p4), .val (.int p5), .val (.long yA), .second, .val (.int yL), .val (.int yC), .val (.ref b2), .val (.ref b5), .unset, .unset] []))
    refine own_up (fun _ k => XS.iload X7.here hx rfl (hb hby at_72) rfl k) ?_
    show own_Go p.tables e below _ (T7.setTop (mkF m 74 #[.val (.long p0), .second, .val (.int p1), .val (.int p2), .val (.long p3), .second, .val (.int p4), .val (.int p5), .val (.long yA), .second, .val (.int yL), .val (.int yC), .val (.ref b2), .val (.ref b5), .unset, .unset] [(.int p5)]))
    refine own_up (fun _ k => XS.iconst X7.here hx rfl (hb hby at_74) k) ?_
    show own_Go p.tables e below _ (T7.setTop (mkF m 75 #[.val (.long p0), .second, .val (.int p1), .val (.int p2), .val (.long p3), .second, .val (.int p4), .val (.int p5), .val (.long yA), .second, .val (.int yL), .val (.int yC), .val (.ref b2), .val (.ref b5), .unset, .unset] [(.int (3 : Int32)), (.int p5)]))
    refine own_up (fun _ k => XS.iushr X7.here hx rfl (hb hby at_75) rfl k) ?_
    show own_Go p.tables e below _ (T7.setTop (mkF m 76 #[.val (.long p0), .second, .val (.int p1), .val (.int p2), .val (.long p3), .second, .val (.int p4), .val (.int p5), .val (.long yA), .second, .val (.int yL), .val (.int yC), .val (.ref b2), .val (.ref b5), .unset, .unset] [(.int ((p5.toUInt32 >>> ((3 : Int32) &&& 31).toUInt32).toInt32))]))
    refine own_up (fun _ k => XS.iconst X7.here hx rfl (hb hby at_76) k) ?_
    show own_Go p.tables e below _ (T7.setTop (mkF m 77 #[.val (.long p0), .second, .val (.int p1), .val (.int p2), .val (.long p3), .second, .val (.int p4), .val (.int p5), .val (.long yA), .second, .val (.int yL), .val (.int yC), .val (.ref b2), .val (.ref b5), .unset, .unset] [(.int (3 : Int32)), (.int ((p5.toUInt32 >>> ((3 : Int32) &&& 31).toUInt32).toInt32))]))
    refine own_up (fun _ k => XS.iand X7.here hx rfl (hb hby at_77) rfl k) ?_
    show own_Go p.tables e below _ (T7.setTop (mkF m 78 #[.val (.long p0), .second, .val (.int p1), .val (.int p2), .val (.long p3), .second, .val (.int p4), .val (.int p5), .val (.long yA), .second, .val (.int yL), .val (.int yC), .val (.ref b2), .val (.ref b5), .unset, .unset] [(.int (((p5.toUInt32 >>> ((3 : Int32) &&& 31).toUInt32).toInt32) &&& (3 : Int32)))]))
    refine own_up (fun _ k => XS.istore X7.here hx rfl (hb hby at_78) rfl (l' := #[.val (.long p0), .second, .val (.int p1), .val (.int p2), .val (.long p3), .second, .val (.int p4), .val (.int p5), .val (.long yA), .second, .val (.int yL), .val (.int yC), .val (.ref b2), .val (.ref b5), .val (.int (((p5.toUInt32 >>> ((3 : Int32) &&& 31).toUInt32).toInt32) &&& (3 : Int32))), .unset]) rfl k) ?_
    show own_Go p.tables e below _ (T7.setTop (mkF m 80 #[.val (.long p0), .second, .val (.int p1), .val (.int p2), .val (.long p3), .second, .val (.int p4), .val (.int p5), .val (.long yA), .second, .val (.int yL), .val (.int yC), .val (.ref b2), .val (.ref b5), .val (.int (((p5.toUInt32 >>> ((3 : Int32) &&& 31).toUInt32).toInt32) &&& (3 : Int32))), .unset] []))
    refine own_up (fun _ k => XS.iload X7.here hx rfl (hb hby at_80) rfl k) ?_
    show own_Go p.tables e below _ (T7.setTop (mkF m 82 #[.val (.long p0), .second, .val (.int p1), .val (.int p2), .val (.long p3), .second, .val (.int p4), .val (.int p5), .val (.long yA), .second, .val (.int yL), .val (.int yC), .val (.ref b2), .val (.ref b5), .val (.int (((p5.toUInt32 >>> ((3 : Int32) &&& 31).toUInt32).toInt32) &&& (3 : Int32))), .unset] [(.int (((p5.toUInt32 >>> ((3 : Int32) &&& 31).toUInt32).toInt32) &&& (3 : Int32)))]))
    refine own_up (fun _ k => XS.iconst X7.here hx rfl (hb hby at_82) k) ?_
    show own_Go p.tables e below _ (T7.setTop (mkF m 83 #[.val (.long p0), .second, .val (.int p1), .val (.int p2), .val (.long p3), .second, .val (.int p4), .val (.int p5), .val (.long yA), .second, .val (.int yL), .val (.int yC), .val (.ref b2), .val (.ref b5), .val (.int (((p5.toUInt32 >>> ((3 : Int32) &&& 31).toUInt32).toInt32) &&& (3 : Int32))), .unset] [(.int (1 : Int32)), (.int (((p5.toUInt32 >>> ((3 : Int32) &&& 31).toUInt32).toInt32) &&& (3 : Int32)))]))
    by_cases k1 : (((p5.toUInt32 >>> ((3 : Int32) &&& 31).toUInt32).toInt32) &&& (3 : Int32)) = (1 : Int32)
    ·
      refine own_up (fun _ k => XS.icmpNo X7.here hx rfl (hb hby at_83) rfl (teq k1).2 k) ?_
      show own_Go p.tables e below _ (T7.setTop (mkF m 86 #[.val (.long p0), .second, .val (.int p1), .val (.int p2), .val (.long p3), .second, .val (.int p4), .val (.int p5), .val (.long yA), .second, .val (.int yL), .val (.int yC), .val (.ref b2), .val (.ref b5), .val (.int (((p5.toUInt32 >>> ((3 : Int32) &&& 31).toUInt32).toInt32) &&& (3 : Int32))), .unset] []))
      refine own_up (fun _ k => XS.aload X7.here hx rfl (hb hby at_86) rfl rfl k) ?_
      show own_Go p.tables e below _ (T7.setTop (mkF m 88 #[.val (.long p0), .second, .val (.int p1), .val (.int p2), .val (.long p3), .second, .val (.int p4), .val (.int p5), .val (.long yA), .second, .val (.int yL), .val (.int yC), .val (.ref b2), .val (.ref b5), .val (.int (((p5.toUInt32 >>> ((3 : Int32) &&& 31).toUInt32).toInt32) &&& (3 : Int32))), .unset] [(.ref b2)]))
      refine own_up (fun _ k => XS.aconstNull X7.here hx rfl (hb hby at_88) k) ?_
      show own_Go p.tables e below _ (T7.setTop (mkF m 89 #[.val (.long p0), .second, .val (.int p1), .val (.int p2), .val (.long p3), .second, .val (.int p4), .val (.int p5), .val (.long yA), .second, .val (.int yL), .val (.int yC), .val (.ref b2), .val (.ref b5), .val (.int (((p5.toUInt32 >>> ((3 : Int32) &&& 31).toUInt32).toInt32) &&& (3 : Int32))), .unset] [.null, (.ref b2)]))
      have f10 : n0 ≤ T7.heap.size := (Nat.le_trans f8 K7.1)
      have f11 : Exa Z T7.heap b2 "com/example/hoptrail/hoptrail/store/Journal$Mark" := ((P3_0.ext E5).keep K7)
      obtain ⟨cq9, kq9, q9a, q9b, q9c⟩ := isOf hZ rfl f11
      obtain ⟨_, _, ⟨T9, L9, k9, n9⟩, -, X9, ⟨Lc9, hQ9, l9, y9, z9⟩, st9⟩ := X7.virtualBack hx (y := (⟨"com/example/hoptrail/hoptrail/store/Journal$Mark", "equals", "(Ljava/lang/Object;)Z"⟩ : MethodName)) (z := (⟨"com/example/hoptrail/hoptrail/store/Journal$Mark", "equals", "(Ljava/lang/Object;)Z"⟩ : MethodName)) hown (mvT hZ (hw _ (List.mem_of_getElem? (i := 20) rfl))) (mvT hZ (hw _ (List.mem_of_getElem? (i := 21) rfl))) (notFace_of_selects (args := #[]) (mvT hZ (hw _ (List.mem_of_getElem? (i := 23) rfl)))) (mvT hZ (hw _ (List.mem_of_getElem? (i := 23) rfl))) (mvT hZ (hw _ (List.mem_of_getElem? (i := 22) rfl))) (by decide) (backOf (W := 0) (rm4 l Z a0 hw [] b2 T7.heap n0 f10 ) hZ (hw _ (List.mem_of_getElem? (i := 24) rfl)) (hw _ (List.mem_of_getElem? (i := 2) rfl)) (by decide) (by decide)) q9a q9c (g := (mkF m 89 #[.val (.long p0), .second, .val (.int p1), .val (.int p2), .val (.long p3), .second, .val (.int p4), .val (.int p5), .val (.long yA), .second, .val (.int yL), .val (.int yC), .val (.ref b2), .val (.ref b5), .val (.int (((p5.toUInt32 >>> ((3 : Int32) &&& 31).toUInt32).toInt32) &&& (3 : Int32))), .unset] [.null, (.ref b2)])) rfl (by rw [hml]; rfl) (Steps.refl _) (argsL := [.null]) (rest := []) (lenOf own_pd3 rfl) rfl (by show 2 * 0 + _ ≤ _; exact Nat.le_of_eq rfl) (hb hby at_89) (fun _ _ => ⟨rfl, rfl, (by decide : 2 + 0 ≤ _), (by decide : 6 + 0 ≤ _)⟩)
      dsimp only [Pt.U, Pt.locs, Pt.cells, Pt.slots] at X9 l9 y9 z9 st9 hQ9
      subst l9 y9 z9
      obtain ⟨rfl, N9q, eq9⟩ := hQ9
      have N9 := Fr.app N7 N9q
      refine own_up (fun _ k => st9.trans k) ?_
      show own_Go p.tables e below _ (T9.setTop (mkF m 92 #[.val (.long p0), .second, .val (.int p1), .val (.int p2), .val (.long p3), .second, .val (.int p4), .val (.int p5), .val (.long yA), .second, .val (.int yL), .val (.int yC), .val (.ref b2), .val (.ref b5), .val (.int (((p5.toUInt32 >>> ((3 : Int32) &&& 31).toUInt32).toInt32) &&& (3 : Int32))), .unset] [(.int (0 : Int32))]))
      refine own_up (fun _ k => XS.ifNo X9.here hx rfl (hb hby at_92) rfl ((if0 _ _).trans (teq rfl).2) k) ?_
      show own_Go p.tables e below _ (T9.setTop (mkF m 95 #[.val (.long p0), .second, .val (.int p1), .val (.int p2), .val (.long p3), .second, .val (.int p4), .val (.int p5), .val (.long yA), .second, .val (.int yL), .val (.int yC), .val (.ref b2), .val (.ref b5), .val (.int (((p5.toUInt32 >>> ((3 : Int32) &&& 31).toUInt32).toInt32) &&& (3 : Int32))), .unset] []))
      refine own_up (fun _ k => XS.iconst X9.here hx rfl (hb hby at_95) k) ?_
      show own_Go p.tables e below _ (T9.setTop (mkF m 96 #[.val (.long p0), .second, .val (.int p1), .val (.int p2), .val (.long p3), .second, .val (.int p4), .val (.int p5), .val (.long yA), .second, .val (.int yL), .val (.int yC), .val (.ref b2), .val (.ref b5), .val (.int (((p5.toUInt32 >>> ((3 : Int32) &&& 31).toUInt32).toInt32) &&& (3 : Int32))), .unset] [(.int (1 : Int32))]))
      refine own_up (fun _ k => XS.goto X9.here hx rfl (pc0 := 96) (pc' := 100) rfl (hb hby at_96) (by decide) (by decide) k) ?_
      show own_Go p.tables e below _ (T9.setTop (mkF m 100 #[.val (.long p0), .second, .val (.int p1), .val (.int p2), .val (.long p3), .second, .val (.int p4), .val (.int p5), .val (.long yA), .second, .val (.int yL), .val (.int yC), .val (.ref b2), .val (.ref b5), .val (.int (((p5.toUInt32 >>> ((3 : Int32) &&& 31).toUInt32).toInt32) &&& (3 : Int32))), .unset] [(.int (1 : Int32))]))
      exact own_end X9 hlk (v := some (.int (1 : Int32))) (fun h => by rw [Bd.returns] at h; cases h) (fun fs hr => retN X9 hx (z := (1 : Int32)) (t := .boolean) Bd.returns (by simp) (hb hby at_100) hr) eq9 ⟨rfl, N9⟩ (by decide) (by decide)
    ·
      refine own_up (fun _ k => XS.icmpYes X7.here hx rfl (pc0 := 83) (pc' := 101) rfl (hb hby at_83) rfl (feq k1).2 (by decide) (by decide) k) ?_
      show own_Go p.tables e below _ (T7.setTop (mkF m 101 #[.val (.long p0), .second, .val (.int p1), .val (.int p2), .val (.long p3), .second, .val (.int p4), .val (.int p5), .val (.long yA), .second, .val (.int yL), .val (.int yC), .val (.ref b2), .val (.ref b5), .val (.int (((p5.toUInt32 >>> ((3 : Int32) &&& 31).toUInt32).toInt32) &&& (3 : Int32))), .unset] []))
      refine own_up (fun _ k => XS.iload X7.here hx rfl (hb hby at_101) rfl k) ?_
      show own_Go p.tables e below _ (T7.setTop (mkF m 103 #[.val (.long p0), .second, .val (.int p1), .val (.int p2), .val (.long p3), .second, .val (.int p4), .val (.int p5), .val (.long yA), .second, .val (.int yL), .val (.int yC), .val (.ref b2), .val (.ref b5), .val (.int (((p5.toUInt32 >>> ((3 : Int32) &&& 31).toUInt32).toInt32) &&& (3 : Int32))), .unset] [(.int (((p5.toUInt32 >>> ((3 : Int32) &&& 31).toUInt32).toInt32) &&& (3 : Int32)))]))
      refine own_up (fun _ k => XS.iconst X7.here hx rfl (hb hby at_103) k) ?_
      show own_Go p.tables e below _ (T7.setTop (mkF m 104 #[.val (.long p0), .second, .val (.int p1), .val (.int p2), .val (.long p3), .second, .val (.int p4), .val (.int p5), .val (.long yA), .second, .val (.int yL), .val (.int yC), .val (.ref b2), .val (.ref b5), .val (.int (((p5.toUInt32 >>> ((3 : Int32) &&& 31).toUInt32).toInt32) &&& (3 : Int32))), .unset] [(.int (2 : Int32)), (.int (((p5.toUInt32 >>> ((3 : Int32) &&& 31).toUInt32).toInt32) &&& (3 : Int32)))]))
      by_cases k2 : (((p5.toUInt32 >>> ((3 : Int32) &&& 31).toUInt32).toInt32) &&& (3 : Int32)) = (2 : Int32)
      ·
        refine own_up (fun _ k => XS.icmpNo X7.here hx rfl (hb hby at_104) rfl (teq k2).2 k) ?_
        show own_Go p.tables e below _ (T7.setTop (mkF m 107 #[.val (.long p0), .second, .val (.int p1), .val (.int p2), .val (.long p3), .second, .val (.int p4), .val (.int p5), .val (.long yA), .second, .val (.int yL), .val (.int yC), .val (.ref b2), .val (.ref b5), .val (.int (((p5.toUInt32 >>> ((3 : Int32) &&& 31).toUInt32).toInt32) &&& (3 : Int32))), .unset] []))
        refine own_up (fun _ k => XS.aload X7.here hx rfl (hb hby at_107) rfl rfl k) ?_
        show own_Go p.tables e below _ (T7.setTop (mkF m 109 #[.val (.long p0), .second, .val (.int p1), .val (.int p2), .val (.long p3), .second, .val (.int p4), .val (.int p5), .val (.long yA), .second, .val (.int yL), .val (.int yC), .val (.ref b2), .val (.ref b5), .val (.int (((p5.toUInt32 >>> ((3 : Int32) &&& 31).toUInt32).toInt32) &&& (3 : Int32))), .unset] [(.ref b2)]))
        refine own_up (fun _ k => XS.aload X7.here hx rfl (hb hby at_109) rfl rfl k) ?_
        show own_Go p.tables e below _ (T7.setTop (mkF m 111 #[.val (.long p0), .second, .val (.int p1), .val (.int p2), .val (.long p3), .second, .val (.int p4), .val (.int p5), .val (.long yA), .second, .val (.int yL), .val (.int yC), .val (.ref b2), .val (.ref b5), .val (.int (((p5.toUInt32 >>> ((3 : Int32) &&& 31).toUInt32).toInt32) &&& (3 : Int32))), .unset] [(.ref b2), (.ref b2)]))
        have f13 : Exa Z T7.heap b2 "com/example/hoptrail/hoptrail/store/Journal$Mark" := ((P3_0.ext E5).keep K7)
        have f14 : Fld Z T7.heap b2 "com/example/hoptrail/hoptrail/store/Journal$Mark" "at" "J" (.long p0) := ((P3_1.ext E5).keep K7 (ninS ne5_0 nin0))
        have f15 : Fld Z T7.heap b2 "com/example/hoptrail/hoptrail/store/Journal$Mark" "length" "I" (.int p1) := ((P3_2.ext E5).keep K7 (ninS ne5_0 nin0))
        have f16 : Fld Z T7.heap b2 "com/example/hoptrail/hoptrail/store/Journal$Mark" "checksum" "I" (.int p2) := ((P3_3.ext E5).keep K7 (ninS ne5_0 nin0))
        have f17 : n0 ≤ T7.heap.size := (Nat.le_trans f8 K7.1)
        obtain ⟨cq12, kq12, q12a, q12b, q12c⟩ := isOf hZ rfl f13
        obtain ⟨_, _, ⟨T12, L12, k12, n12⟩, -, X12, ⟨Lc12, hQ12, l12, y12, z12⟩, st12⟩ := X7.virtualBack hx (y := (⟨"com/example/hoptrail/hoptrail/store/Journal$Mark", "equals", "(Ljava/lang/Object;)Z"⟩ : MethodName)) (z := (⟨"com/example/hoptrail/hoptrail/store/Journal$Mark", "equals", "(Ljava/lang/Object;)Z"⟩ : MethodName)) hown (mvT hZ (hw _ (List.mem_of_getElem? (i := 20) rfl))) (mvT hZ (hw _ (List.mem_of_getElem? (i := 21) rfl))) (notFace_of_selects (args := #[]) (mvT hZ (hw _ (List.mem_of_getElem? (i := 23) rfl)))) (mvT hZ (hw _ (List.mem_of_getElem? (i := 23) rfl))) (mvT hZ (hw _ (List.mem_of_getElem? (i := 22) rfl))) (by decide) (backOf (W := 0) (rm6 l Z a0 hw [] b2 b2 p0 p1 p2 p0 p1 p2 T7.heap n0 f17 f13 f14 f15 f16 f14 f15 f16) hZ (hw _ (List.mem_of_getElem? (i := 24) rfl)) (hw _ (List.mem_of_getElem? (i := 2) rfl)) (by decide) (by decide)) q12a q12c (g := (mkF m 111 #[.val (.long p0), .second, .val (.int p1), .val (.int p2), .val (.long p3), .second, .val (.int p4), .val (.int p5), .val (.long yA), .second, .val (.int yL), .val (.int yC), .val (.ref b2), .val (.ref b5), .val (.int (((p5.toUInt32 >>> ((3 : Int32) &&& 31).toUInt32).toInt32) &&& (3 : Int32))), .unset] [(.ref b2), (.ref b2)])) rfl (by rw [hml]; rfl) (Steps.refl _) (argsL := [(.ref b2)]) (rest := []) (lenOf own_pd3 rfl) rfl (by show 2 * 0 + _ ≤ _; exact Nat.le_of_eq rfl) (hb hby at_111) (fun _ _ => ⟨rfl, rfl, (by decide : 2 + 0 ≤ _), (by decide : 6 + 0 ≤ _)⟩)
        dsimp only [Pt.U, Pt.locs, Pt.cells, Pt.slots] at X12 l12 y12 z12 st12 hQ12
        subst l12 y12 z12
        obtain ⟨rfl, N12q, eq12⟩ := hQ12
        have N12 := Fr.app N7 N12q
        refine own_up (fun _ k => st12.trans k) ?_
        show own_Go p.tables e below _ (T12.setTop (mkF m 114 #[.val (.long p0), .second, .val (.int p1), .val (.int p2), .val (.long p3), .second, .val (.int p4), .val (.int p5), .val (.long yA), .second, .val (.int yL), .val (.int yC), .val (.ref b2), .val (.ref b5), .val (.int (((p5.toUInt32 >>> ((3 : Int32) &&& 31).toUInt32).toInt32) &&& (3 : Int32))), .unset] [(.int (if p0 = p0 ∧ p1 = p1 ∧ p2 = p2 then (1 : Int32) else 0))]))
        rw [own_nn ⟨rfl, rfl, rfl⟩]
        show own_Go p.tables e below _ (T12.setTop (mkF m 114 #[.val (.long p0), .second, .val (.int p1), .val (.int p2), .val (.long p3), .second, .val (.int p4), .val (.int p5), .val (.long yA), .second, .val (.int yL), .val (.int yC), .val (.ref b2), .val (.ref b5), .val (.int (((p5.toUInt32 >>> ((3 : Int32) &&& 31).toUInt32).toInt32) &&& (3 : Int32))), .unset] [(.int (1 : Int32))]))
        exact own_end X12 hlk (v := some (.int (1 : Int32))) (fun h => by rw [Bd.returns] at h; cases h) (fun fs hr => retN X12 hx (z := (1 : Int32)) (t := .boolean) Bd.returns (by simp) (hb hby at_114) hr) eq12 ⟨rfl, N12⟩ (by decide) (by decide)
      ·
        refine own_up (fun _ k => XS.icmpYes X7.here hx rfl (pc0 := 104) (pc' := 115) rfl (hb hby at_104) rfl (feq k2).2 (by decide) (by decide) k) ?_
        show own_Go p.tables e below _ (T7.setTop (mkF m 115 #[.val (.long p0), .second, .val (.int p1), .val (.int p2), .val (.long p3), .second, .val (.int p4), .val (.int p5), .val (.long yA), .second, .val (.int yL), .val (.int yC), .val (.ref b2), .val (.ref b5), .val (.int (((p5.toUInt32 >>> ((3 : Int32) &&& 31).toUInt32).toInt32) &&& (3 : Int32))), .unset] []))
        refine own_up (fun _ k => XS.iload X7.here hx rfl (hb hby at_115) rfl k) ?_
        show own_Go p.tables e below _ (T7.setTop (mkF m 117 #[.val (.long p0), .second, .val (.int p1), .val (.int p2), .val (.long p3), .second, .val (.int p4), .val (.int p5), .val (.long yA), .second, .val (.int yL), .val (.int yC), .val (.ref b2), .val (.ref b5), .val (.int (((p5.toUInt32 >>> ((3 : Int32) &&& 31).toUInt32).toInt32) &&& (3 : Int32))), .unset] [(.int (((p5.toUInt32 >>> ((3 : Int32) &&& 31).toUInt32).toInt32) &&& (3 : Int32)))]))
        refine own_up (fun _ k => XS.iconst X7.here hx rfl (hb hby at_117) k) ?_
        show own_Go p.tables e below _ (T7.setTop (mkF m 118 #[.val (.long p0), .second, .val (.int p1), .val (.int p2), .val (.long p3), .second, .val (.int p4), .val (.int p5), .val (.long yA), .second, .val (.int yL), .val (.int yC), .val (.ref b2), .val (.ref b5), .val (.int (((p5.toUInt32 >>> ((3 : Int32) &&& 31).toUInt32).toInt32) &&& (3 : Int32))), .unset] [(.int (3 : Int32)), (.int (((p5.toUInt32 >>> ((3 : Int32) &&& 31).toUInt32).toInt32) &&& (3 : Int32)))]))
        by_cases k3 : (((p5.toUInt32 >>> ((3 : Int32) &&& 31).toUInt32).toInt32) &&& (3 : Int32)) = (3 : Int32)
        ·
          refine own_up (fun _ k => XS.icmpNo X7.here hx rfl (hb hby at_118) rfl (teq k3).2 k) ?_
          show own_Go p.tables e below _ (T7.setTop (mkF m 121 #[.val (.long p0), .second, .val (.int p1), .val (.int p2), .val (.long p3), .second, .val (.int p4), .val (.int p5), .val (.long yA), .second, .val (.int yL), .val (.int yC), .val (.ref b2), .val (.ref b5), .val (.int (((p5.toUInt32 >>> ((3 : Int32) &&& 31).toUInt32).toInt32) &&& (3 : Int32))), .unset] []))
          refine own_up (fun _ k => XS.aload X7.here hx rfl (hb hby at_121) rfl rfl k) ?_
          show own_Go p.tables e below _ (T7.setTop (mkF m 123 #[.val (.long p0), .second, .val (.int p1), .val (.int p2), .val (.long p3), .second, .val (.int p4), .val (.int p5), .val (.long yA), .second, .val (.int yL), .val (.int yC), .val (.ref b2), .val (.ref b5), .val (.int (((p5.toUInt32 >>> ((3 : Int32) &&& 31).toUInt32).toInt32) &&& (3 : Int32))), .unset] [(.ref b2)]))
          refine own_up (fun _ k => XS.lloadN X7.here hx rfl (hb hby at_123) rfl k) ?_
          show own_Go p.tables e below _ (T7.setTop (mkF m 124 #[.val (.long p0), .second, .val (.int p1), .val (.int p2), .val (.long p3), .second, .val (.int p4), .val (.int p5), .val (.long yA), .second, .val (.int yL), .val (.int yC), .val (.ref b2), .val (.ref b5), .val (.int (((p5.toUInt32 >>> ((3 : Int32) &&& 31).toUInt32).toInt32) &&& (3 : Int32))), .unset] [(.long p0), (.ref b2)]))
          have f19 : Old Z n0 T7.heap := ((((O.ext E2).keep K3 (allS ge2 all0)).ext E5).keep K7 (allS ge5 all0))
          have f20 : n0 ≤ T7.heap.size := (Nat.le_trans f8 K7.1)
          obtain ⟨_, _, ⟨T18, L18, k18, n18⟩, -, X18, ⟨Lc18, hQ18, l18, y18, z18⟩, st18⟩ := Jvm.LawKit.callS X7 hx (y := (⟨"java/lang/Long", "valueOf", "(J)Ljava/lang/Long;"⟩ : MethodName)) hown (mvT hZ (hw _ (List.mem_of_getElem? (i := 27) rfl))) (mvT hZ (hw _ (List.mem_of_getElem? (i := 28) rfl))) (mvT hZ (hw _ (List.mem_of_getElem? (i := 29) rfl))) (mvT hZ (hw _ (List.mem_of_getElem? (i := 30) rfl))) (by decide) (backOf (W := 1) (rm3 l Z a0 hw [] p0 ca cl T7.heap n0 f20 f19 S A hsz hcache) hZ (hw _ (List.mem_of_getElem? (i := 30) rfl)) (hw _ (List.mem_of_getElem? (i := 29) rfl)) (by decide) (by decide)) (g := (mkF m 124 #[.val (.long p0), .second, .val (.int p1), .val (.int p2), .val (.long p3), .second, .val (.int p4), .val (.int p5), .val (.long yA), .second, .val (.int yL), .val (.int yC), .val (.ref b2), .val (.ref b5), .val (.int (((p5.toUInt32 >>> ((3 : Int32) &&& 31).toUInt32).toInt32) &&& (3 : Int32))), .unset] [(.long p0), (.ref b2)])) rfl (by rw [hml]; rfl) (argsL := [(.long p0)]) (rest := [(.ref b2)]) (lenOf own_pd4 rfl) rfl (by show 2 * 0 + _ ≤ _; exact Nat.le_of_eq rfl) (hb hby at_124) (fun _ _ => ⟨rfl, rfl, (by decide : 2 + 1 ≤ _), (by decide : 6 + 1 ≤ _)⟩)
          dsimp only [Pt.U, Pt.locs, Pt.cells, Pt.slots] at X18 l18 y18 z18 st18 hQ18
          subst l18 y18 z18
          obtain ⟨bl_18, rfl, N18q, K18, P18_0⟩ := hQ18
          have N18 := Fr.app N7 N18q
          refine own_up (fun _ k => st18 _ k) ?_
          show own_Go p.tables e below _ (T18.setTop (mkF m 127 #[.val (.long p0), .second, .val (.int p1), .val (.int p2), .val (.long p3), .second, .val (.int p4), .val (.int p5), .val (.long yA), .second, .val (.int yL), .val (.int yC), .val (.ref b2), .val (.ref b5), .val (.int (((p5.toUInt32 >>> ((3 : Int32) &&& 31).toUInt32).toInt32) &&& (3 : Int32))), .unset] [(.ref bl_18), (.ref b2)]))
          have f22 : n0 ≤ T18.heap.size := (Nat.le_trans f20 K18.1)
          have f23 : Exa Z T18.heap b2 "com/example/hoptrail/hoptrail/store/Journal$Mark" := (((P3_0.ext E5).keep K7).keep K18)
          obtain ⟨cq21, kq21, q21a, q21b, q21c⟩ := isOf hZ rfl f23
          obtain ⟨_, _, ⟨T21, L21, k21, n21⟩, -, X21, ⟨Lc21, hQ21, l21, y21, z21⟩, st21⟩ := X18.virtualBack hx (y := (⟨"com/example/hoptrail/hoptrail/store/Journal$Mark", "equals", "(Ljava/lang/Object;)Z"⟩ : MethodName)) (z := (⟨"com/example/hoptrail/hoptrail/store/Journal$Mark", "equals", "(Ljava/lang/Object;)Z"⟩ : MethodName)) hown (mvT hZ (hw _ (List.mem_of_getElem? (i := 20) rfl))) (mvT hZ (hw _ (List.mem_of_getElem? (i := 21) rfl))) (notFace_of_selects (args := #[]) (mvT hZ (hw _ (List.mem_of_getElem? (i := 23) rfl)))) (mvT hZ (hw _ (List.mem_of_getElem? (i := 23) rfl))) (mvT hZ (hw _ (List.mem_of_getElem? (i := 22) rfl))) (by decide) (backOf (W := 0) (rm5 l Z a0 hw [] b2 bl_18 T18.heap n0 f22 P18_0) hZ (hw _ (List.mem_of_getElem? (i := 24) rfl)) (hw _ (List.mem_of_getElem? (i := 2) rfl)) (by decide) (by decide)) q21a q21c (g := (mkF m 127 #[.val (.long p0), .second, .val (.int p1), .val (.int p2), .val (.long p3), .second, .val (.int p4), .val (.int p5), .val (.long yA), .second, .val (.int yL), .val (.int yC), .val (.ref b2), .val (.ref b5), .val (.int (((p5.toUInt32 >>> ((3 : Int32) &&& 31).toUInt32).toInt32) &&& (3 : Int32))), .unset] [(.ref bl_18), (.ref b2)])) rfl (by rw [hml]; rfl) (Steps.refl _) (argsL := [(.ref bl_18)]) (rest := []) (lenOf own_pd3 rfl) rfl (by show 2 * 0 + _ ≤ _; exact Nat.le_of_eq rfl) (hb hby at_127) (fun _ _ => ⟨rfl, rfl, (by decide : 3 + 0 ≤ _), (by decide : 7 + 0 ≤ _)⟩)
          dsimp only [Pt.U, Pt.locs, Pt.cells, Pt.slots] at X21 l21 y21 z21 st21 hQ21
          subst l21 y21 z21
          obtain ⟨rfl, N21q, eq21⟩ := hQ21
          have N21 := Fr.app N18 N21q
          refine own_up (fun _ k => st21.trans k) ?_
          show own_Go p.tables e below _ (T21.setTop (mkF m 130 #[.val (.long p0), .second, .val (.int p1), .val (.int p2), .val (.long p3), .second, .val (.int p4), .val (.int p5), .val (.long yA), .second, .val (.int yL), .val (.int yC), .val (.ref b2), .val (.ref b5), .val (.int (((p5.toUInt32 >>> ((3 : Int32) &&& 31).toUInt32).toInt32) &&& (3 : Int32))), .unset] [(.int (0 : Int32))]))
          refine own_up (fun _ k => XS.ifNo X21.here hx rfl (hb hby at_130) rfl ((if0 _ _).trans (teq rfl).2) k) ?_
          show own_Go p.tables e below _ (T21.setTop (mkF m 133 #[.val (.long p0), .second, .val (.int p1), .val (.int p2), .val (.long p3), .second, .val (.int p4), .val (.int p5), .val (.long yA), .second, .val (.int yL), .val (.int yC), .val (.ref b2), .val (.ref b5), .val (.int (((p5.toUInt32 >>> ((3 : Int32) &&& 31).toUInt32).toInt32) &&& (3 : Int32))), .unset] []))
          refine own_up (fun _ k => XS.iconst X21.here hx rfl (hb hby at_133) k) ?_
          show own_Go p.tables e below _ (T21.setTop (mkF m 134 #[.val (.long p0), .second, .val (.int p1), .val (.int p2), .val (.long p3), .second, .val (.int p4), .val (.int p5), .val (.long yA), .second, .val (.int yL), .val (.int yC), .val (.ref b2), .val (.ref b5), .val (.int (((p5.toUInt32 >>> ((3 : Int32) &&& 31).toUInt32).toInt32) &&& (3 : Int32))), .unset] [(.int (1 : Int32))]))
          refine own_up (fun _ k => XS.goto X21.here hx rfl (pc0 := 134) (pc' := 138) rfl (hb hby at_134) (by decide) (by decide) k) ?_
          show own_Go p.tables e below _ (T21.setTop (mkF m 138 #[.val (.long p0), .second, .val (.int p1), .val (.int p2), .val (.long p3), .second, .val (.int p4), .val (.int p5), .val (.long yA), .second, .val (.int yL), .val (.int yC), .val (.ref b2), .val (.ref b5), .val (.int (((p5.toUInt32 >>> ((3 : Int32) &&& 31).toUInt32).toInt32) &&& (3 : Int32))), .unset] [(.int (1 : Int32))]))
          exact own_end X21 hlk (v := some (.int (1 : Int32))) (fun h => by rw [Bd.returns] at h; cases h) (fun fs hr => retN X21 hx (z := (1 : Int32)) (t := .boolean) Bd.returns (by simp) (hb hby at_138) hr) eq21 ⟨rfl, N21⟩ (by decide) (by decide)
        ·
          refine own_up (fun _ k => XS.icmpYes X7.here hx rfl (pc0 := 118) (pc' := 139) rfl (hb hby at_118) rfl (feq k3).2 (by decide) (by decide) k) ?_
          show own_Go p.tables e below _ (T7.setTop (mkF m 139 #[.val (.long p0), .second, .val (.int p1), .val (.int p2), .val (.long p3), .second, .val (.int p4), .val (.int p5), .val (.long yA), .second, .val (.int yL), .val (.int yC), .val (.ref b2), .val (.ref b5), .val (.int (((p5.toUInt32 >>> ((3 : Int32) &&& 31).toUInt32).toInt32) &&& (3 : Int32))), .unset] []))
          have t165 : ∀ (Tt24 : State) (Lt24 : List Loc) (Xt24 : Stand p l e room_1 s m #[(.long p0), (.int p1), (.int p2), (.long p3), (.int p4), (.int p5)] below meth c Tt24 Lt24 2 6) (et24 : Tt24.heap = T7.heap) (Nt24 : Fr n0 Lt24) (ex : Int32) (hex : ex = if yA = p0 ∧ yL = p1 ∧ yC = p2 then (1 : Int32) else 0), own_Go p.tables e below (fun u o => ∃ v L, o = .returned v ∧ Q_rm0 Z p0 p1 p2 p3 p4 p5 ca cl h0 n0 v u.heap L ∧ FrameEnd s o u L room_1.cells room_1.slots) (Tt24.setTop (mkF m 165 #[.val (.long p0), .second, .val (.int p1), .val (.int p2), .val (.long p3), .second, .val (.int p4), .val (.int p5), .val (.long yA), .second, .val (.int yL), .val (.int yC), .val (.ref b2), .val (.ref b5), .val (.int (((p5.toUInt32 >>> ((3 : Int32) &&& 31).toUInt32).toInt32) &&& (3 : Int32))), .val (.int ex)] [])) := by
            intro Tt24 Lt24 Xt24 et24 Nt24 ex hex
            refine own_up (fun _ k => XS.aload Xt24.here hx rfl (hb hby at_165) rfl rfl k) ?_
            show own_Go p.tables e below _ (Tt24.setTop (mkF m 167 #[.val (.long p0), .second, .val (.int p1), .val (.int p2), .val (.long p3), .second, .val (.int p4), .val (.int p5), .val (.long yA), .second, .val (.int yL), .val (.int yC), .val (.ref b2), .val (.ref b5), .val (.int (((p5.toUInt32 >>> ((3 : Int32) &&& 31).toUInt32).toInt32) &&& (3 : Int32))), .val (.int ex)] [(.ref b2)]))
            refine own_up (fun _ k => XS.aload Xt24.here hx rfl (hb hby at_167) rfl rfl k) ?_
            show own_Go p.tables e below _ (Tt24.setTop (mkF m 169 #[.val (.long p0), .second, .val (.int p1), .val (.int p2), .val (.long p3), .second, .val (.int p4), .val (.int p5), .val (.long yA), .second, .val (.int yL), .val (.int yC), .val (.ref b2), .val (.ref b5), .val (.int (((p5.toUInt32 >>> ((3 : Int32) &&& 31).toUInt32).toInt32) &&& (3 : Int32))), .val (.int ex)] [(.ref b5), (.ref b2)]))
            have f26 : Fld Z T7.heap b2 "com/example/hoptrail/hoptrail/store/Journal$Mark" "at" "J" (.long p0) := ((P3_1.ext E5).keep K7 (ninS ne5_0 nin0))
            have f27 : Fld Z T7.heap b2 "com/example/hoptrail/hoptrail/store/Journal$Mark" "length" "I" (.int p1) := ((P3_2.ext E5).keep K7 (ninS ne5_0 nin0))
            have f28 : Fld Z T7.heap b2 "com/example/hoptrail/hoptrail/store/Journal$Mark" "checksum" "I" (.int p2) := ((P3_3.ext E5).keep K7 (ninS ne5_0 nin0))
            have f29 : n0 ≤ T7.heap.size := (Nat.le_trans f8 K7.1)
            have f30 : Exa Z T7.heap b2 "com/example/hoptrail/hoptrail/store/Journal$Mark" := ((P3_0.ext E5).keep K7)
            obtain ⟨cq25, kq25, q25a, q25b, q25c⟩ := isOf hZ et24 f30
            obtain ⟨_, _, ⟨T25, L25, k25, n25⟩, -, X25, ⟨Lc25, hQ25, l25, y25, z25⟩, st25⟩ := Xt24.virtualBack hx (y := (⟨"com/example/hoptrail/hoptrail/store/Journal$Mark", "equals", "(Ljava/lang/Object;)Z"⟩ : MethodName)) (z := (⟨"com/example/hoptrail/hoptrail/store/Journal$Mark", "equals", "(Ljava/lang/Object;)Z"⟩ : MethodName)) hown (mvT hZ (hw _ (List.mem_of_getElem? (i := 20) rfl))) (mvT hZ (hw _ (List.mem_of_getElem? (i := 21) rfl))) (notFace_of_selects (args := #[]) (mvT hZ (hw _ (List.mem_of_getElem? (i := 23) rfl)))) (mvT hZ (hw _ (List.mem_of_getElem? (i := 23) rfl))) (mvT hZ (hw _ (List.mem_of_getElem? (i := 22) rfl))) (by decide) (backOf (W := 0) (rm6 l Z a0 hw [] b2 b5 p0 p1 p2 yA yL yC T7.heap n0 f29 P7_0 f26 f27 f28 P7_1 P7_2 P7_3) hZ (hw _ (List.mem_of_getElem? (i := 24) rfl)) (hw _ (List.mem_of_getElem? (i := 2) rfl)) (by decide) (by decide)) q25a q25c (g := (mkF m 169 #[.val (.long p0), .second, .val (.int p1), .val (.int p2), .val (.long p3), .second, .val (.int p4), .val (.int p5), .val (.long yA), .second, .val (.int yL), .val (.int yC), .val (.ref b2), .val (.ref b5), .val (.int (((p5.toUInt32 >>> ((3 : Int32) &&& 31).toUInt32).toInt32) &&& (3 : Int32))), .val (.int ex)] [(.ref b5), (.ref b2)])) rfl (by rw [hml]; rfl) (Steps.refl _) (argsL := [(.ref b5)]) (rest := []) (lenOf own_pd3 rfl) rfl (by show 2 * 0 + _ ≤ _; exact Nat.le_of_eq rfl) (hb hby at_169) (fun _ _ => ⟨rfl, et24, (by decide : 2 + 0 ≤ _), (by decide : 6 + 0 ≤ _)⟩)
            dsimp only [Pt.U, Pt.locs, Pt.cells, Pt.slots] at X25 l25 y25 z25 st25 hQ25
            subst l25 y25 z25
            obtain ⟨rfl, N25q, eq25⟩ := hQ25
            have N25 := Fr.app Nt24 N25q
            refine own_up (fun _ k => st25.trans k) ?_
            show own_Go p.tables e below _ (T25.setTop (mkF m 172 #[.val (.long p0), .second, .val (.int p1), .val (.int p2), .val (.long p3), .second, .val (.int p4), .val (.int p5), .val (.long yA), .second, .val (.int yL), .val (.int yC), .val (.ref b2), .val (.ref b5), .val (.int (((p5.toUInt32 >>> ((3 : Int32) &&& 31).toUInt32).toInt32) &&& (3 : Int32))), .val (.int ex)] [(.int (if yA = p0 ∧ yL = p1 ∧ yC = p2 then (1 : Int32) else 0))]))
            refine own_up (fun _ k => XS.iload X25.here hx rfl (hb hby at_172) rfl k) ?_
            show own_Go p.tables e below _ (T25.setTop (mkF m 174 #[.val (.long p0), .second, .val (.int p1), .val (.int p2), .val (.long p3), .second, .val (.int p4), .val (.int p5), .val (.long yA), .second, .val (.int yL), .val (.int yC), .val (.ref b2), .val (.ref b5), .val (.int (((p5.toUInt32 >>> ((3 : Int32) &&& 31).toUInt32).toInt32) &&& (3 : Int32))), .val (.int ex)] [(.int ex), (.int (if yA = p0 ∧ yL = p1 ∧ yC = p2 then (1 : Int32) else 0))]))
            refine own_up (fun _ k => XS.icmpNo X25.here hx rfl (hb hby at_174) rfl (teq hex.symm).2 k) ?_
            show own_Go p.tables e below _ (T25.setTop (mkF m 177 #[.val (.long p0), .second, .val (.int p1), .val (.int p2), .val (.long p3), .second, .val (.int p4), .val (.int p5), .val (.long yA), .second, .val (.int yL), .val (.int yC), .val (.ref b2), .val (.ref b5), .val (.int (((p5.toUInt32 >>> ((3 : Int32) &&& 31).toUInt32).toInt32) &&& (3 : Int32))), .val (.int ex)] []))
            refine own_up (fun _ k => XS.aload X25.here hx rfl (hb hby at_177) rfl rfl k) ?_
            show own_Go p.tables e below _ (T25.setTop (mkF m 179 #[.val (.long p0), .second, .val (.int p1), .val (.int p2), .val (.long p3), .second, .val (.int p4), .val (.int p5), .val (.long yA), .second, .val (.int yL), .val (.int yC), .val (.ref b2), .val (.ref b5), .val (.int (((p5.toUInt32 >>> ((3 : Int32) &&& 31).toUInt32).toInt32) &&& (3 : Int32))), .val (.int ex)] [(.ref b5)]))
            refine own_up (fun _ k => XS.aload X25.here hx rfl (hb hby at_179) rfl rfl k) ?_
            show own_Go p.tables e below _ (T25.setTop (mkF m 181 #[.val (.long p0), .second, .val (.int p1), .val (.int p2), .val (.long p3), .second, .val (.int p4), .val (.int p5), .val (.long yA), .second, .val (.int yL), .val (.int yC), .val (.ref b2), .val (.ref b5), .val (.int (((p5.toUInt32 >>> ((3 : Int32) &&& 31).toUInt32).toInt32) &&& (3 : Int32))), .val (.int ex)] [(.ref b2), (.ref b5)]))
            obtain ⟨cq31, kq31, q31a, q31b, q31c⟩ := isOf hZ eq25 P7_0
            obtain ⟨_, _, ⟨T31, L31, k31, n31⟩, -, X31, ⟨Lc31, hQ31, l31, y31, z31⟩, st31⟩ := X25.virtualBack hx (y := (⟨"com/example/hoptrail/hoptrail/store/Journal$Mark", "equals", "(Ljava/lang/Object;)Z"⟩ : MethodName)) (z := (⟨"com/example/hoptrail/hoptrail/store/Journal$Mark", "equals", "(Ljava/lang/Object;)Z"⟩ : MethodName)) hown (mvT hZ (hw _ (List.mem_of_getElem? (i := 20) rfl))) (mvT hZ (hw _ (List.mem_of_getElem? (i := 21) rfl))) (notFace_of_selects (args := #[]) (mvT hZ (hw _ (List.mem_of_getElem? (i := 23) rfl)))) (mvT hZ (hw _ (List.mem_of_getElem? (i := 23) rfl))) (mvT hZ (hw _ (List.mem_of_getElem? (i := 22) rfl))) (by decide) (backOf (W := 0) (rm6 l Z a0 hw [] b5 b2 yA yL yC p0 p1 p2 T7.heap n0 f29 f30 P7_1 P7_2 P7_3 f26 f27 f28) hZ (hw _ (List.mem_of_getElem? (i := 24) rfl)) (hw _ (List.mem_of_getElem? (i := 2) rfl)) (by decide) (by decide)) q31a q31c (g := (mkF m 181 #[.val (.long p0), .second, .val (.int p1), .val (.int p2), .val (.long p3), .second, .val (.int p4), .val (.int p5), .val (.long yA), .second, .val (.int yL), .val (.int yC), .val (.ref b2), .val (.ref b5), .val (.int (((p5.toUInt32 >>> ((3 : Int32) &&& 31).toUInt32).toInt32) &&& (3 : Int32))), .val (.int ex)] [(.ref b2), (.ref b5)])) rfl (by rw [hml]; rfl) (Steps.refl _) (argsL := [(.ref b2)]) (rest := []) (lenOf own_pd3 rfl) rfl (by show 2 * 0 + _ ≤ _; exact Nat.le_of_eq rfl) (hb hby at_181) (fun _ _ => ⟨rfl, eq25, (by decide : 2 + 0 ≤ _), (by decide : 6 + 0 ≤ _)⟩)
            dsimp only [Pt.U, Pt.locs, Pt.cells, Pt.slots] at X31 l31 y31 z31 st31 hQ31
            subst l31 y31 z31
            obtain ⟨rfl, N31q, eq31⟩ := hQ31
            have N31 := Fr.app N25 N31q
            refine own_up (fun _ k => st31.trans k) ?_
            show own_Go p.tables e below _ (T31.setTop (mkF m 184 #[.val (.long p0), .second, .val (.int p1), .val (.int p2), .val (.long p3), .second, .val (.int p4), .val (.int p5), .val (.long yA), .second, .val (.int yL), .val (.int yC), .val (.ref b2), .val (.ref b5), .val (.int (((p5.toUInt32 >>> ((3 : Int32) &&& 31).toUInt32).toInt32) &&& (3 : Int32))), .val (.int ex)] [(.int (if p0 = yA ∧ p1 = yL ∧ p2 = yC then (1 : Int32) else 0))]))
            refine own_up (fun _ k => XS.iload X31.here hx rfl (hb hby at_184) rfl k) ?_
            show own_Go p.tables e below _ (T31.setTop (mkF m 186 #[.val (.long p0), .second, .val (.int p1), .val (.int p2), .val (.long p3), .second, .val (.int p4), .val (.int p5), .val (.long yA), .second, .val (.int yL), .val (.int yC), .val (.ref b2), .val (.ref b5), .val (.int (((p5.toUInt32 >>> ((3 : Int32) &&& 31).toUInt32).toInt32) &&& (3 : Int32))), .val (.int ex)] [(.int ex), (.int (if p0 = yA ∧ p1 = yL ∧ p2 = yC then (1 : Int32) else 0))]))
            refine own_up (fun _ k => XS.icmpNo X31.here hx rfl (hb hby at_186) rfl (teq (own_flip.trans hex.symm)).2 k) ?_
            show own_Go p.tables e below _ (T31.setTop (mkF m 189 #[.val (.long p0), .second, .val (.int p1), .val (.int p2), .val (.long p3), .second, .val (.int p4), .val (.int p5), .val (.long yA), .second, .val (.int yL), .val (.int yC), .val (.ref b2), .val (.ref b5), .val (.int (((p5.toUInt32 >>> ((3 : Int32) &&& 31).toUInt32).toInt32) &&& (3 : Int32))), .val (.int ex)] []))
            refine own_up (fun _ k => XS.iconst X31.here hx rfl (hb hby at_189) k) ?_
            show own_Go p.tables e below _ (T31.setTop (mkF m 190 #[.val (.long p0), .second, .val (.int p1), .val (.int p2), .val (.long p3), .second, .val (.int p4), .val (.int p5), .val (.long yA), .second, .val (.int yL), .val (.int yC), .val (.ref b2), .val (.ref b5), .val (.int (((p5.toUInt32 >>> ((3 : Int32) &&& 31).toUInt32).toInt32) &&& (3 : Int32))), .val (.int ex)] [(.int (1 : Int32))]))
            refine own_up (fun _ k => XS.goto X31.here hx rfl (pc0 := 190) (pc' := 194) rfl (hb hby at_190) (by decide) (by decide) k) ?_
            show own_Go p.tables e below _ (T31.setTop (mkF m 194 #[.val (.long p0), .second, .val (.int p1), .val (.int p2), .val (.long p3), .second, .val (.int p4), .val (.int p5), .val (.long yA), .second, .val (.int yL), .val (.int yC), .val (.ref b2), .val (.ref b5), .val (.int (((p5.toUInt32 >>> ((3 : Int32) &&& 31).toUInt32).toInt32) &&& (3 : Int32))), .val (.int ex)] [(.int (1 : Int32))]))
            exact own_end X31 hlk (v := some (.int (1 : Int32))) (fun h => by rw [Bd.returns] at h; cases h) (fun fs hr => retN X31 hx (z := (1 : Int32)) (t := .boolean) Bd.returns (by simp) (hb hby at_194) hr) eq31 ⟨rfl, N31⟩ (by decide) (by decide)
          refine own_up (fun _ k => XS.lload X7.here hx rfl (hb hby at_139) rfl k) ?_
          show own_Go p.tables e below _ (T7.setTop (mkF m 141 #[.val (.long p0), .second, .val (.int p1), .val (.int p2), .val (.long p3), .second, .val (.int p4), .val (.int p5), .val (.long yA), .second, .val (.int yL), .val (.int yC), .val (.ref b2), .val (.ref b5), .val (.int (((p5.toUInt32 >>> ((3 : Int32) &&& 31).toUInt32).toInt32) &&& (3 : Int32))), .unset] [(.long yA)]))
          refine own_up (fun _ k => XS.lloadN X7.here hx rfl (hb hby at_141) rfl k) ?_
          show own_Go p.tables e below _ (T7.setTop (mkF m 142 #[.val (.long p0), .second, .val (.int p1), .val (.int p2), .val (.long p3), .second, .val (.int p4), .val (.int p5), .val (.long yA), .second, .val (.int yL), .val (.int yC), .val (.ref b2), .val (.ref b5), .val (.int (((p5.toUInt32 >>> ((3 : Int32) &&& 31).toUInt32).toInt32) &&& (3 : Int32))), .unset] [(.long p0), (.long yA)]))
          refine own_up (fun _ k => XS.lcmp X7.here hx rfl (hb hby at_142) rfl k) ?_
          show own_Go p.tables e below _ (T7.setTop (mkF m 143 #[.val (.long p0), .second, .val (.int p1), .val (.int p2), .val (.long p3), .second, .val (.int p4), .val (.int p5), .val (.long yA), .second, .val (.int yL), .val (.int yC), .val (.ref b2), .val (.ref b5), .val (.int (((p5.toUInt32 >>> ((3 : Int32) &&& 31).toUInt32).toInt32) &&& (3 : Int32))), .unset] [(.int (lcmpW yA p0))]))
          by_cases d1 : yA = p0
          ·
            refine own_up (fun _ k => XS.ifNo X7.here hx rfl (hb hby at_143) rfl ((if0 _ _).trans (teq ((lw_eq _ _).mpr d1)).2) k) ?_
            show own_Go p.tables e below _ (T7.setTop (mkF m 146 #[.val (.long p0), .second, .val (.int p1), .val (.int p2), .val (.long p3), .second, .val (.int p4), .val (.int p5), .val (.long yA), .second, .val (.int yL), .val (.int yC), .val (.ref b2), .val (.ref b5), .val (.int (((p5.toUInt32 >>> ((3 : Int32) &&& 31).toUInt32).toInt32) &&& (3 : Int32))), .unset] []))
            refine own_up (fun _ k => XS.iload X7.here hx rfl (hb hby at_146) rfl k) ?_
            show own_Go p.tables e below _ (T7.setTop (mkF m 148 #[.val (.long p0), .second, .val (.int p1), .val (.int p2), .val (.long p3), .second, .val (.int p4), .val (.int p5), .val (.long yA), .second, .val (.int yL), .val (.int yC), .val (.ref b2), .val (.ref b5), .val (.int (((p5.toUInt32 >>> ((3 : Int32) &&& 31).toUInt32).toInt32) &&& (3 : Int32))), .unset] [(.int yL)]))
            refine own_up (fun _ k => XS.iloadN X7.here hx rfl (hb hby at_148) rfl k) ?_
            show own_Go p.tables e below _ (T7.setTop (mkF m 149 #[.val (.long p0), .second, .val (.int p1), .val (.int p2), .val (.long p3), .second, .val (.int p4), .val (.int p5), .val (.long yA), .second, .val (.int yL), .val (.int yC), .val (.ref b2), .val (.ref b5), .val (.int (((p5.toUInt32 >>> ((3 : Int32) &&& 31).toUInt32).toInt32) &&& (3 : Int32))), .unset] [(.int p1), (.int yL)]))
            by_cases d2 : yL = p1
            ·
              refine own_up (fun _ k => XS.icmpNo X7.here hx rfl (hb hby at_149) rfl (teq d2).2 k) ?_
              show own_Go p.tables e below _ (T7.setTop (mkF m 152 #[.val (.long p0), .second, .val (.int p1), .val (.int p2), .val (.long p3), .second, .val (.int p4), .val (.int p5), .val (.long yA), .second, .val (.int yL), .val (.int yC), .val (.ref b2), .val (.ref b5), .val (.int (((p5.toUInt32 >>> ((3 : Int32) &&& 31).toUInt32).toInt32) &&& (3 : Int32))), .unset] []))
              refine own_up (fun _ k => XS.iload X7.here hx rfl (hb hby at_152) rfl k) ?_
              show own_Go p.tables e below _ (T7.setTop (mkF m 154 #[.val (.long p0), .second, .val (.int p1), .val (.int p2), .val (.long p3), .second, .val (.int p4), .val (.int p5), .val (.long yA), .second, .val (.int yL), .val (.int yC), .val (.ref b2), .val (.ref b5), .val (.int (((p5.toUInt32 >>> ((3 : Int32) &&& 31).toUInt32).toInt32) &&& (3 : Int32))), .unset] [(.int yC)]))
              refine own_up (fun _ k => XS.iloadN X7.here hx rfl (hb hby at_154) rfl k) ?_
              show own_Go p.tables e below _ (T7.setTop (mkF m 155 #[.val (.long p0), .second, .val (.int p1), .val (.int p2), .val (.long p3), .second, .val (.int p4), .val (.int p5), .val (.long yA), .second, .val (.int yL), .val (.int yC), .val (.ref b2), .val (.ref b5), .val (.int (((p5.toUInt32 >>> ((3 : Int32) &&& 31).toUInt32).toInt32) &&& (3 : Int32))), .unset] [(.int p2), (.int yC)]))
              by_cases d3 : yC = p2
              ·
                refine own_up (fun _ k => XS.icmpNo X7.here hx rfl (hb hby at_155) rfl (teq d3).2 k) ?_
                show own_Go p.tables e below _ (T7.setTop (mkF m 158 #[.val (.long p0), .second, .val (.int p1), .val (.int p2), .val (.long p3), .second, .val (.int p4), .val (.int p5), .val (.long yA), .second, .val (.int yL), .val (.int yC), .val (.ref b2), .val (.ref b5), .val (.int (((p5.toUInt32 >>> ((3 : Int32) &&& 31).toUInt32).toInt32) &&& (3 : Int32))), .unset] []))
                refine own_up (fun _ k => XS.iconst X7.here hx rfl (hb hby at_158) k) ?_
                show own_Go p.tables e below _ (T7.setTop (mkF m 159 #[.val (.long p0), .second, .val (.int p1), .val (.int p2), .val (.long p3), .second, .val (.int p4), .val (.int p5), .val (.long yA), .second, .val (.int yL), .val (.int yC), .val (.ref b2), .val (.ref b5), .val (.int (((p5.toUInt32 >>> ((3 : Int32) &&& 31).toUInt32).toInt32) &&& (3 : Int32))), .unset] [(.int (1 : Int32))]))
                refine own_up (fun _ k => XS.goto X7.here hx rfl (pc0 := 159) (pc' := 163) rfl (hb hby at_159) (by decide) (by decide) k) ?_
                show own_Go p.tables e below _ (T7.setTop (mkF m 163 #[.val (.long p0), .second, .val (.int p1), .val (.int p2), .val (.long p3), .second, .val (.int p4), .val (.int p5), .val (.long yA), .second, .val (.int yL), .val (.int yC), .val (.ref b2), .val (.ref b5), .val (.int (((p5.toUInt32 >>> ((3 : Int32) &&& 31).toUInt32).toInt32) &&& (3 : Int32))), .unset] [(.int (1 : Int32))]))
                refine own_up (fun _ k => XS.istore X7.here hx rfl (hb hby at_163) rfl (l' := #[.val (.long p0), .second, .val (.int p1), .val (.int p2), .val (.long p3), .second, .val (.int p4), .val (.int p5), .val (.long yA), .second, .val (.int yL), .val (.int yC), .val (.ref b2), .val (.ref b5), .val (.int (((p5.toUInt32 >>> ((3 : Int32) &&& 31).toUInt32).toInt32) &&& (3 : Int32))), .val (.int (1 : Int32))]) rfl k) ?_
                show own_Go p.tables e below _ (T7.setTop (mkF m 165 #[.val (.long p0), .second, .val (.int p1), .val (.int p2), .val (.long p3), .second, .val (.int p4), .val (.int p5), .val (.long yA), .second, .val (.int yL), .val (.int yC), .val (.ref b2), .val (.ref b5), .val (.int (((p5.toUInt32 >>> ((3 : Int32) &&& 31).toUInt32).toInt32) &&& (3 : Int32))), .val (.int (1 : Int32))] []))
                exact t165 T7 _ X7 rfl N7 (1 : Int32) ((if_pos ⟨d1, d2, d3⟩).symm)
              ·
                refine own_up (fun _ k => XS.icmpYes X7.here hx rfl (pc0 := 155) (pc' := 162) rfl (hb hby at_155) rfl (feq d3).2 (by decide) (by decide) k) ?_
                show own_Go p.tables e below _ (T7.setTop (mkF m 162 #[.val (.long p0), .second, .val (.int p1), .val (.int p2), .val (.long p3), .second, .val (.int p4), .val (.int p5), .val (.long yA), .second, .val (.int yL), .val (.int yC), .val (.ref b2), .val (.ref b5), .val (.int (((p5.toUInt32 >>> ((3 : Int32) &&& 31).toUInt32).toInt32) &&& (3 : Int32))), .unset] []))
                refine own_up (fun _ k => XS.iconst X7.here hx rfl (hb hby at_162) k) ?_
                show own_Go p.tables e below _ (T7.setTop (mkF m 163 #[.val (.long p0), .second, .val (.int p1), .val (.int p2), .val (.long p3), .second, .val (.int p4), .val (.int p5), .val (.long yA), .second, .val (.int yL), .val (.int yC), .val (.ref b2), .val (.ref b5), .val (.int (((p5.toUInt32 >>> ((3 : Int32) &&& 31).toUInt32).toInt32) &&& (3 : Int32))), .unset] [(.int (0 : Int32))]))
                refine own_up (fun _ k => XS.istore X7.here hx rfl (hb hby at_163) rfl (l' := #[.val (.long p0), .second, .val (.int p1), .val (.int p2), .val (.long p3), .second, .val (.int p4), .val (.int p5), .val (.long yA), .second, .val (.int yL), .val (.int yC), .val (.ref b2), .val (.ref b5), .val (.int (((p5.toUInt32 >>> ((3 : Int32) &&& 31).toUInt32).toInt32) &&& (3 : Int32))), .val (.int (0 : Int32))]) rfl k) ?_
                show own_Go p.tables e below _ (T7.setTop (mkF m 165 #[.val (.long p0), .second, .val (.int p1), .val (.int p2), .val (.long p3), .second, .val (.int p4), .val (.int p5), .val (.long yA), .second, .val (.int yL), .val (.int yC), .val (.ref b2), .val (.ref b5), .val (.int (((p5.toUInt32 >>> ((3 : Int32) &&& 31).toUInt32).toInt32) &&& (3 : Int32))), .val (.int (0 : Int32))] []))
                exact t165 T7 _ X7 rfl N7 (0 : Int32) ((if_neg (fun q => d3 q.2.2)).symm)
            ·
              refine own_up (fun _ k => XS.icmpYes X7.here hx rfl (pc0 := 149) (pc' := 162) rfl (hb hby at_149) rfl (feq d2).2 (by decide) (by decide) k) ?_
              show own_Go p.tables e below _ (T7.setTop (mkF m 162 #[.val (.long p0), .second, .val (.int p1), .val (.int p2), .val (.long p3), .second, .val (.int p4), .val (.int p5), .val (.long yA), .second, .val (.int yL), .val (.int yC), .val (.ref b2), .val (.ref b5), .val (.int (((p5.toUInt32 >>> ((3 : Int32) &&& 31).toUInt32).toInt32) &&& (3 : Int32))), .unset] []))
              refine own_up (fun _ k => XS.iconst X7.here hx rfl (hb hby at_162) k) ?_
              show own_Go p.tables e below _ (T7.setTop (mkF m 163 #[.val (.long p0), .second, .val (.int p1), .val (.int p2), .val (.long p3), .second, .val (.int p4), .val (.int p5), .val (.long yA), .second, .val (.int yL), .val (.int yC), .val (.ref b2), .val (.ref b5), .val (.int (((p5.toUInt32 >>> ((3 : Int32) &&& 31).toUInt32).toInt32) &&& (3 : Int32))), .unset] [(.int (0 : Int32))]))
              refine own_up (fun _ k => XS.istore X7.here hx rfl (hb hby at_163) rfl (l' := #[.val (.long p0), .second, .val (.int p1), .val (.int p2), .val (.long p3), .second, .val (.int p4), .val (.int p5), .val (.long yA), .second, .val (.int yL), .val (.int yC), .val (.ref b2), .val (.ref b5), .val (.int (((p5.toUInt32 >>> ((3 : Int32) &&& 31).toUInt32).toInt32) &&& (3 : Int32))), .val (.int (0 : Int32))]) rfl k) ?_
              show own_Go p.tables e below _ (T7.setTop (mkF m 165 #[.val (.long p0), .second, .val (.int p1), .val (.int p2), .val (.long p3), .second, .val (.int p4), .val (.int p5), .val (.long yA), .second, .val (.int yL), .val (.int yC), .val (.ref b2), .val (.ref b5), .val (.int (((p5.toUInt32 >>> ((3 : Int32) &&& 31).toUInt32).toInt32) &&& (3 : Int32))), .val (.int (0 : Int32))] []))
              exact t165 T7 _ X7 rfl N7 (0 : Int32) ((if_neg (fun q => d2 q.2.1)).symm)
          ·
            refine own_up (fun _ k => XS.ifYes X7.here hx rfl (pc0 := 143) (pc' := 162) rfl (hb hby at_143) rfl ((if0 _ _).trans (feq (fun q => d1 ((lw_eq _ _).mp q))).2) (by decide) (by decide) k) ?_
            show own_Go p.tables e below _ (T7.setTop (mkF m 162 #[.val (.long p0), .second, .val (.int p1), .val (.int p2), .val (.long p3), .second, .val (.int p4), .val (.int p5), .val (.long yA), .second, .val (.int yL), .val (.int yC), .val (.ref b2), .val (.ref b5), .val (.int (((p5.toUInt32 >>> ((3 : Int32) &&& 31).toUInt32).toInt32) &&& (3 : Int32))), .unset] []))
            refine own_up (fun _ k => XS.iconst X7.here hx rfl (hb hby at_162) k) ?_
            show own_Go p.tables e below _ (T7.setTop (mkF m 163 #[.val (.long p0), .second, .val (.int p1), .val (.int p2), .val (.long p3), .second, .val (.int p4), .val (.int p5), .val (.long yA), .second, .val (.int yL), .val (.int yC), .val (.ref b2), .val (.ref b5), .val (.int (((p5.toUInt32 >>> ((3 : Int32) &&& 31).toUInt32).toInt32) &&& (3 : Int32))), .unset] [(.int (0 : Int32))]))
            refine own_up (fun _ k => XS.istore X7.here hx rfl (hb hby at_163) rfl (l' := #[.val (.long p0), .second, .val (.int p1), .val (.int p2), .val (.long p3), .second, .val (.int p4), .val (.int p5), .val (.long yA), .second, .val (.int yL), .val (.int yC), .val (.ref b2), .val (.ref b5), .val (.int (((p5.toUInt32 >>> ((3 : Int32) &&& 31).toUInt32).toInt32) &&& (3 : Int32))), .val (.int (0 : Int32))]) rfl k) ?_
            show own_Go p.tables e below _ (T7.setTop (mkF m 165 #[.val (.long p0), .second, .val (.int p1), .val (.int p2), .val (.long p3), .second, .val (.int p4), .val (.int p5), .val (.long yA), .second, .val (.int yL), .val (.int yC), .val (.ref b2), .val (.ref b5), .val (.int (((p5.toUInt32 >>> ((3 : Int32) &&& 31).toUInt32).toInt32) &&& (3 : Int32))), .val (.int (0 : Int32))] []))
            exact t165 T7 _ X7 rfl N7 (0 : Int32) ((if_neg (fun q => d1 q.1)).symm)
  have t30 : ∀ (Tt32 : State) (Lt32 : List Loc) (Xt32 : Stand p l e room_1 s m #[(.long p0), (.int p1), (.int p2), (.long p3), (.int p4), (.int p5)] below meth c Tt32 Lt32 0 0) (et32 : Tt32.heap = h0) (Nt32 : Fr n0 Lt32) (yA : Int64) (yL : Int32), own_Go p.tables e below (fun u o => ∃ v L, o = .returned v ∧ Q_rm0 Z p0 p1 p2 p3 p4 p5 ca cl h0 n0 v u.heap L ∧ FrameEnd s o u L room_1.cells room_1.slots) (Tt32.setTop (mkF m 30 #[.val (.long p0), .second, .val (.int p1), .val (.int p2), .val (.long p3), .second, .val (.int p4), .val (.int p5), .val (.long yA), .second, .val (.int yL), .unset, .unset, .unset, .unset, .unset] [])) := by
    intro Tt32 Lt32 Xt32 et32 Nt32 yA yL
    refine own_up (fun _ k => XS.iload Xt32.here hx rfl (hb hby at_30) rfl k) ?_
    show own_Go p.tables e below _ (Tt32.setTop (mkF m 32 #[.val (.long p0), .second, .val (.int p1), .val (.int p2), .val (.long p3), .second, .val (.int p4), .val (.int p5), .val (.long yA), .second, .val (.int yL), .unset, .unset, .unset, .unset, .unset] [(.int p5)]))
    refine own_up (fun _ k => XS.iconst Xt32.here hx rfl (hb hby at_32) k) ?_
    show own_Go p.tables e below _ (Tt32.setTop (mkF m 33 #[.val (.long p0), .second, .val (.int p1), .val (.int p2), .val (.long p3), .second, .val (.int p4), .val (.int p5), .val (.long yA), .second, .val (.int yL), .unset, .unset, .unset, .unset, .unset] [(.int (4 : Int32)), (.int p5)]))
    refine own_up (fun _ k => XS.iand Xt32.here hx rfl (hb hby at_33) rfl k) ?_
    show own_Go p.tables e below _ (Tt32.setTop (mkF m 34 #[.val (.long p0), .second, .val (.int p1), .val (.int p2), .val (.long p3), .second, .val (.int p4), .val (.int p5), .val (.long yA), .second, .val (.int yL), .unset, .unset, .unset, .unset, .unset] [(.int (p5 &&& (4 : Int32)))]))
    by_cases b3 : (p5 &&& (4 : Int32)) = (0 : Int32)
    ·
      refine own_up (fun _ k => XS.ifYes Xt32.here hx rfl (pc0 := 34) (pc' := 41) rfl (hb hby at_34) rfl ((if0 _ _).trans (teq b3).1) (by decide) (by decide) k) ?_
      show own_Go p.tables e below _ (Tt32.setTop (mkF m 41 #[.val (.long p0), .second, .val (.int p1), .val (.int p2), .val (.long p3), .second, .val (.int p4), .val (.int p5), .val (.long yA), .second, .val (.int yL), .unset, .unset, .unset, .unset, .unset] []))
      refine own_up (fun _ k => XS.iload Xt32.here hx rfl (hb hby at_41) rfl k) ?_
      show own_Go p.tables e below _ (Tt32.setTop (mkF m 43 #[.val (.long p0), .second, .val (.int p1), .val (.int p2), .val (.long p3), .second, .val (.int p4), .val (.int p5), .val (.long yA), .second, .val (.int yL), .unset, .unset, .unset, .unset, .unset] [(.int p4)]))
      refine own_up (fun _ k => XS.istore Xt32.here hx rfl (hb hby at_43) rfl (l' := #[.val (.long p0), .second, .val (.int p1), .val (.int p2), .val (.long p3), .second, .val (.int p4), .val (.int p5), .val (.long yA), .second, .val (.int yL), .val (.int p4), .unset, .unset, .unset, .unset]) rfl k) ?_
      show own_Go p.tables e below _ (Tt32.setTop (mkF m 45 #[.val (.long p0), .second, .val (.int p1), .val (.int p2), .val (.long p3), .second, .val (.int p4), .val (.int p5), .val (.long yA), .second, .val (.int yL), .val (.int p4), .unset, .unset, .unset, .unset] []))
      exact t45 Tt32 _ Xt32 et32 Nt32 yA yL p4
    ·
      refine own_up (fun _ k => XS.ifNo Xt32.here hx rfl (hb hby at_34) rfl ((if0 _ _).trans (feq b3).1) k) ?_
      show own_Go p.tables e below _ (Tt32.setTop (mkF m 37 #[.val (.long p0), .second, .val (.int p1), .val (.int p2), .val (.long p3), .second, .val (.int p4), .val (.int p5), .val (.long yA), .second, .val (.int yL), .unset, .unset, .unset, .unset, .unset] []))
      refine own_up (fun _ k => XS.iloadN Xt32.here hx rfl (hb hby at_37) rfl k) ?_
      show own_Go p.tables e below _ (Tt32.setTop (mkF m 38 #[.val (.long p0), .second, .val (.int p1), .val (.int p2), .val (.long p3), .second, .val (.int p4), .val (.int p5), .val (.long yA), .second, .val (.int yL), .unset, .unset, .unset, .unset, .unset] [(.int p2)]))
      refine own_up (fun _ k => XS.goto Xt32.here hx rfl (pc0 := 38) (pc' := 43) rfl (hb hby at_38) (by decide) (by decide) k) ?_
      show own_Go p.tables e below _ (Tt32.setTop (mkF m 43 #[.val (.long p0), .second, .val (.int p1), .val (.int p2), .val (.long p3), .second, .val (.int p4), .val (.int p5), .val (.long yA), .second, .val (.int yL), .unset, .unset, .unset, .unset, .unset] [(.int p2)]))
      refine own_up (fun _ k => XS.istore Xt32.here hx rfl (hb hby at_43) rfl (l' := #[.val (.long p0), .second, .val (.int p1), .val (.int p2), .val (.long p3), .second, .val (.int p4), .val (.int p5), .val (.long yA), .second, .val (.int yL), .val (.int p2), .unset, .unset, .unset, .unset]) rfl k) ?_
      show own_Go p.tables e below _ (Tt32.setTop (mkF m 45 #[.val (.long p0), .second, .val (.int p1), .val (.int p2), .val (.long p3), .second, .val (.int p4), .val (.int p5), .val (.long yA), .second, .val (.int yL), .val (.int p2), .unset, .unset, .unset, .unset] []))
      exact t45 Tt32 _ Xt32 et32 Nt32 yA yL p2
  have t15 : ∀ (Tt33 : State) (Lt33 : List Loc) (Xt33 : Stand p l e room_1 s m #[(.long p0), (.int p1), (.int p2), (.long p3), (.int p4), (.int p5)] below meth c Tt33 Lt33 0 0) (et33 : Tt33.heap = h0) (Nt33 : Fr n0 Lt33) (yA : Int64), own_Go p.tables e below (fun u o => ∃ v L, o = .returned v ∧ Q_rm0 Z p0 p1 p2 p3 p4 p5 ca cl h0 n0 v u.heap L ∧ FrameEnd s o u L room_1.cells room_1.slots) (Tt33.setTop (mkF m 15 #[.val (.long p0), .second, .val (.int p1), .val (.int p2), .val (.long p3), .second, .val (.int p4), .val (.int p5), .val (.long yA), .second, .unset, .unset, .unset, .unset, .unset, .unset] [])) := by
    intro Tt33 Lt33 Xt33 et33 Nt33 yA
    refine own_up (fun _ k => XS.iload Xt33.here hx rfl (hb hby at_15) rfl k) ?_
    show own_Go p.tables e below _ (Tt33.setTop (mkF m 17 #[.val (.long p0), .second, .val (.int p1), .val (.int p2), .val (.long p3), .second, .val (.int p4), .val (.int p5), .val (.long yA), .second, .unset, .unset, .unset, .unset, .unset, .unset] [(.int p5)]))
    refine own_up (fun _ k => XS.iconst Xt33.here hx rfl (hb hby at_17) k) ?_
    show own_Go p.tables e below _ (Tt33.setTop (mkF m 18 #[.val (.long p0), .second, .val (.int p1), .val (.int p2), .val (.long p3), .second, .val (.int p4), .val (.int p5), .val (.long yA), .second, .unset, .unset, .unset, .unset, .unset, .unset] [(.int (2 : Int32)), (.int p5)]))
    refine own_up (fun _ k => XS.iand Xt33.here hx rfl (hb hby at_18) rfl k) ?_
    show own_Go p.tables e below _ (Tt33.setTop (mkF m 19 #[.val (.long p0), .second, .val (.int p1), .val (.int p2), .val (.long p3), .second, .val (.int p4), .val (.int p5), .val (.long yA), .second, .unset, .unset, .unset, .unset, .unset, .unset] [(.int (p5 &&& (2 : Int32)))]))
    by_cases b2 : (p5 &&& (2 : Int32)) = (0 : Int32)
    ·
      refine own_up (fun _ k => XS.ifYes Xt33.here hx rfl (pc0 := 19) (pc' := 26) rfl (hb hby at_19) rfl ((if0 _ _).trans (teq b2).1) (by decide) (by decide) k) ?_
      show own_Go p.tables e below _ (Tt33.setTop (mkF m 26 #[.val (.long p0), .second, .val (.int p1), .val (.int p2), .val (.long p3), .second, .val (.int p4), .val (.int p5), .val (.long yA), .second, .unset, .unset, .unset, .unset, .unset, .unset] []))
      refine own_up (fun _ k => XS.iload Xt33.here hx rfl (hb hby at_26) rfl k) ?_
      show own_Go p.tables e below _ (Tt33.setTop (mkF m 28 #[.val (.long p0), .second, .val (.int p1), .val (.int p2), .val (.long p3), .second, .val (.int p4), .val (.int p5), .val (.long yA), .second, .unset, .unset, .unset, .unset, .unset, .unset] [(.int p4)]))
      refine own_up (fun _ k => XS.istore Xt33.here hx rfl (hb hby at_28) rfl (l' := #[.val (.long p0), .second, .val (.int p1), .val (.int p2), .val (.long p3), .second, .val (.int p4), .val (.int p5), .val (.long yA), .second, .val (.int p4), .unset, .unset, .unset, .unset, .unset]) rfl k) ?_
      show own_Go p.tables e below _ (Tt33.setTop (mkF m 30 #[.val (.long p0), .second, .val (.int p1), .val (.int p2), .val (.long p3), .second, .val (.int p4), .val (.int p5), .val (.long yA), .second, .val (.int p4), .unset, .unset, .unset, .unset, .unset] []))
      exact t30 Tt33 _ Xt33 et33 Nt33 yA p4
    ·
      refine own_up (fun _ k => XS.ifNo Xt33.here hx rfl (hb hby at_19) rfl ((if0 _ _).trans (feq b2).1) k) ?_
      show own_Go p.tables e below _ (Tt33.setTop (mkF m 22 #[.val (.long p0), .second, .val (.int p1), .val (.int p2), .val (.long p3), .second, .val (.int p4), .val (.int p5), .val (.long yA), .second, .unset, .unset, .unset, .unset, .unset, .unset] []))
      refine own_up (fun _ k => XS.iloadN Xt33.here hx rfl (hb hby at_22) rfl k) ?_
      show own_Go p.tables e below _ (Tt33.setTop (mkF m 23 #[.val (.long p0), .second, .val (.int p1), .val (.int p2), .val (.long p3), .second, .val (.int p4), .val (.int p5), .val (.long yA), .second, .unset, .unset, .unset, .unset, .unset, .unset] [(.int p1)]))
      refine own_up (fun _ k => XS.goto Xt33.here hx rfl (pc0 := 23) (pc' := 28) rfl (hb hby at_23) (by decide) (by decide) k) ?_
      show own_Go p.tables e below _ (Tt33.setTop (mkF m 28 #[.val (.long p0), .second, .val (.int p1), .val (.int p2), .val (.long p3), .second, .val (.int p4), .val (.int p5), .val (.long yA), .second, .unset, .unset, .unset, .unset, .unset, .unset] [(.int p1)]))
      refine own_up (fun _ k => XS.istore Xt33.here hx rfl (hb hby at_28) rfl (l' := #[.val (.long p0), .second, .val (.int p1), .val (.int p2), .val (.long p3), .second, .val (.int p4), .val (.int p5), .val (.long yA), .second, .val (.int p1), .unset, .unset, .unset, .unset, .unset]) rfl k) ?_
      show own_Go p.tables e below _ (Tt33.setTop (mkF m 30 #[.val (.long p0), .second, .val (.int p1), .val (.int p2), .val (.long p3), .second, .val (.int p4), .val (.int p5), .val (.long yA), .second, .val (.int p1), .unset, .unset, .unset, .unset, .unset] []))
      exact t30 Tt33 _ Xt33 et33 Nt33 yA p1
  by_cases b1 : (p5 &&& (1 : Int32)) = (0 : Int32)
  ·
    refine own_up (fun _ k => XS.ifYes X0.here hx rfl (pc0 := 4) (pc' := 11) rfl (hb hby at_4) rfl ((if0 _ _).trans (teq b1).1) (by decide) (by decide) k) ?_
    show own_Go p.tables e below _ (s₁.setTop (mkF m 11 #[.val (.long p0), .second, .val (.int p1), .val (.int p2), .val (.long p3), .second, .val (.int p4), .val (.int p5), .unset, .unset, .unset, .unset, .unset, .unset, .unset, .unset] []))
    refine own_up (fun _ k => XS.lload X0.here hx rfl (hb hby at_11) rfl k) ?_
    show own_Go p.tables e below _ (s₁.setTop (mkF m 13 #[.val (.long p0), .second, .val (.int p1), .val (.int p2), .val (.long p3), .second, .val (.int p4), .val (.int p5), .unset, .unset, .unset, .unset, .unset, .unset, .unset, .unset] [(.long p3)]))
    refine own_up (fun _ k => XS.lstore X0.here hx rfl (hb hby at_13) rfl (l' := #[.val (.long p0), .second, .val (.int p1), .val (.int p2), .val (.long p3), .second, .val (.int p4), .val (.int p5), .val (.long p3), .second, .unset, .unset, .unset, .unset, .unset, .unset]) rfl k) ?_
    show own_Go p.tables e below _ (s₁.setTop (mkF m 15 #[.val (.long p0), .second, .val (.int p1), .val (.int p2), .val (.long p3), .second, .val (.int p4), .val (.int p5), .val (.long p3), .second, .unset, .unset, .unset, .unset, .unset, .unset] []))
    exact t15 s₁ _ X0 e0 N0 p3
  ·
    refine own_up (fun _ k => XS.ifNo X0.here hx rfl (hb hby at_4) rfl ((if0 _ _).trans (feq b1).1) k) ?_
    show own_Go p.tables e below _ (s₁.setTop (mkF m 7 #[.val (.long p0), .second, .val (.int p1), .val (.int p2), .val (.long p3), .second, .val (.int p4), .val (.int p5), .unset, .unset, .unset, .unset, .unset, .unset, .unset, .unset] []))
    refine own_up (fun _ k => XS.lloadN X0.here hx rfl (hb hby at_7) rfl k) ?_
    show own_Go p.tables e below _ (s₁.setTop (mkF m 8 #[.val (.long p0), .second, .val (.int p1), .val (.int p2), .val (.long p3), .second, .val (.int p4), .val (.int p5), .unset, .unset, .unset, .unset, .unset, .unset, .unset, .unset] [(.long p0)]))
    refine own_up (fun _ k => XS.goto X0.here hx rfl (pc0 := 8) (pc' := 13) rfl (hb hby at_8) (by decide) (by decide) k) ?_
    show own_Go p.tables e below _ (s₁.setTop (mkF m 13 #[.val (.long p0), .second, .val (.int p1), .val (.int p2), .val (.long p3), .second, .val (.int p4), .val (.int p5), .unset, .unset, .unset, .unset, .unset, .unset, .unset, .unset] [(.long p0)]))
    refine own_up (fun _ k => XS.lstore X0.here hx rfl (hb hby at_13) rfl (l' := #[.val (.long p0), .second, .val (.int p1), .val (.int p2), .val (.long p3), .second, .val (.int p4), .val (.int p5), .val (.long p0), .second, .unset, .unset, .unset, .unset, .unset, .unset]) rfl k) ?_
    show own_Go p.tables e below _ (s₁.setTop (mkF m 15 #[.val (.long p0), .second, .val (.int p1), .val (.int p2), .val (.long p3), .second, .val (.int p4), .val (.int p5), .val (.long p0), .second, .unset, .unset, .unset, .unset, .unset, .unset] []))
    exact t15 s₁ _ X0 e0 N0 p0
set_option maxRecDepth 65536 in
set_option maxHeartbeats 40000000 in
theorem comes_1 {Post : Tables → Env → Array Value → State → Outcome → State → Prop} (hpost : ∀ tb e args s v u, (limb_1_1.after args s (.returned v) u = true ∧ limb_1_2.after args s (.returned v) u = true ∧ True) → FrameEnd s (.returned v) u (Jvm.fieldLocs frame_1_writes args s ++ Jvm.arrayLocs frame_1_arrays args s ++ Jvm.staticLocs frame_1_statics s) 16 128 → Post tb e args s (.returned v) u) :
    ArmFor flags0 classFile x code maxLocals ret World_1 tables_1 room_1 Calls_1 rest_1 Pre_1 Post := by
  intro l hfl _ _ p e ha hc hk s m args below hf hA hF happ hP
  obtain ⟨hcalls, hrest, hpre⟩ := hP
  obtain ⟨-, -, -, hnamed, -, -, -, hat⟩ := (Spec.applies_iff hf).mp happ
  obtain ⟨hg, hn⟩ := and_e (Cond.before_iff.mp (show (Jvm.Cond.and given_1 narrow_1).before args s = true from hpre))
  obtain ⟨hcnt, hgr0⟩ := and_e hg
  obtain ⟨ga0, hgr1⟩ := and_e hgr0
  obtain ⟨ga1, hgr2⟩ := and_e hgr1
  obtain ⟨ga2, hgr3⟩ := and_e hgr2
  obtain ⟨ga3, hgr4⟩ := and_e hgr3
  obtain ⟨ga4, hgr5⟩ := and_e hgr4
  obtain ⟨w0, w1, w2, w3, w4, w5, rfl⟩ : ∃ w0 w1 w2 w3 w4 w5 : Value, args = #[w0, w1, w2, w3, w4, w5] := by
    have hs : args.size = 6 := by simpa [Cond.value, given_1] using hcnt
    obtain ⟨L⟩ := args
    match L, hs with
    | [w0, w1, w2, w3, w4, w5], _ => exact ⟨w0, w1, w2, w3, w4, w5, rfl⟩
  have hw := fun d (hd : d ∈ tables_1) => atoms_spec (ws := Jvm.Cond.code x code maxLocals ret :: tables_1) hat d (List.mem_cons_of_mem _ hd)
  have hfit : Fit s := fun {y c} hc i hi => by
    obtain ⟨ha, rfl⟩ := Array.getElem?_eq_some_iff.mp hc
    have q := List.all_eq_true.mp ((Array.all_eq_true_iff_forall_mem.mp hF) _ (Array.getElem_mem ha)) i (List.mem_range.mpr hi)
    simpa [Array.getElem?_eq_getElem hi] using q
  obtain ⟨hsets, hown0⟩ := atoms_of _ (rest_1_c_eq ▸ (show rest_1_c.before _ s = true from hrest))
  have hr0 := Cond.before_iff.mp hown0
  obtain ⟨i0, ei0⟩ := isL_v ga0
  obtain rfl : w0 = (.long i0) := Option.some.inj ei0
  obtain ⟨i1, ei1⟩ := is_v ga1
  obtain rfl : w1 = (.int i1) := Option.some.inj ei1
  obtain ⟨i2, ei2⟩ := is_v ga2
  obtain rfl : w2 = (.int i2) := Option.some.inj ei2
  obtain ⟨i3, ei3⟩ := isL_v ga3
  obtain rfl : w3 = (.long i3) := Option.some.inj ei3
  obtain ⟨i4, ei4⟩ := is_v ga4
  obtain rfl : w4 = (.int i4) := Option.some.inj ei4
  obtain ⟨i5, ei5⟩ := is_v hgr5
  obtain rfl : w5 = (.int i5) := Option.some.inj ei5
  have k2 := Cond.before_iff.mp (hsets _ (List.mem_of_getElem? (i := 2) rfl))
  have k4 := Cond.before_iff.mp (hsets _ (List.mem_of_getElem? (i := 4) rfl))
  have k5 := Cond.before_iff.mp (hsets _ (List.mem_of_getElem? (i := 5) rfl))
  obtain ⟨ca, evc⟩ := arr_v k2
  have SC := Sta.start evc (Or.inl (hsets _ (List.mem_of_getElem? (i := 1) rfl)))
  obtain ⟨cl, AC⟩ := Arr.start evc k2
  have hsz := own_size evc AC k4
  have hca := own_cache evc AC hsz k5
  obtain ⟨n, o, h1, h2, h3, _, L, rfl, ⟨rfl, N⟩, hq⟩ := rm0 l s _ hw tables_1 i0 i1 i2 i3 i4 i5 ca cl s.heap s.heap.size (Nat.le_refl _) (Old.start s) SC AC hsz hca p e ha hc hk s m _ below hf ((Spec.applies_iff_loose hf).mp happ).1 ⟨rfl, State.Warmed39.refl s, rfl⟩ trivial
  refine ⟨n, _, h1, h2, h3, hpost _ _ _ _ _ _ ⟨Cond.after_iff.mpr rfl, Cond.after_iff.mpr (eq_i res_at (Term.int_eval (1)) rfl), trivial⟩ ⟨hq.1, hq.2.1, (hq.2.2.sift fun y hy => Or.inr (N y hy)).mono (by decide) (by decide)⟩⟩
theorem main_1_1 : Claimed_1_1 := comes_1 fun _ _ _ _ _ _ h hF => ⟨h.1, hF⟩
theorem main_1_2 : Claimed_1_2 := comes_1 fun _ _ _ _ _ _ h hF => ⟨h.2.1, hF⟩
end Jvm.Pilot.@@N@@
namespace Jvm.Pilot.@@N@@
open Jvm Jvm.ClassFile Sem Op Lib Jvm.Free Jvm.Stand Jvm.Pilot.@@N@@.Jvm.D
/-! MADE BY PROGRAM (witnessworld.py) out of the Statement's table words and the real class files: 17 classes; the members and pool entries that the words name. The judged class is class 1, her method 1. -/
namespace start1
open Jvm.ClassFile
def u (s : String) : CpInfo := .utf8 (stringToUtf16 s)
/-- a pool by its gaps: so many unusable entries, then the entry; so many at the end -/
def gap : Nat → List CpInfo → List CpInfo
  | 0, r => r
  | n + 1, r => .unusable :: gap n r
def poolList (es : List (Nat × CpInfo)) (last : Nat) : List CpInfo := es.foldr (fun e r => gap e.1 (e.2 :: r)) (gap last [])
def pool (es : List (Nat × CpInfo)) (last : Nat) : Array CpInfo := ⟨poolList es last⟩
def fileOf (pool : Array CpInfo) (this : Nat) (attrs : Array Attribute := #[]) (ms : Array MethodInfo := #[]) (fl : Nat := 33) (sup : Nat := 0) (ifs : Array Nat := #[]) (fds : Array FieldInfo := #[]) : ClassFile where
  minorVersion := 0
  majorVersion := 65
  constantPool := pool
  accessFlags := fl
  thisClass := this
  superClass := sup
  interfaces := ifs
  fields := fds
  methods := ms
  attributes := attrs
def plain (name : String) (sup : Option ClassId) : Class where
  name := name
  kind := .ordinary
  loader := none
  accessFlags := 33
  super := sup
  interfaces := #[]
  cf := none
  fields := #[]
  methods := #[]
  instanceTypes := #[]
  staticTypes := #[]
  resolved := #[]
  callSites := []
  init := .initialized
  statics := none
  mirror := none

def pool0 : Array CpInfo := pool [(5, u "<init>"), (0, u "()V"), (1, .class_ 10), (1, u "java/lang/Object")] 113

def k0c0 : Code := { maxStack := 0, maxLocals := 1, code := object_method_1_code, exceptionTable := #[], attributes := #[] }
def k0m0 : Method := { name := "<init>", desc := "()V", sig := { parameters := [], returnType := none }, accessFlags := 1, code := some k0c0 }
/-- java/lang/Object -/
def k0 : Class := { plain "java/lang/Object" none with
  accessFlags := 33
  interfaces := #[]
  cf := some (fileOf pool0 8 #[] #[{ accessFlags := 1, nameIndex := 5, descriptorIndex := 6, attributes := #[] }] 33 0 #[] #[])
  fields := #[]
  methods := #[k0m0]
  instanceTypes := #[]
  staticTypes := #[]
  resolved := Array.replicate 124 none
  statics := none }

def pool1 : Array CpInfo := pool [(2, .class_ 4), (1, u "java/lang/Object"), (0, u "<init>"), (0, u "()V"), (0, .class_ 8), (0, u "com/example/hoptrail/hoptrail/store/Journal$Mark"), (0, .methodref 7 10), (0, .nameAndType 5 11), (0, u "(JII)V"), (0, .methodref 7 13), (0, .nameAndType 14 15), (0, u "equals"), (0, u "(Ljava/lang/Object;)Z"), (0, .methodref 17 18), (0, .class_ 19), (0, .nameAndType 20 21), (0, u "java/lang/Long"), (0, u "valueOf"), (0, u "(J)Ljava/lang/Long;"), (0, .class_ 23), (0, u "com/example/hoptrail/hoptrail/store/MarkEqualsPinLaw"), (2, u "law"), (0, u "(JIIJII)Z")] 7

def k1m0 : Method := { name := "<init>", desc := "()V", sig := { parameters := [], returnType := none }, accessFlags := 1, code := none }
def k1c1 : Code := { maxStack := 6, maxLocals := 16, code := code, exceptionTable := #[], attributes := #[] }
def k1m1 : Method := { name := "law", desc := "(JIIJII)Z", sig := { parameters := [.long, .int, .int, .long, .int, .int], returnType := some .boolean }, accessFlags := 9, code := some k1c1 }
/-- com/example/hoptrail/hoptrail/store/MarkEqualsPinLaw -/
def k1 : Class := { plain "com/example/hoptrail/hoptrail/store/MarkEqualsPinLaw" (some 0) with
  accessFlags := 49
  interfaces := #[]
  cf := some (fileOf pool1 22 #[] #[{ accessFlags := 1, nameIndex := 5, descriptorIndex := 6, attributes := #[] }, { accessFlags := 9, nameIndex := 26, descriptorIndex := 27, attributes := #[] }] 49 2 #[] #[])
  fields := #[]
  methods := #[k1m0, k1m1]
  instanceTypes := #[]
  staticTypes := #[]
  resolved := Array.replicate 35 none
  statics := none }

def pool2 : Array CpInfo := pool [(1, .methodref 2 3), (0, .class_ 4), (0, .nameAndType 5 6), (0, u "java/lang/Object"), (0, u "<init>"), (0, u "()V"), (0, .class_ 8), (0, u "java/lang/Record")] 13

def k2c0 : Code := { maxStack := 1, maxLocals := 1, code := jdk_30_method_1_code, exceptionTable := #[], attributes := #[] }
def k2m0 : Method := { name := "<init>", desc := "()V", sig := { parameters := [], returnType := none }, accessFlags := 4, code := some k2c0 }
/-- java/lang/Record -/
def k2 : Class := { plain "java/lang/Record" (some 0) with
  accessFlags := 1057
  interfaces := #[]
  cf := some (fileOf pool2 7 #[] #[{ accessFlags := 4, nameIndex := 5, descriptorIndex := 6, attributes := #[] }] 1057 2 #[] #[])
  fields := #[]
  methods := #[k2m0]
  instanceTypes := #[]
  staticTypes := #[]
  resolved := Array.replicate 22 none
  statics := none }

def pool3 : Array CpInfo := pool [(1, .class_ 2), (0, u "com/example/hoptrail/hoptrail/store/Journal"), (0, .methodref 4 5), (0, .class_ 6), (0, .nameAndType 7 8), (0, u "java/lang/Record"), (0, u "<init>"), (0, u "()V"), (0, .fieldref 10 11), (0, .class_ 12), (0, .nameAndType 13 14), (0, u "com/example/hoptrail/hoptrail/store/Journal$Mark"), (0, u "at"), (0, u "J"), (0, .fieldref 10 16), (0, .nameAndType 17 18), (0, u "length"), (0, u "I"), (0, .fieldref 10 20), (0, .nameAndType 21 18), (0, u "checksum"), (18, u "(JII)V"), (5, u "equals"), (0, u "(Ljava/lang/Object;)Z")] 27

def k3c0 : Code := { maxStack := 3, maxLocals := 5, code := prog_49_method_1_code, exceptionTable := #[], attributes := #[] }
def k3m0 : Method := { name := "<init>", desc := "(JII)V", sig := { parameters := [.long, .int, .int], returnType := none }, accessFlags := 0, code := some k3c0 }
def k3c1 : Code := { maxStack := 4, maxLocals := 3, code := prog_49_method_3_code, exceptionTable := #[], attributes := #[] }
def k3m1 : Method := { name := "equals", desc := "(Ljava/lang/Object;)Z", sig := { parameters := [(.object "java/lang/Object")], returnType := some .boolean }, accessFlags := 1, code := some k3c1 }
/-- com/example/hoptrail/hoptrail/store/Journal$Mark -/
def k3 : Class := { plain "com/example/hoptrail/hoptrail/store/Journal$Mark" (some 2) with
  accessFlags := 48
  interfaces := #[]
  cf := some (fileOf pool3 10 #[.nestHost 1] #[{ accessFlags := 0, nameIndex := 7, descriptorIndex := 40, attributes := #[] }, { accessFlags := 1, nameIndex := 46, descriptorIndex := 47, attributes := #[] }] 48 4 #[] #[{ accessFlags := 18, nameIndex := 13, descriptorIndex := 14, attributes := #[] }, { accessFlags := 18, nameIndex := 17, descriptorIndex := 18, attributes := #[] }, { accessFlags := 18, nameIndex := 21, descriptorIndex := 18, attributes := #[] }])
  fields := #[{ name := "at", type := .long, accessFlags := 18, slot := 0, constantValue := 0 }, { name := "length", type := .int, accessFlags := 18, slot := 1, constantValue := 0 }, { name := "checksum", type := .int, accessFlags := 18, slot := 2, constantValue := 0 }]
  methods := #[k3m0, k3m1]
  instanceTypes := #[.long, .int, .int]
  staticTypes := #[]
  resolved := Array.replicate 75 none
  statics := none }

def pool4 : Array CpInfo := pool [(1, .class_ 2), (0, u "java/io/Serializable"), (0, .class_ 4), (0, u "java/lang/Object")] 2

/-- java/io/Serializable -/
def k4 : Class := { plain "java/io/Serializable" (some 0) with
  accessFlags := 1537
  interfaces := #[]
  cf := some (fileOf pool4 1 #[] #[] 1537 3 #[] #[])
  fields := #[]
  methods := #[]
  instanceTypes := #[]
  staticTypes := #[]
  resolved := Array.replicate 7 none
  statics := none }

def pool5 : Array CpInfo := pool [(1, .methodref 2 3), (0, .class_ 4), (0, .nameAndType 5 6), (0, u "java/lang/Object"), (0, u "<init>"), (0, u "()V"), (1, .class_ 10), (1, u "java/lang/Number"), (2, .class_ 14), (0, u "java/io/Serializable"), (0, u "serialVersionUID"), (0, u "J")] 20

def k5c0 : Code := { maxStack := 1, maxLocals := 1, code := jdk_18_method_1_code, exceptionTable := #[], attributes := #[] }
def k5m0 : Method := { name := "<init>", desc := "()V", sig := { parameters := [], returnType := none }, accessFlags := 1, code := some k5c0 }
/-- java/lang/Number -/
def k5 : Class := { plain "java/lang/Number" (some 0) with
  accessFlags := 1057
  interfaces := #[4]
  cf := some (fileOf pool5 8 #[] #[{ accessFlags := 1, nameIndex := 5, descriptorIndex := 6, attributes := #[] }] 1057 2 #[13] #[{ accessFlags := 26, nameIndex := 15, descriptorIndex := 16, attributes := #[] }])
  fields := #[{ name := "serialVersionUID", type := .long, accessFlags := 26, slot := 0, constantValue := 0 }]
  methods := #[k5m0]
  instanceTypes := #[]
  staticTypes := #[.long]
  resolved := Array.replicate 37 none
  statics := none }

def pool6 : Array CpInfo := pool [(1, .class_ 2), (0, u "java/lang/Comparable"), (0, .class_ 4), (0, u "java/lang/Object")] 7

/-- java/lang/Comparable -/
def k6 : Class := { plain "java/lang/Comparable" (some 0) with
  accessFlags := 1537
  interfaces := #[]
  cf := some (fileOf pool6 1 #[] #[] 1537 3 #[] #[])
  fields := #[]
  methods := #[]
  instanceTypes := #[]
  staticTypes := #[]
  resolved := Array.replicate 12 none
  statics := none }

def pool7 : Array CpInfo := pool [(1, .class_ 2), (0, u "java/lang/constant/Constable"), (0, .class_ 4), (0, u "java/lang/Object")] 6

/-- java/lang/constant/Constable -/
def k7 : Class := { plain "java/lang/constant/Constable" (some 0) with
  accessFlags := 1537
  interfaces := #[]
  cf := some (fileOf pool7 1 #[] #[] 1537 3 #[] #[])
  fields := #[]
  methods := #[]
  instanceTypes := #[]
  staticTypes := #[]
  resolved := Array.replicate 11 none
  statics := none }

def pool8 : Array CpInfo := pool [(1, .class_ 2), (0, u "java/lang/constant/ConstantDesc"), (0, .class_ 4), (0, u "java/lang/Object")] 32

/-- java/lang/constant/ConstantDesc -/
def k8 : Class := { plain "java/lang/constant/ConstantDesc" (some 0) with
  accessFlags := 1537
  interfaces := #[]
  cf := some (fileOf pool8 1 #[] #[] 1537 3 #[] #[])
  fields := #[]
  methods := #[]
  instanceTypes := #[]
  staticTypes := #[]
  resolved := Array.replicate 37 none
  statics := none }

def pool9 : Array CpInfo := pool [(1, .class_ 2), (0, u "java/lang/Long"), (55, .nameAndType 59 60), (0, u "<init>"), (0, u "()V"), (24, u "valueOf"), (143, u "(J)Ljava/lang/Long;"), (0, .long 18446744073709551488), (1, .long 127), (1, .fieldref 235 236), (0, .class_ 237), (0, .nameAndType 238 239), (0, u "java/lang/Long$LongCache"), (0, u "cache"), (0, u "[Ljava/lang/Long;"), (0, .methodref 1 241), (0, .nameAndType 59 242), (0, u "(J)V"), (27, .methodref 271 58), (0, .class_ 272), (0, u "java/lang/Number"), (0, .fieldref 1 274), (0, .nameAndType 275 276), (0, u "value"), (0, u "J"), (84, u "TYPE"), (0, u "Ljava/lang/Class;"), (0, .class_ 364), (0, u "java/lang/Comparable"), (0, .class_ 366), (0, u "java/lang/constant/Constable"), (0, .class_ 368), (0, u "java/lang/constant/ConstantDesc"), (0, u "MIN_VALUE"), (1, u "MAX_VALUE"), (4, u "SIZE"), (0, u "I"), (1, u "BYTES"), (1, u "serialVersionUID")] 142

def k9c0 : Code := { maxStack := 4, maxLocals := 3, code := jdk_35_method_24_code, exceptionTable := #[], attributes := #[] }
def k9m0 : Method := { name := "valueOf", desc := "(J)Ljava/lang/Long;", sig := { parameters := [.long], returnType := some (.object "java/lang/Long") }, accessFlags := 9, code := some k9c0 }
def k9c1 : Code := { maxStack := 3, maxLocals := 3, code := jdk_35_method_26_code, exceptionTable := #[], attributes := #[] }
def k9m1 : Method := { name := "<init>", desc := "(J)V", sig := { parameters := [.long], returnType := none }, accessFlags := 1, code := some k9c1 }
/-- java/lang/Long -/
def k9 : Class := { plain "java/lang/Long" (some 5) with
  accessFlags := 49
  interfaces := #[6, 7, 8]
  cf := some (fileOf pool9 1 #[.nestMembers #[235]] #[{ accessFlags := 9, nameIndex := 85, descriptorIndex := 229, attributes := #[] }, { accessFlags := 1, nameIndex := 59, descriptorIndex := 242, attributes := #[] }] 49 271 #[363, 365, 367] #[{ accessFlags := 25, nameIndex := 369, descriptorIndex := 276, attributes := #[] }, { accessFlags := 25, nameIndex := 371, descriptorIndex := 276, attributes := #[] }, { accessFlags := 25, nameIndex := 361, descriptorIndex := 362, attributes := #[] }, { accessFlags := 18, nameIndex := 275, descriptorIndex := 276, attributes := #[] }, { accessFlags := 25, nameIndex := 376, descriptorIndex := 377, attributes := #[] }, { accessFlags := 25, nameIndex := 379, descriptorIndex := 377, attributes := #[] }, { accessFlags := 26, nameIndex := 381, descriptorIndex := 276, attributes := #[] }])
  fields := #[{ name := "MIN_VALUE", type := .long, accessFlags := 25, slot := 0, constantValue := 0 }, { name := "MAX_VALUE", type := .long, accessFlags := 25, slot := 1, constantValue := 0 }, { name := "TYPE", type := (.object "java/lang/Class"), accessFlags := 25, slot := 2, constantValue := 0 }, { name := "value", type := .long, accessFlags := 18, slot := 0, constantValue := 0 }, { name := "SIZE", type := .int, accessFlags := 25, slot := 3, constantValue := 0 }, { name := "BYTES", type := .int, accessFlags := 25, slot := 4, constantValue := 0 }, { name := "serialVersionUID", type := .long, accessFlags := 26, slot := 5, constantValue := 0 }]
  methods := #[k9m0, k9m1]
  instanceTypes := #[.long]
  staticTypes := #[.long, .long, (.object "java/lang/Class"), .int, .int, .long]
  resolved := Array.replicate 524 none
  statics := none }

def pool10 : Array CpInfo := pool [(2, .class_ 4), (1, u "java/lang/Object"), (0, u "<init>"), (0, u "()V"), (0, .class_ 8), (0, u "java/lang/Long"), (7, .class_ 18), (1, u "java/lang/Long$LongCache"), (0, u "$assertionsDisabled"), (0, u "Z"), (8, u "archivedCache"), (0, u "[Ljava/lang/Long;"), (7, u "cache")] 24

def k10m0 : Method := { name := "<init>", desc := "()V", sig := { parameters := [], returnType := none }, accessFlags := 2, code := none }
/-- java/lang/Long$LongCache -/
def k10 : Class := { plain "java/lang/Long$LongCache" (some 0) with
  accessFlags := 48
  interfaces := #[]
  cf := some (fileOf pool10 16 #[.nestHost 7] #[{ accessFlags := 2, nameIndex := 5, descriptorIndex := 6, attributes := #[] }] 48 2 #[] #[{ accessFlags := 24, nameIndex := 38, descriptorIndex := 30, attributes := #[] }, { accessFlags := 8, nameIndex := 29, descriptorIndex := 30, attributes := #[] }, { accessFlags := 4120, nameIndex := 19, descriptorIndex := 20, attributes := #[] }])
  fields := #[{ name := "cache", type := (.array (.object "java/lang/Long")), accessFlags := 24, slot := 0, constantValue := 0 }, { name := "archivedCache", type := (.array (.object "java/lang/Long")), accessFlags := 8, slot := 1, constantValue := 0 }, { name := "$assertionsDisabled", type := .boolean, accessFlags := 4120, slot := 2, constantValue := 0 }]
  methods := #[k10m0]
  instanceTypes := #[]
  staticTypes := #[(.array (.object "java/lang/Long")), (.array (.object "java/lang/Long")), .boolean]
  resolved := Array.replicate 63 none
  statics := some 0 }

def pool11 : Array CpInfo := pool [(1, u "java/lang/Cloneable"), (0, .class_ 1), (0, u "java/lang/Object"), (0, .class_ 3)] 3

/-- java/lang/Cloneable -/
def k11 : Class := { plain "java/lang/Cloneable" (some 0) with
  accessFlags := 1537
  interfaces := #[]
  cf := some (fileOf pool11 2 #[] #[] 1537 4 #[] #[])
  fields := #[]
  methods := #[]
  instanceTypes := #[]
  staticTypes := #[]
  resolved := Array.replicate 8 none
  statics := none }

/-- the primitive byte -/
def k12 : Class := { plain "byte" none with kind := .primitive 'B', accessFlags := 0x411 }
/-- [B -/
def k13 : Class := { plain "[B" (some 0) with kind := .array 12 .byte, interfaces := #[11, 4], accessFlags := 1041 }

/-- the primitive int -/
def k14 : Class := { plain "int" none with kind := .primitive 'I', accessFlags := 0x411 }
/-- [I -/
def k15 : Class := { plain "[I" (some 0) with kind := .array 14 .int, interfaces := #[11, 4], accessFlags := 1041 }

/-- [Ljava/lang/Long; -/
def k16 : Class := { plain "[Ljava/lang/Long;" (some 0) with kind := .array 9 (.object "java/lang/Long"), interfaces := #[11, 4], accessFlags := 1041 }

def heap : Heap := #[{ cls := 10, slots := #[.ref 1, .null, .int 0], vm := .statics 10 },
  { cls := 16, slots := #[.ref 2, .ref 3, .ref 4, .ref 5, .ref 6, .ref 7, .ref 8, .ref 9, .ref 10, .ref 11, .ref 12, .ref 13, .ref 14, .ref 15, .ref 16, .ref 17, .ref 18, .ref 19, .ref 20, .ref 21, .ref 22, .ref 23, .ref 24, .ref 25, .ref 26, .ref 27, .ref 28, .ref 29, .ref 30, .ref 31, .ref 32, .ref 33, .ref 34, .ref 35, .ref 36, .ref 37, .ref 38, .ref 39, .ref 40, .ref 41, .ref 42, .ref 43, .ref 44, .ref 45, .ref 46, .ref 47, .ref 48, .ref 49, .ref 50, .ref 51, .ref 52, .ref 53, .ref 54, .ref 55, .ref 56, .ref 57, .ref 58, .ref 59, .ref 60, .ref 61, .ref 62, .ref 63, .ref 64, .ref 65, .ref 66, .ref 67, .ref 68, .ref 69, .ref 70, .ref 71, .ref 72, .ref 73, .ref 74, .ref 75, .ref 76, .ref 77, .ref 78, .ref 79, .ref 80, .ref 81, .ref 82, .ref 83, .ref 84, .ref 85, .ref 86, .ref 87, .ref 88, .ref 89, .ref 90, .ref 91, .ref 92, .ref 93, .ref 94, .ref 95, .ref 96, .ref 97, .ref 98, .ref 99, .ref 100, .ref 101, .ref 102, .ref 103, .ref 104, .ref 105, .ref 106, .ref 107, .ref 108, .ref 109, .ref 110, .ref 111, .ref 112, .ref 113, .ref 114, .ref 115, .ref 116, .ref 117, .ref 118, .ref 119, .ref 120, .ref 121, .ref 122, .ref 123, .ref 124, .ref 125, .ref 126, .ref 127, .ref 128, .ref 129, .ref 130, .ref 131, .ref 132, .ref 133, .ref 134, .ref 135, .ref 136, .ref 137, .ref 138, .ref 139, .ref 140, .ref 141, .ref 142, .ref 143, .ref 144, .ref 145, .ref 146, .ref 147, .ref 148, .ref 149, .ref 150, .ref 151, .ref 152, .ref 153, .ref 154, .ref 155, .ref 156, .ref 157, .ref 158, .ref 159, .ref 160, .ref 161, .ref 162, .ref 163, .ref 164, .ref 165, .ref 166, .ref 167, .ref 168, .ref 169, .ref 170, .ref 171, .ref 172, .ref 173, .ref 174, .ref 175, .ref 176, .ref 177, .ref 178, .ref 179, .ref 180, .ref 181, .ref 182, .ref 183, .ref 184, .ref 185, .ref 186, .ref 187, .ref 188, .ref 189, .ref 190, .ref 191, .ref 192, .ref 193, .ref 194, .ref 195, .ref 196, .ref 197, .ref 198, .ref 199, .ref 200, .ref 201, .ref 202, .ref 203, .ref 204, .ref 205, .ref 206, .ref 207, .ref 208, .ref 209, .ref 210, .ref 211, .ref 212, .ref 213, .ref 214, .ref 215, .ref 216, .ref 217, .ref 218, .ref 219, .ref 220, .ref 221, .ref 222, .ref 223, .ref 224, .ref 225, .ref 226, .ref 227, .ref 228, .ref 229, .ref 230, .ref 231, .ref 232, .ref 233, .ref 234, .ref 235, .ref 236, .ref 237, .ref 238, .ref 239, .ref 240, .ref 241, .ref 242, .ref 243, .ref 244, .ref 245, .ref 246, .ref 247, .ref 248, .ref 249, .ref 250, .ref 251, .ref 252, .ref 253, .ref 254, .ref 255, .ref 256, .ref 257], vm := .none },
  { cls := 9, slots := #[.long (-128)], vm := .none },
  { cls := 9, slots := #[.long (-127)], vm := .none },
  { cls := 9, slots := #[.long (-126)], vm := .none },
  { cls := 9, slots := #[.long (-125)], vm := .none },
  { cls := 9, slots := #[.long (-124)], vm := .none },
  { cls := 9, slots := #[.long (-123)], vm := .none },
  { cls := 9, slots := #[.long (-122)], vm := .none },
  { cls := 9, slots := #[.long (-121)], vm := .none },
  { cls := 9, slots := #[.long (-120)], vm := .none },
  { cls := 9, slots := #[.long (-119)], vm := .none },
  { cls := 9, slots := #[.long (-118)], vm := .none },
  { cls := 9, slots := #[.long (-117)], vm := .none },
  { cls := 9, slots := #[.long (-116)], vm := .none },
  { cls := 9, slots := #[.long (-115)], vm := .none },
  { cls := 9, slots := #[.long (-114)], vm := .none },
  { cls := 9, slots := #[.long (-113)], vm := .none },
  { cls := 9, slots := #[.long (-112)], vm := .none },
  { cls := 9, slots := #[.long (-111)], vm := .none },
  { cls := 9, slots := #[.long (-110)], vm := .none },
  { cls := 9, slots := #[.long (-109)], vm := .none },
  { cls := 9, slots := #[.long (-108)], vm := .none },
  { cls := 9, slots := #[.long (-107)], vm := .none },
  { cls := 9, slots := #[.long (-106)], vm := .none },
  { cls := 9, slots := #[.long (-105)], vm := .none },
  { cls := 9, slots := #[.long (-104)], vm := .none },
  { cls := 9, slots := #[.long (-103)], vm := .none },
  { cls := 9, slots := #[.long (-102)], vm := .none },
  { cls := 9, slots := #[.long (-101)], vm := .none },
  { cls := 9, slots := #[.long (-100)], vm := .none },
  { cls := 9, slots := #[.long (-99)], vm := .none },
  { cls := 9, slots := #[.long (-98)], vm := .none },
  { cls := 9, slots := #[.long (-97)], vm := .none },
  { cls := 9, slots := #[.long (-96)], vm := .none },
  { cls := 9, slots := #[.long (-95)], vm := .none },
  { cls := 9, slots := #[.long (-94)], vm := .none },
  { cls := 9, slots := #[.long (-93)], vm := .none },
  { cls := 9, slots := #[.long (-92)], vm := .none },
  { cls := 9, slots := #[.long (-91)], vm := .none },
  { cls := 9, slots := #[.long (-90)], vm := .none },
  { cls := 9, slots := #[.long (-89)], vm := .none },
  { cls := 9, slots := #[.long (-88)], vm := .none },
  { cls := 9, slots := #[.long (-87)], vm := .none },
  { cls := 9, slots := #[.long (-86)], vm := .none },
  { cls := 9, slots := #[.long (-85)], vm := .none },
  { cls := 9, slots := #[.long (-84)], vm := .none },
  { cls := 9, slots := #[.long (-83)], vm := .none },
  { cls := 9, slots := #[.long (-82)], vm := .none },
  { cls := 9, slots := #[.long (-81)], vm := .none },
  { cls := 9, slots := #[.long (-80)], vm := .none },
  { cls := 9, slots := #[.long (-79)], vm := .none },
  { cls := 9, slots := #[.long (-78)], vm := .none },
  { cls := 9, slots := #[.long (-77)], vm := .none },
  { cls := 9, slots := #[.long (-76)], vm := .none },
  { cls := 9, slots := #[.long (-75)], vm := .none },
  { cls := 9, slots := #[.long (-74)], vm := .none },
  { cls := 9, slots := #[.long (-73)], vm := .none },
  { cls := 9, slots := #[.long (-72)], vm := .none },
  { cls := 9, slots := #[.long (-71)], vm := .none },
  { cls := 9, slots := #[.long (-70)], vm := .none },
  { cls := 9, slots := #[.long (-69)], vm := .none },
  { cls := 9, slots := #[.long (-68)], vm := .none },
  { cls := 9, slots := #[.long (-67)], vm := .none },
  { cls := 9, slots := #[.long (-66)], vm := .none },
  { cls := 9, slots := #[.long (-65)], vm := .none },
  { cls := 9, slots := #[.long (-64)], vm := .none },
  { cls := 9, slots := #[.long (-63)], vm := .none },
  { cls := 9, slots := #[.long (-62)], vm := .none },
  { cls := 9, slots := #[.long (-61)], vm := .none },
  { cls := 9, slots := #[.long (-60)], vm := .none },
  { cls := 9, slots := #[.long (-59)], vm := .none },
  { cls := 9, slots := #[.long (-58)], vm := .none },
  { cls := 9, slots := #[.long (-57)], vm := .none },
  { cls := 9, slots := #[.long (-56)], vm := .none },
  { cls := 9, slots := #[.long (-55)], vm := .none },
  { cls := 9, slots := #[.long (-54)], vm := .none },
  { cls := 9, slots := #[.long (-53)], vm := .none },
  { cls := 9, slots := #[.long (-52)], vm := .none },
  { cls := 9, slots := #[.long (-51)], vm := .none },
  { cls := 9, slots := #[.long (-50)], vm := .none },
  { cls := 9, slots := #[.long (-49)], vm := .none },
  { cls := 9, slots := #[.long (-48)], vm := .none },
  { cls := 9, slots := #[.long (-47)], vm := .none },
  { cls := 9, slots := #[.long (-46)], vm := .none },
  { cls := 9, slots := #[.long (-45)], vm := .none },
  { cls := 9, slots := #[.long (-44)], vm := .none },
  { cls := 9, slots := #[.long (-43)], vm := .none },
  { cls := 9, slots := #[.long (-42)], vm := .none },
  { cls := 9, slots := #[.long (-41)], vm := .none },
  { cls := 9, slots := #[.long (-40)], vm := .none },
  { cls := 9, slots := #[.long (-39)], vm := .none },
  { cls := 9, slots := #[.long (-38)], vm := .none },
  { cls := 9, slots := #[.long (-37)], vm := .none },
  { cls := 9, slots := #[.long (-36)], vm := .none },
  { cls := 9, slots := #[.long (-35)], vm := .none },
  { cls := 9, slots := #[.long (-34)], vm := .none },
  { cls := 9, slots := #[.long (-33)], vm := .none },
  { cls := 9, slots := #[.long (-32)], vm := .none },
  { cls := 9, slots := #[.long (-31)], vm := .none },
  { cls := 9, slots := #[.long (-30)], vm := .none },
  { cls := 9, slots := #[.long (-29)], vm := .none },
  { cls := 9, slots := #[.long (-28)], vm := .none },
  { cls := 9, slots := #[.long (-27)], vm := .none },
  { cls := 9, slots := #[.long (-26)], vm := .none },
  { cls := 9, slots := #[.long (-25)], vm := .none },
  { cls := 9, slots := #[.long (-24)], vm := .none },
  { cls := 9, slots := #[.long (-23)], vm := .none },
  { cls := 9, slots := #[.long (-22)], vm := .none },
  { cls := 9, slots := #[.long (-21)], vm := .none },
  { cls := 9, slots := #[.long (-20)], vm := .none },
  { cls := 9, slots := #[.long (-19)], vm := .none },
  { cls := 9, slots := #[.long (-18)], vm := .none },
  { cls := 9, slots := #[.long (-17)], vm := .none },
  { cls := 9, slots := #[.long (-16)], vm := .none },
  { cls := 9, slots := #[.long (-15)], vm := .none },
  { cls := 9, slots := #[.long (-14)], vm := .none },
  { cls := 9, slots := #[.long (-13)], vm := .none },
  { cls := 9, slots := #[.long (-12)], vm := .none },
  { cls := 9, slots := #[.long (-11)], vm := .none },
  { cls := 9, slots := #[.long (-10)], vm := .none },
  { cls := 9, slots := #[.long (-9)], vm := .none },
  { cls := 9, slots := #[.long (-8)], vm := .none },
  { cls := 9, slots := #[.long (-7)], vm := .none },
  { cls := 9, slots := #[.long (-6)], vm := .none },
  { cls := 9, slots := #[.long (-5)], vm := .none },
  { cls := 9, slots := #[.long (-4)], vm := .none },
  { cls := 9, slots := #[.long (-3)], vm := .none },
  { cls := 9, slots := #[.long (-2)], vm := .none },
  { cls := 9, slots := #[.long (-1)], vm := .none },
  { cls := 9, slots := #[.long 0], vm := .none },
  { cls := 9, slots := #[.long 1], vm := .none },
  { cls := 9, slots := #[.long 2], vm := .none },
  { cls := 9, slots := #[.long 3], vm := .none },
  { cls := 9, slots := #[.long 4], vm := .none },
  { cls := 9, slots := #[.long 5], vm := .none },
  { cls := 9, slots := #[.long 6], vm := .none },
  { cls := 9, slots := #[.long 7], vm := .none },
  { cls := 9, slots := #[.long 8], vm := .none },
  { cls := 9, slots := #[.long 9], vm := .none },
  { cls := 9, slots := #[.long 10], vm := .none },
  { cls := 9, slots := #[.long 11], vm := .none },
  { cls := 9, slots := #[.long 12], vm := .none },
  { cls := 9, slots := #[.long 13], vm := .none },
  { cls := 9, slots := #[.long 14], vm := .none },
  { cls := 9, slots := #[.long 15], vm := .none },
  { cls := 9, slots := #[.long 16], vm := .none },
  { cls := 9, slots := #[.long 17], vm := .none },
  { cls := 9, slots := #[.long 18], vm := .none },
  { cls := 9, slots := #[.long 19], vm := .none },
  { cls := 9, slots := #[.long 20], vm := .none },
  { cls := 9, slots := #[.long 21], vm := .none },
  { cls := 9, slots := #[.long 22], vm := .none },
  { cls := 9, slots := #[.long 23], vm := .none },
  { cls := 9, slots := #[.long 24], vm := .none },
  { cls := 9, slots := #[.long 25], vm := .none },
  { cls := 9, slots := #[.long 26], vm := .none },
  { cls := 9, slots := #[.long 27], vm := .none },
  { cls := 9, slots := #[.long 28], vm := .none },
  { cls := 9, slots := #[.long 29], vm := .none },
  { cls := 9, slots := #[.long 30], vm := .none },
  { cls := 9, slots := #[.long 31], vm := .none },
  { cls := 9, slots := #[.long 32], vm := .none },
  { cls := 9, slots := #[.long 33], vm := .none },
  { cls := 9, slots := #[.long 34], vm := .none },
  { cls := 9, slots := #[.long 35], vm := .none },
  { cls := 9, slots := #[.long 36], vm := .none },
  { cls := 9, slots := #[.long 37], vm := .none },
  { cls := 9, slots := #[.long 38], vm := .none },
  { cls := 9, slots := #[.long 39], vm := .none },
  { cls := 9, slots := #[.long 40], vm := .none },
  { cls := 9, slots := #[.long 41], vm := .none },
  { cls := 9, slots := #[.long 42], vm := .none },
  { cls := 9, slots := #[.long 43], vm := .none },
  { cls := 9, slots := #[.long 44], vm := .none },
  { cls := 9, slots := #[.long 45], vm := .none },
  { cls := 9, slots := #[.long 46], vm := .none },
  { cls := 9, slots := #[.long 47], vm := .none },
  { cls := 9, slots := #[.long 48], vm := .none },
  { cls := 9, slots := #[.long 49], vm := .none },
  { cls := 9, slots := #[.long 50], vm := .none },
  { cls := 9, slots := #[.long 51], vm := .none },
  { cls := 9, slots := #[.long 52], vm := .none },
  { cls := 9, slots := #[.long 53], vm := .none },
  { cls := 9, slots := #[.long 54], vm := .none },
  { cls := 9, slots := #[.long 55], vm := .none },
  { cls := 9, slots := #[.long 56], vm := .none },
  { cls := 9, slots := #[.long 57], vm := .none },
  { cls := 9, slots := #[.long 58], vm := .none },
  { cls := 9, slots := #[.long 59], vm := .none },
  { cls := 9, slots := #[.long 60], vm := .none },
  { cls := 9, slots := #[.long 61], vm := .none },
  { cls := 9, slots := #[.long 62], vm := .none },
  { cls := 9, slots := #[.long 63], vm := .none },
  { cls := 9, slots := #[.long 64], vm := .none },
  { cls := 9, slots := #[.long 65], vm := .none },
  { cls := 9, slots := #[.long 66], vm := .none },
  { cls := 9, slots := #[.long 67], vm := .none },
  { cls := 9, slots := #[.long 68], vm := .none },
  { cls := 9, slots := #[.long 69], vm := .none },
  { cls := 9, slots := #[.long 70], vm := .none },
  { cls := 9, slots := #[.long 71], vm := .none },
  { cls := 9, slots := #[.long 72], vm := .none },
  { cls := 9, slots := #[.long 73], vm := .none },
  { cls := 9, slots := #[.long 74], vm := .none },
  { cls := 9, slots := #[.long 75], vm := .none },
  { cls := 9, slots := #[.long 76], vm := .none },
  { cls := 9, slots := #[.long 77], vm := .none },
  { cls := 9, slots := #[.long 78], vm := .none },
  { cls := 9, slots := #[.long 79], vm := .none },
  { cls := 9, slots := #[.long 80], vm := .none },
  { cls := 9, slots := #[.long 81], vm := .none },
  { cls := 9, slots := #[.long 82], vm := .none },
  { cls := 9, slots := #[.long 83], vm := .none },
  { cls := 9, slots := #[.long 84], vm := .none },
  { cls := 9, slots := #[.long 85], vm := .none },
  { cls := 9, slots := #[.long 86], vm := .none },
  { cls := 9, slots := #[.long 87], vm := .none },
  { cls := 9, slots := #[.long 88], vm := .none },
  { cls := 9, slots := #[.long 89], vm := .none },
  { cls := 9, slots := #[.long 90], vm := .none },
  { cls := 9, slots := #[.long 91], vm := .none },
  { cls := 9, slots := #[.long 92], vm := .none },
  { cls := 9, slots := #[.long 93], vm := .none },
  { cls := 9, slots := #[.long 94], vm := .none },
  { cls := 9, slots := #[.long 95], vm := .none },
  { cls := 9, slots := #[.long 96], vm := .none },
  { cls := 9, slots := #[.long 97], vm := .none },
  { cls := 9, slots := #[.long 98], vm := .none },
  { cls := 9, slots := #[.long 99], vm := .none },
  { cls := 9, slots := #[.long 100], vm := .none },
  { cls := 9, slots := #[.long 101], vm := .none },
  { cls := 9, slots := #[.long 102], vm := .none },
  { cls := 9, slots := #[.long 103], vm := .none },
  { cls := 9, slots := #[.long 104], vm := .none },
  { cls := 9, slots := #[.long 105], vm := .none },
  { cls := 9, slots := #[.long 106], vm := .none },
  { cls := 9, slots := #[.long 107], vm := .none },
  { cls := 9, slots := #[.long 108], vm := .none },
  { cls := 9, slots := #[.long 109], vm := .none },
  { cls := 9, slots := #[.long 110], vm := .none },
  { cls := 9, slots := #[.long 111], vm := .none },
  { cls := 9, slots := #[.long 112], vm := .none },
  { cls := 9, slots := #[.long 113], vm := .none },
  { cls := 9, slots := #[.long 114], vm := .none },
  { cls := 9, slots := #[.long 115], vm := .none },
  { cls := 9, slots := #[.long 116], vm := .none },
  { cls := 9, slots := #[.long 117], vm := .none },
  { cls := 9, slots := #[.long 118], vm := .none },
  { cls := 9, slots := #[.long 119], vm := .none },
  { cls := 9, slots := #[.long 120], vm := .none },
  { cls := 9, slots := #[.long 121], vm := .none },
  { cls := 9, slots := #[.long 122], vm := .none },
  { cls := 9, slots := #[.long 123], vm := .none },
  { cls := 9, slots := #[.long 124], vm := .none },
  { cls := 9, slots := #[.long 125], vm := .none },
  { cls := 9, slots := #[.long 126], vm := .none },
  { cls := 9, slots := #[.long 127], vm := .none }]
def classes : Array Class := #[k0, k1, k2, k3, k4, k5, k6, k7, k8, k9, k10, k11, k12, k13, k14, k15, k16]
def interned : List (Array UInt16 × Addr) := []
def slotsUsed : Nat := 515
def theMethod : MethodId := ⟨1, 1⟩
def args0 : Array Value := #[.long 5, .int 6, .int 7, .long 5, .int 6, .int 7]
def aboutOver (below : List Frame) : State where
  vm := { classes := classes, interned := interned.toArray }
  heap := heap
  slotsUsed := slotsUsed
  threads := #[{ frames := .invoking theMethod args0 :: below }]
def below0 : List Frame := [.native { method := ⟨0, 0⟩, args := #[] }]
def about1 : State := aboutOver below0
def p0 : Program := .bare "" "" ""
def e0 : Env := launch0.env 0 0 0
theorem w_frames : about1.frames = Frame.invoking theMethod args0 :: below0 := rfl
set_option maxRecDepth 65536 in
theorem w_args : argsFit about1.vm theMethod args0 = true := by decide +kernel
set_option maxRecDepth 65536 in
theorem w_heap : heapFits about1 = true := by decide +kernel
set_option maxRecDepth 65536 in
theorem w_runnable : about1.curStatus? = some .runnable := by decide +kernel
set_option maxRecDepth 65536 in
theorem w_alone : about1.alone = true := by decide +kernel
set_option maxRecDepth 65536 in
theorem w_named : about1.methodNamed? x = some theMethod := by decide +kernel
set_option maxRecDepth 65536 in
theorem w_hears : about1.hears theMethod below0 = true := by decide +kernel
set_option maxRecDepth 65536 in
theorem w_ripe : about1.ripe theMethod args0 below0 = true := by decide +kernel
theorem w_running : about1.status = .running := rfl
set_option maxRecDepth 65536 in
theorem w_room : about1.hasRoom e0.platform room_1 = true :=
  launch0.hasRoom_least _ room_1 (by decide +kernel) (by decide +kernel) (by decide +kernel) (by decide +kernel) (by decide +kernel) (by decide +kernel)
theorem allAtoms_all (ts : List Jvm.Cond) (a : Array Jvm.Value) (st : Jvm.State) : (allAtoms ts).before a st = ts.all (fun c => c.before a st) := by
  induction ts with
  | nil => rfl
  | cons c t ih =>
    show (Jvm.Cond.and c (allAtoms t)).before a st = _
    rw [Jvm.Cond.before_and, ih, List.all_cons]
def words1 : List Jvm.Cond := Jvm.Cond.code x code maxLocals ret :: tables_1
/-- a 'code' word, met by the world's own term for the bytes: nothing is compared byte by byte -/
theorem code_word {y : MethodName} {bytes : ByteArray} {mx : Nat} {rt : Option FieldType} {a : Array Value} {s : State} {m : MethodId} {meth : Method} {c : Code} (h1 : s.methodNamed? y = some m) (h2 : s.vm.method? m = some meth) (h3 : meth.code = some c) (h4 : c.code = bytes)
    (h5 : (c.maxLocals == mx && c.exceptionTable.isEmpty && decide (c.maxStack ≤ mostOperands) && decide (meth.sig.returnType = rt) && !meth.locks && decide (parseMethodDescriptor y.desc = some meth.sig)) = true) : (Jvm.Cond.code y bytes mx rt).before a s = true := by
  simp only [Bool.and_eq_true, beq_iff_eq, Bool.not_eq_true', decide_eq_true_eq] at h5
  obtain ⟨⟨⟨⟨⟨g1, g2⟩, g3⟩, g4⟩, g5⟩, g6⟩ := h5
  simp [Cond.before, Cond.holds, Cond.value, h1, h2, h3, h4, g1, g2, g3, g4, g5, g6]
def isCode : Jvm.Cond → Bool
  | .code _ _ _ _ => true
  | _ => false
theorem all_split {L : List Jvm.Cond} {P : Jvm.Cond → Bool} (h1 : L.all (fun c => isCode c || P c) = true) (h2 : ∀ c ∈ L.filter isCode, P c = true) : L.all P = true := by
  refine List.all_eq_true.mpr fun c hc => ?_
  have h := List.all_eq_true.mp h1 c hc
  rcases Bool.eq_false_or_eq_true (isCode c) with hi | hi
  · exact h2 c (List.mem_filter.mpr ⟨hc, hi⟩)
  · simpa [hi] using h
set_option maxRecDepth 65536 in
theorem w_c0 : (Jvm.Cond.code x code maxLocals ret).before args0 about1 = true := code_word (m := ⟨1, 1⟩) (meth := k1m1) (c := k1c1) (by decide +kernel) rfl rfl rfl (by decide +kernel)
set_option maxRecDepth 65536 in
theorem w_c1 : (Jvm.Cond.code ({ cls := "com/example/hoptrail/hoptrail/store/Journal$Mark", name := "<init>", desc := "(JII)V" } : Jvm.MethodName) prog_49_method_1_code (5 : Nat) (Option.none : Option Jvm.ClassFile.FieldType)).before args0 about1 = true := code_word (m := ⟨3, 0⟩) (meth := k3m0) (c := k3c0) (by decide +kernel) rfl rfl rfl (by decide +kernel)
set_option maxRecDepth 65536 in
theorem w_c2 : (Jvm.Cond.code ({ cls := "java/lang/Record", name := "<init>", desc := "()V" } : Jvm.MethodName) jdk_30_method_1_code (1 : Nat) (Option.none : Option Jvm.ClassFile.FieldType)).before args0 about1 = true := code_word (m := ⟨2, 0⟩) (meth := k2m0) (c := k2c0) (by decide +kernel) rfl rfl rfl (by decide +kernel)
set_option maxRecDepth 65536 in
theorem w_c3 : (Jvm.Cond.code ({ cls := "java/lang/Object", name := "<init>", desc := "()V" } : Jvm.MethodName) object_method_1_code (1 : Nat) (Option.none : Option Jvm.ClassFile.FieldType)).before args0 about1 = true := code_word (m := ⟨0, 0⟩) (meth := k0m0) (c := k0c0) (by decide +kernel) rfl rfl rfl (by decide +kernel)
set_option maxRecDepth 65536 in
theorem w_c4 : (Jvm.Cond.code ({ cls := "com/example/hoptrail/hoptrail/store/Journal$Mark", name := "equals", desc := "(Ljava/lang/Object;)Z" } : Jvm.MethodName) prog_49_method_3_code (3 : Nat) (Option.some Jvm.ClassFile.FieldType.boolean)).before args0 about1 = true := code_word (m := ⟨3, 1⟩) (meth := k3m1) (c := k3c1) (by decide +kernel) rfl rfl rfl (by decide +kernel)
set_option maxRecDepth 65536 in
theorem w_c5 : (Jvm.Cond.code ({ cls := "java/lang/Long", name := "valueOf", desc := "(J)Ljava/lang/Long;" } : Jvm.MethodName) jdk_35_method_24_code (3 : Nat) (Option.some (Jvm.ClassFile.FieldType.object "java/lang/Long"))).before args0 about1 = true := code_word (m := ⟨9, 0⟩) (meth := k9m0) (c := k9c0) (by decide +kernel) rfl rfl rfl (by decide +kernel)
set_option maxRecDepth 65536 in
theorem w_c6 : (Jvm.Cond.code ({ cls := "java/lang/Long", name := "<init>", desc := "(J)V" } : Jvm.MethodName) jdk_35_method_26_code (3 : Nat) (Option.none : Option Jvm.ClassFile.FieldType)).before args0 about1 = true := code_word (m := ⟨9, 1⟩) (meth := k9m1) (c := k9c1) (by decide +kernel) rfl rfl rfl (by decide +kernel)
set_option maxRecDepth 65536 in
theorem w_c7 : (Jvm.Cond.code ({ cls := "java/lang/Number", name := "<init>", desc := "()V" } : Jvm.MethodName) jdk_18_method_1_code (1 : Nat) (Option.none : Option Jvm.ClassFile.FieldType)).before args0 about1 = true := code_word (m := ⟨5, 0⟩) (meth := k5m0) (c := k5c0) (by decide +kernel) rfl rfl rfl (by decide +kernel)
def codes1 : List Jvm.Cond := [Jvm.Cond.code x code maxLocals ret, Jvm.Cond.code ({ cls := "com/example/hoptrail/hoptrail/store/Journal$Mark", name := "<init>", desc := "(JII)V" } : Jvm.MethodName) prog_49_method_1_code (5 : Nat) (Option.none : Option Jvm.ClassFile.FieldType), Jvm.Cond.code ({ cls := "java/lang/Record", name := "<init>", desc := "()V" } : Jvm.MethodName) jdk_30_method_1_code (1 : Nat) (Option.none : Option Jvm.ClassFile.FieldType), Jvm.Cond.code ({ cls := "java/lang/Object", name := "<init>", desc := "()V" } : Jvm.MethodName) object_method_1_code (1 : Nat) (Option.none : Option Jvm.ClassFile.FieldType), Jvm.Cond.code ({ cls := "com/example/hoptrail/hoptrail/store/Journal$Mark", name := "equals", desc := "(Ljava/lang/Object;)Z" } : Jvm.MethodName) prog_49_method_3_code (3 : Nat) (Option.some Jvm.ClassFile.FieldType.boolean), Jvm.Cond.code ({ cls := "java/lang/Long", name := "valueOf", desc := "(J)Ljava/lang/Long;" } : Jvm.MethodName) jdk_35_method_24_code (3 : Nat) (Option.some (Jvm.ClassFile.FieldType.object "java/lang/Long")), Jvm.Cond.code ({ cls := "java/lang/Long", name := "<init>", desc := "(J)V" } : Jvm.MethodName) jdk_35_method_26_code (3 : Nat) (Option.none : Option Jvm.ClassFile.FieldType), Jvm.Cond.code ({ cls := "java/lang/Number", name := "<init>", desc := "()V" } : Jvm.MethodName) jdk_18_method_1_code (1 : Nat) (Option.none : Option Jvm.ClassFile.FieldType)]
set_option maxRecDepth 65536 in
theorem codes_eq : words1.filter isCode = codes1 := rfl
theorem w_codes : ∀ c ∈ words1.filter isCode, c.before args0 about1 = true := by
  rw [codes_eq]
  intro c hc
  simp only [codes1, List.mem_cons, List.not_mem_nil, or_false] at hc
  rcases hc with rfl | rfl | rfl | rfl | rfl | rfl | rfl | rfl
  · exact w_c0
  · exact w_c1
  · exact w_c2
  · exact w_c3
  · exact w_c4
  · exact w_c5
  · exact w_c6
  · exact w_c7
set_option maxRecDepth 65536 in
theorem w_t1 : (words1.take 24).all (fun c => isCode c || c.before args0 about1) = true := by decide +kernel
set_option maxRecDepth 65536 in
theorem w_t2 : ((words1.drop 24).take 24).all (fun c => isCode c || c.before args0 about1) = true := by decide +kernel
set_option maxRecDepth 65536 in
theorem w_t3 : ((words1.drop 24).drop 24).all (fun c => isCode c || c.before args0 about1) = true := by decide +kernel
theorem w_tables : (allAtoms (Jvm.Cond.code x code maxLocals ret :: tables_1)).before args0 about1 = true := by
  rw [allAtoms_all]
  show words1.all (fun c => c.before args0 about1) = true
  refine all_split ?_ w_codes
  rw [← List.take_append_drop 24 words1, List.all_append, w_t1, ← List.take_append_drop 24 (words1.drop 24), List.all_append, w_t2, w_t3]
  rfl
set_option maxRecDepth 65536 in
theorem w_rest : rest_1_c.before args0 about1 = true := by decide +kernel
set_option maxRecDepth 65536 in
theorem w_case : (Jvm.Cond.and given_1 narrow_1).before args0 about1 = true := by decide +kernel
theorem w_applies : (headSpec (Jvm.Cond.code x code maxLocals ret :: tables_1) room_1).applies x e0.platform about1 = true :=
  (Spec.applies_iff w_frames).mpr ⟨w_running, w_runnable, w_alone, w_named, w_hears, w_ripe, w_room, w_tables⟩
theorem atStart : AtStart classFile x code maxLocals ret World_1 tables_1 room_1 Calls_1 rest_1 Pre_1 launch0 p0 e0 about1 theMethod args0 below0 :=
  ⟨lists_1, trivial, launch0.admits_env _ _ _, launch0.least_env, fairChoices_fair.cas, fairChoices_fair.clock, w_frames, w_args, w_heap, w_applies, trivial, w_rest, w_case⟩
end start1
theorem witness_1 : WitnessClaimed_1 := ⟨start1.p0, start1.e0, start1.about1, start1.theMethod, start1.args0, start1.below0, start1.atStart⟩
end Jvm.Pilot.@@N@@
