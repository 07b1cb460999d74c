import JvmDerived
import JvmDerived.Pilot.@@N@@Statement
import JvmDerived.Pilot.@@N@@Code
set_option linter.unusedVariables false
set_option linter.unusedSimpArgs false
namespace Jvm.Pilot.@@N@@
open Jvm Jvm.ClassFile Sem Op Lib Jvm.Free Jvm.Stand Jvm.LawKit Jvm.RoadKit Bundle Jvm.Pilot.@@N@@.Jvm.D
def own_Go (tb : Tables) (e : Env) (below : List Frame) (G : State → Outcome → Prop) (s : State) : Prop := ∃ s₂ o, Steps tb e below s s₂ ∧ s₂.status = .running ∧ Ended s₂ below o ∧ G s₂ o
theorem own_up {tb : Tables} {e : Env} {below : List Frame} {G : State → Outcome → Prop} {s s' : State} (f : ∀ t, Steps tb e below s' t → Steps tb e below s t) (h : own_Go tb e below G s') : own_Go tb e below G s := by
  obtain ⟨s₂, o, h1, h2⟩ := h
  exact ⟨s₂, o, f _ h1, h2⟩
theorem own_selp {s : State} {args : Array Value} {y : MethodName} {n : Nat} (hi : (Cond.instantiable y.cls n).before args s = true) (hp : s.PrivateAt y) (hinst : (Cond.instanceMethod y).before args s = true) (hy : y.cls ≠ "java/lang/invoke/MethodHandle" ∧ y.cls ≠ "java/lang/invoke/VarHandle") : (Cond.selects y.cls y y).before args s = true := by
  obtain ⟨c, k, h1, h2, -, h4, -, -⟩ := Cond.instantiable_spec hi
  rw [Bool.or_eq_false_iff] at h4
  exact selects_self_of_private h1 h2 h4.1 hp hinst hy
theorem own_end {p : Program} {l : Launch} {e : Env} {R : Room} {s : State} {m : MethodId} {args : Array Value} {below : List Frame} {meth : Method} {c : Code} {T : State} {locs : List Loc} {cells slots : Nat} (X : Stand p l e R s m args below meth c T locs cells slots) (hlocks : meth.locks = false) {v : Option Value} (hv : meth.sig.returnType = none → v = none) {g : JFrame}
    (step : ∀ fs, (∀ (f : JFrame) (acts : List Action), f.method = m → f.locked = none → f.entered = [] → (doReturn e (T.setTop f) acts v).1 = T.setFrames fs) → Steps p.tables e below (T.setTop g) (T.setFrames fs)) {h : Heap} (eT : T.heap = h) {Q : Option Value → Heap → List Loc → Prop} {kc ks : Nat} (hQ : Q v h locs) (hc : cells ≤ kc) (hs : slots ≤ ks) :
    own_Go p.tables e below (fun u o => ∃ v L, o = .returned v ∧ Q v u.heap L ∧ FrameEnd s o u L kc ks) (T.setTop g) := by
  obtain ⟨fs, hr, hrun, hended, hW, hsame⟩ := X.leave (v := v) hv hlocks
  subst eT
  exact ⟨_, _, step fs hr, hrun, hended, _, _, rfl, hQ, ⟨_, rfl⟩, hW, hsame.mono hc hs⟩
theorem own_mask3 (x : Int32) : x &&& (3 : Int32) = 0 ∨ x &&& (3 : Int32) = 1 ∨ x &&& (3 : Int32) = 2 ∨ x &&& (3 : Int32) = 3 := by
  have h := c_mask x 3 2 (by decide) (by decide)
  have h2 : x.toInt % (2 ^ 2 : Nat) = 0 ∨ x.toInt % (2 ^ 2 : Nat) = 1 ∨ x.toInt % (2 ^ 2 : Nat) = 2 ∨ x.toInt % (2 ^ 2 : Nat) = 3 := by omega
  rw [← h] at h2
  rcases h2 with q | q | q | q
  · exact Or.inl (Int32.toInt_inj.mp q)
  · exact Or.inr (Or.inl (Int32.toInt_inj.mp q))
  · exact Or.inr (Or.inr (Or.inl (Int32.toInt_inj.mp q)))
  · exact Or.inr (Or.inr (Or.inr (Int32.toInt_inj.mp q)))
theorem own_s1 (a : Int32) : (0 + a) + 0 = a := by rw [Int32.zero_add, Int32.add_zero]
theorem own_s2 (a b : Int32) : (0 + b) + ((0 + a) + 0) = a + b := by rw [Int32.zero_add, own_s1, Int32.add_comm]
theorem own_s3 (a b c : Int32) : (0 + c) + ((0 + b) + ((0 + a) + 0)) = a + b + c := by rw [own_s2, Int32.zero_add, Int32.add_comm]
theorem d_prog_32_m_1_0 : decode prog_32_method_1_code 0 = .ok (.aload_n 0, 1) := by decide +kernel
theorem d_prog_32_m_1_1 : decode prog_32_method_1_code 1 = .ok (.invokespecial 1, 3) := by decide +kernel
theorem d_prog_32_m_1_4 : decode prog_32_method_1_code 4 = .ok (.aload_n 0, 1) := by decide +kernel
theorem d_prog_32_m_1_5 : decode prog_32_method_1_code 5 = .ok (.iload_n 1, 1) := by decide +kernel
theorem d_prog_32_m_1_6 : decode prog_32_method_1_code 6 = .ok (.iconst 1, 1) := by decide +kernel
theorem d_prog_32_m_1_7 : decode prog_32_method_1_code 7 = .ok (.iadd, 1) := by decide +kernel
theorem d_prog_32_m_1_8 : decode prog_32_method_1_code 8 = .ok (.newarray .int, 2) := by decide +kernel
theorem d_prog_32_m_1_10 : decode prog_32_method_1_code 10 = .ok (.putfield 7, 3) := by decide +kernel
theorem d_prog_32_m_1_13 : decode prog_32_method_1_code 13 = .ok (.return_, 1) := by decide +kernel
theorem own_pn0 : plainName "com/example/querygraft/querygraft/format/CompressedRows$Layout" = true := by first | (simp [plainName, overriddenIn]; done) | decide +kernel
theorem ef_rm1 (m : MethodId) (y0 : Addr) (y1 : Int32) : entryFrame m #[(.ref y0), (.int y1)] 2 = mkF m 0 #[.val (.ref y0), .val (.int y1)] [] := by first | (simp [entryFrame, mkF, argsToLocals, Value.category]; done) | rfl
def Q_rm1 (Z : State) (a : Addr) (pr : Int32) (h0 : Heap) (n0 : Nat) (v : Option Value) (h : Heap) (L : List Loc) : Prop := ∃ (bo : Addr) (ko : ClassId), v = none ∧ Fr n0 L ∧ Keep h0 h [a] ∧ n0 ≤ bo ∧ a ≠ bo ∧ Exa Z h a "com/example/querygraft/querygraft/format/CompressedRows$Layout" ∧ Fld Z h a "com/example/querygraft/querygraft/format/CompressedRows$Layout" "offsets" "[I" (.ref bo) ∧ Arv Z h bo ko .int (pr + (1 : Int32)) [] (.int (0 : Int32))
set_option maxRecDepth 65536 in
set_option maxHeartbeats 40000000 in
theorem rm1 (l : Launch) (Z : State) (a0 : Array Value) (hw : ∀ d ∈ tables_1, d.before a0 Z = true) (ws : List Jvm.Cond) (a : Addr) (pr : Int32) (h0 : Heap) (n0 : Nat) (Z0 : n0 ≤ h0.size) (E : Exa Z h0 a "com/example/querygraft/querygraft/format/CompressedRows$Layout") (F : Fld Z h0 a "com/example/querygraft/querygraft/format/CompressedRows$Layout" "offsets" "[I" .null) (G : n0 ≤ a) (hneg : ¬ (pr + (1 : Int32)) < 0) (hcap : (pr + (1 : Int32)).toNatClampNeg ≤ 4) :
    MetFree l (⟨"com/example/querygraft/querygraft/format/CompressedRows$Layout", "<init>", "(I)V"⟩ : MethodName) (head1 (Jvm.Cond.code (⟨"com/example/querygraft/querygraft/format/CompressedRows$Layout", "<init>", "(I)V"⟩ : MethodName) prog_32_method_1_code 2 none :: ws) ({ frames := 1, cells := 1, slots := 4, locals := 12 } : Room)) (fun ar U => ar = #[(.ref a), (.int pr)] ∧ Z.Warmed39 U.vm ∧ U.heap = h0) (fun _ _ _ _ _ => True) (fun _ U o U' => ∃ v L, o = .returned v ∧ Q_rm1 Z a pr h0 n0 v U'.heap L ∧ FrameEnd U o U' L ({ frames := 1, cells := 1, slots := 4, locals := 12 } : Room).cells ({ frames := 1, cells := 1, slots := 4, locals := 12 } : Room).slots) := by
  refine MetFree.of_bodySF (plainFor_of_name own_pn0) hisR ?_
  intro p e s m args below meth c s₁ Bd hml0 hP hK
  obtain ⟨rfl, hZ, hh⟩ := hP
  have hx := Bd.exec
  have hby := Bd.bytes
  have hlk : meth.locks = false := BodyLoose.notSynchronized Bd
  have hml : c.maxLocals = 2 := hml0
  have hown : s.vm.findClass "com/example/querygraft/querygraft/format/CompressedRows$Layout" = some m.cls := findClass_of_methodNamed Bd.named
  have hnm := (name_of_methodNamed Bd.named Bd.method).1
  have X0 : Stand p l e ({ frames := 1, cells := 1, slots := 4, locals := 12 } : Room) s m #[(.ref a), (.int pr)] below meth c s₁ [] 0 0 := Stand.of_body Bd
  have e0 : s₁.heap = h0 := by rw [← hh, Bd.state]; rfl
  have N0 := Fr.nil n0
  show own_Go p.tables e below (fun u o => ∃ v L, o = .returned v ∧ Q_rm1 Z a pr h0 n0 v u.heap L ∧ FrameEnd s o u L ({ frames := 1, cells := 1, slots := 4, locals := 12 } : Room).cells ({ frames := 1, cells := 1, slots := 4, locals := 12 } : Room).slots) (s₁.setTop (entryFrame m #[(.ref a), (.int pr)] 2))
  refine own_up (fun _ k => castTop (ef_rm1 m a pr) k) ?_
  show own_Go p.tables e below _ (s₁.setTop (mkF m 0 #[.val (.ref a), .val (.int pr)] []))
  refine own_up (fun _ k => XS.aloadN X0.here hx rfl (hb hby d_prog_32_m_1_0) rfl rfl k) ?_
  show own_Go p.tables e below _ (s₁.setTop (mkF m 1 #[.val (.ref a), .val (.int pr)] [(.ref a)]))
  obtain ⟨T1, X1, e1, st1⟩ := initO X0 hx hZ hown (hw _ (List.mem_of_getElem? (i := 6) rfl)) (hw _ (List.mem_of_getElem? (i := 7) rfl)) (hw _ (List.mem_of_getElem? (i := 8) rfl)) e0 (g := (mkF m 1 #[.val (.ref a), .val (.int pr)] [(.ref a)])) rfl (by rw [hml]; rfl) rfl (hb hby d_prog_32_m_1_1) (by decide) (W := 0) (by show 2 * 0 + _ ≤ _; exact Nat.le_of_eq rfl) (by decide)
  refine own_up st1 ?_
  show own_Go p.tables e below _ (T1.setTop (mkF m 4 #[.val (.ref a), .val (.int pr)] []))
  refine own_up (fun _ k => XS.aloadN X1.here hx rfl (hb hby d_prog_32_m_1_4) rfl rfl k) ?_
  show own_Go p.tables e below _ (T1.setTop (mkF m 5 #[.val (.ref a), .val (.int pr)] [(.ref a)]))
  refine own_up (fun _ k => XS.iloadN X1.here hx rfl (hb hby d_prog_32_m_1_5) rfl k) ?_
  show own_Go p.tables e below _ (T1.setTop (mkF m 6 #[.val (.ref a), .val (.int pr)] [(.int pr), (.ref a)]))
  refine own_up (fun _ k => XS.iconst X1.here hx rfl (hb hby d_prog_32_m_1_6) k) ?_
  show own_Go p.tables e below _ (T1.setTop (mkF m 7 #[.val (.ref a), .val (.int pr)] [(.int (1 : Int32)), (.int pr), (.ref a)]))
  refine own_up (fun _ k => XS.iadd X1.here hx rfl (hb hby d_prog_32_m_1_7) rfl k) ?_
  show own_Go p.tables e below _ (T1.setTop (mkF m 8 #[.val (.ref a), .val (.int pr)] [(.int (pr + (1 : Int32))), (.ref a)]))
  obtain ⟨T2, h2, k2, X2, e2, E2, A2, st2⟩ := newP X1 hx hZ (hw _ (List.mem_of_getElem? (i := 9) rfl)) e1 (g := (mkF m 8 #[.val (.ref a), .val (.int pr)] [(.int (pr + (1 : Int32))), (.ref a)])) rfl (hb hby d_prog_32_m_1_8) rfl hneg (cap := 4) hcap (by decide) (by decide) (by decide)
  obtain ⟨b2, g2⟩ : ∃ z, z = h0.size := ⟨_, rfl⟩
  rw [← g2] at A2 st2
  have ge2 : n0 ≤ b2 := Nat.le_trans Z0 (Nat.le_of_eq g2.symm)
  have ne2_0 : a ≠ b2 := Nat.ne_of_lt (Nat.lt_of_lt_of_le E.lt (Nat.le_of_eq g2.symm))
  have sz2 : h0.size ≤ b2 := Nat.le_trans (Nat.le_refl _) (Nat.le_of_eq g2.symm)
  refine own_up st2 ?_
  have V2 : Arv Z h2 b2 k2 .int (pr + (1 : Int32)) [] (.int (0 : Int32)) := Arv.new A2 hneg
  show own_Go p.tables e below _ (T2.setTop (mkF m 10 #[.val (.ref a), .val (.int pr)] [(.ref b2), (.ref a)]))
  have f3 : Fld Z h2 a "com/example/querygraft/querygraft/format/CompressedRows$Layout" "offsets" "[I" .null := (F.ext E2)
  have f4 : Exa Z h2 a "com/example/querygraft/querygraft/format/CompressedRows$Layout" := (E.ext E2)
  obtain ⟨T5, h5, X5, e5, W5, st5⟩ := putF X2 hx hZ hown (host := "") (Or.inl (hw _ (List.mem_of_getElem? (i := 10) rfl))) Via.refl e2 f3 f4 (Or.inr ⟨(hw _ (List.mem_of_getElem? (i := 11) rfl)), rfl, hnm⟩) (hw _ (List.mem_of_getElem? (i := 1) rfl)) (ty := (.array .int)) (by decide) rfl rfl (g := (mkF m 10 #[.val (.ref a), .val (.int pr)] [(.ref b2), (.ref a)])) rfl rfl (hb hby d_prog_32_m_1_10)
  have Fw5 := f3.same W5
  have N5 := Fr.snoc X5 N0 G
  refine own_up st5 ?_
  show own_Go p.tables e below _ (T5.setTop (mkF m 13 #[.val (.ref a), .val (.int pr)] []))
  have f6 : Exa Z h5 a "com/example/querygraft/querygraft/format/CompressedRows$Layout" := (f4.wr W5)
  have f7 : Arv Z h5 b2 k2 .int (pr + (1 : Int32)) [] (.int (0 : Int32)) := (V2.other W5 (Ne.symm ne2_0))
  exact own_end X5 hlk (v := none) (fun _ => rfl) (fun fs hr => X5.returnOut hx Bd.returns (hb hby d_prog_32_m_1_13) hr) e5 ⟨b2, k2, rfl, N5, (((Keep.refl h0 [a]).ext E2).wr W5 (Or.inl (List.mem_of_getElem? (i := 0) rfl))), ge2, ne2_0, f6, Fw5, f7⟩ (by decide) (by decide)
theorem d_prog_32_m_3_0 : decode prog_32_method_3_code 0 = .ok (.aload_n 0, 1) := by decide +kernel
theorem d_prog_32_m_3_1 : decode prog_32_method_3_code 1 = .ok (.getfield 7, 3) := by decide +kernel
theorem d_prog_32_m_3_4 : decode prog_32_method_3_code 4 = .ok (.iload_n 1, 1) := by decide +kernel
theorem d_prog_32_m_3_5 : decode prog_32_method_3_code 5 = .ok (.iconst 1, 1) := by decide +kernel
theorem d_prog_32_m_3_6 : decode prog_32_method_3_code 6 = .ok (.iadd, 1) := by decide +kernel
theorem d_prog_32_m_3_7 : decode prog_32_method_3_code 7 = .ok (.dup2, 1) := by decide +kernel
theorem d_prog_32_m_3_8 : decode prog_32_method_3_code 8 = .ok (.iaload, 1) := by decide +kernel
theorem d_prog_32_m_3_9 : decode prog_32_method_3_code 9 = .ok (.iload_n 2, 1) := by decide +kernel
theorem d_prog_32_m_3_10 : decode prog_32_method_3_code 10 = .ok (.iadd, 1) := by decide +kernel
theorem d_prog_32_m_3_11 : decode prog_32_method_3_code 11 = .ok (.iastore, 1) := by decide +kernel
theorem d_prog_32_m_3_12 : decode prog_32_method_3_code 12 = .ok (.return_, 1) := by decide +kernel
theorem ef_rm2 (m : MethodId) (y0 : Addr) (y1 : Int32) (y2 : Int32) : entryFrame m #[(.ref y0), (.int y1), (.int y2)] 3 = mkF m 0 #[.val (.ref y0), .val (.int y1), .val (.int y2)] [] := by first | (simp [entryFrame, mkF, argsToLocals, Value.category]; done) | rfl
def Q_rm2 (Z : State) (a : Addr) (pi : Int32) (pv : Int32) (bo : Addr) (ko : ClassId) (zn : Int32) (vs : List Value) (x : Int32) (h0 : Heap) (n0 : Nat) (v : Option Value) (h : Heap) (L : List Loc) : Prop := v = none ∧ Fr n0 L ∧ Keep h0 h [bo] ∧ Arv Z h bo ko .int zn (vs.set (pi + (1 : Int32)).toNatClampNeg (.int (x + pv))) (.int (0 : Int32))
set_option maxRecDepth 65536 in
set_option maxHeartbeats 40000000 in
theorem rm2 (l : Launch) (Z : State) (a0 : Array Value) (hw : ∀ d ∈ tables_1, d.before a0 Z = true) (ws : List Jvm.Cond) (a : Addr) (pi : Int32) (pv : Int32) (bo : Addr) (ko : ClassId) (zn : Int32) (vs : List Value) (x : Int32) (h0 : Heap) (n0 : Nat) (Z0 : n0 ≤ h0.size) (F : Fld Z h0 a "com/example/querygraft/querygraft/format/CompressedRows$Layout" "offsets" "[I" (.ref bo)) (V : Arv Z h0 bo ko .int zn vs (.int (0 : Int32))) (G : n0 ≤ bo) (hj : ¬ (pi + (1 : Int32)) < 0 ∧ (pi + (1 : Int32)) < zn) (hx1 : vs.getD (pi + (1 : Int32)).toNatClampNeg (.int (0 : Int32)) = .int x) (hl : (pi + (1 : Int32)).toNatClampNeg < vs.length) :
    MetFree l (⟨"com/example/querygraft/querygraft/format/CompressedRows$Layout", "count", "(II)V"⟩ : MethodName) (head1 (Jvm.Cond.code (⟨"com/example/querygraft/querygraft/format/CompressedRows$Layout", "count", "(II)V"⟩ : MethodName) prog_32_method_3_code 3 none :: ws) ({ frames := 0, cells := 0, slots := 0, locals := 0 } : Room)) (fun ar U => ar = #[(.ref a), (.int pi), (.int pv)] ∧ Z.Warmed39 U.vm ∧ U.heap = h0) (fun _ _ _ _ _ => True) (fun _ U o U' => ∃ v L, o = .returned v ∧ Q_rm2 Z a pi pv bo ko zn vs x h0 n0 v U'.heap L ∧ FrameEnd U o U' L ({ frames := 0, cells := 0, slots := 0, locals := 0 } : Room).cells ({ frames := 0, cells := 0, slots := 0, locals := 0 } : Room).slots) := by
  refine MetFree.of_bodySF (plainFor_of_name own_pn0) hisR ?_
  intro p e s m args below meth c s₁ Bd hml0 hP hK
  obtain ⟨rfl, hZ, hh⟩ := hP
  have hx := Bd.exec
  have hby := Bd.bytes
  have hlk : meth.locks = false := BodyLoose.notSynchronized Bd
  have hml : c.maxLocals = 3 := hml0
  have hown : s.vm.findClass "com/example/querygraft/querygraft/format/CompressedRows$Layout" = some m.cls := findClass_of_methodNamed Bd.named
  have hnm := (name_of_methodNamed Bd.named Bd.method).1
  have X0 : Stand p l e ({ frames := 0, cells := 0, slots := 0, locals := 0 } : Room) s m #[(.ref a), (.int pi), (.int pv)] below meth c s₁ [] 0 0 := Stand.of_body Bd
  have e0 : s₁.heap = h0 := by rw [← hh, Bd.state]; rfl
  have N0 := Fr.nil n0
  show own_Go p.tables e below (fun u o => ∃ v L, o = .returned v ∧ Q_rm2 Z a pi pv bo ko zn vs x h0 n0 v u.heap L ∧ FrameEnd s o u L ({ frames := 0, cells := 0, slots := 0, locals := 0 } : Room).cells ({ frames := 0, cells := 0, slots := 0, locals := 0 } : Room).slots) (s₁.setTop (entryFrame m #[(.ref a), (.int pi), (.int pv)] 3))
  refine own_up (fun _ k => castTop (ef_rm2 m a pi pv) k) ?_
  show own_Go p.tables e below _ (s₁.setTop (mkF m 0 #[.val (.ref a), .val (.int pi), .val (.int pv)] []))
  refine own_up (fun _ k => XS.aloadN X0.here hx rfl (hb hby d_prog_32_m_3_0) rfl rfl k) ?_
  show own_Go p.tables e below _ (s₁.setTop (mkF m 1 #[.val (.ref a), .val (.int pi), .val (.int pv)] [(.ref a)]))
  obtain ⟨T1, X1, e1, st1⟩ := getF X0 hx hZ hown (host := "") (Or.inl (hw _ (List.mem_of_getElem? (i := 10) rfl))) Via.refl e0 F (g := (mkF m 1 #[.val (.ref a), .val (.int pi), .val (.int pv)] [(.ref a)])) rfl rfl (hb hby d_prog_32_m_3_1)
  refine own_up st1 ?_
  show own_Go p.tables e below _ (T1.setTop (mkF m 4 #[.val (.ref a), .val (.int pi), .val (.int pv)] [(.ref bo)]))
  refine own_up (fun _ k => XS.iloadN X1.here hx rfl (hb hby d_prog_32_m_3_4) rfl k) ?_
  show own_Go p.tables e below _ (T1.setTop (mkF m 5 #[.val (.ref a), .val (.int pi), .val (.int pv)] [(.int pi), (.ref bo)]))
  refine own_up (fun _ k => XS.iconst X1.here hx rfl (hb hby d_prog_32_m_3_5) k) ?_
  show own_Go p.tables e below _ (T1.setTop (mkF m 6 #[.val (.ref a), .val (.int pi), .val (.int pv)] [(.int (1 : Int32)), (.int pi), (.ref bo)]))
  refine own_up (fun _ k => XS.iadd X1.here hx rfl (hb hby d_prog_32_m_3_6) rfl k) ?_
  show own_Go p.tables e below _ (T1.setTop (mkF m 7 #[.val (.ref a), .val (.int pi), .val (.int pv)] [(.int (pi + (1 : Int32))), (.ref bo)]))
  refine own_up (fun _ k => XT.dup2 X1.here hx rfl (hb hby d_prog_32_m_3_7) rfl rfl rfl k) ?_
  show own_Go p.tables e below _ (T1.setTop (mkF m 8 #[.val (.ref a), .val (.int pi), .val (.int pv)] [(.int (pi + (1 : Int32))), (.ref bo), (.int (pi + (1 : Int32))), (.ref bo)]))
  obtain ⟨cl2_, Ar2, q2, S2, M2, Hs2, G2⟩ := id (V)
  have hin3 : ¬ ((pi + (1 : Int32)) < 0 ∨ cl2_.slots.size ≤ ((pi + (1 : Int32))).toNatClampNeg) := inb_of S2 hj
  have hat3 : cl2_.slots[((pi + (1 : Int32))).toNatClampNeg]? = some (.int x) := Has.at Hs2 hin3 hx1
  refine own_up (fun _ k => X1.iaload hx (j := (pi + (1 : Int32))) (v := (.int x)) (by rw [e1]; exact Ar2.1) (State.isArrayOf_alike hZ.alike Ar2.2.1) Ar2.2.2 hin3 hat3 (g := (mkF m 8 #[.val (.ref a), .val (.int pi), .val (.int pv)] [(.int (pi + (1 : Int32))), (.ref bo), (.int (pi + (1 : Int32))), (.ref bo)])) rfl rfl (hb hby d_prog_32_m_3_8) _ k) ?_
  show own_Go p.tables e below _ (T1.setTop (mkF m 9 #[.val (.ref a), .val (.int pi), .val (.int pv)] [(.int x), (.int (pi + (1 : Int32))), (.ref bo)]))
  refine own_up (fun _ k => XS.iloadN X1.here hx rfl (hb hby d_prog_32_m_3_9) rfl k) ?_
  show own_Go p.tables e below _ (T1.setTop (mkF m 10 #[.val (.ref a), .val (.int pi), .val (.int pv)] [(.int pv), (.int x), (.int (pi + (1 : Int32))), (.ref bo)]))
  refine own_up (fun _ k => XS.iadd X1.here hx rfl (hb hby d_prog_32_m_3_10) rfl k) ?_
  show own_Go p.tables e below _ (T1.setTop (mkF m 11 #[.val (.ref a), .val (.int pi), .val (.int pv)] [(.int (x + pv)), (.int (pi + (1 : Int32))), (.ref bo)]))
  have hin4 : ¬ ((pi + (1 : Int32)) < 0 ∨ cl2_.slots.size ≤ ((pi + (1 : Int32))).toNatClampNeg) := inb_of S2 hj
  obtain ⟨T4, h4, X4, e4, W4, st4⟩ := stI X1 hx hZ e1 Ar2 (j := (pi + (1 : Int32))) hin4 (g := (mkF m 11 #[.val (.ref a), .val (.int pi), .val (.int pv)] [(.int (x + pv)), (.int (pi + (1 : Int32))), (.ref bo)])) rfl rfl (hb hby d_prog_32_m_3_11)
  have V4 : Arv Z h4 bo ko .int zn (vs.set (pi + (1 : Int32)).toNatClampNeg (.int (x + pv))) (.int (0 : Int32)) := Arv.set Ar2 q2 S2 M2 Hs2 G2 rfl W4 (pi + (1 : Int32)).toNatClampNeg rfl hl
  have N4 := Fr.snoc X4 N0 G
  refine own_up st4 ?_
  show own_Go p.tables e below _ (T4.setTop (mkF m 12 #[.val (.ref a), .val (.int pi), .val (.int pv)] []))
  exact own_end X4 hlk (v := none) (fun _ => rfl) (fun fs hr => X4.returnOut hx Bd.returns (hb hby d_prog_32_m_3_12) hr) e4 ⟨rfl, N4, ((Keep.refl h0 [bo]).wr W4 (Or.inl (List.mem_of_getElem? (i := 0) rfl))), V4⟩ (by decide) (by decide)
theorem d_prog_32_m_5_0 : decode prog_32_method_5_code 0 = .ok (.aload_n 0, 1) := by decide +kernel
theorem d_prog_32_m_5_1 : decode prog_32_method_5_code 1 = .ok (.getfield 7, 3) := by decide +kernel
theorem d_prog_32_m_5_4 : decode prog_32_method_5_code 4 = .ok (.iload_n 1, 1) := by decide +kernel
theorem d_prog_32_m_5_5 : decode prog_32_method_5_code 5 = .ok (.iaload, 1) := by decide +kernel
theorem d_prog_32_m_5_6 : decode prog_32_method_5_code 6 = .ok (.ireturn, 1) := by decide +kernel
theorem ef_rm3 (m : MethodId) (y0 : Addr) (y1 : Int32) : entryFrame m #[(.ref y0), (.int y1)] 2 = mkF m 0 #[.val (.ref y0), .val (.int y1)] [] := by first | (simp [entryFrame, mkF, argsToLocals, Value.category]; done) | rfl
def Q_rm3 (Z : State) (a : Addr) (pi : Int32) (bo : Addr) (ko : ClassId) (zn : Int32) (vs : List Value) (x : Int32) (h0 : Heap) (n0 : Nat) (v : Option Value) (h : Heap) (L : List Loc) : Prop := v = some (.int x) ∧ Fr n0 L ∧ h = h0
set_option maxRecDepth 65536 in
set_option maxHeartbeats 40000000 in
theorem rm3 (l : Launch) (Z : State) (a0 : Array Value) (hw : ∀ d ∈ tables_1, d.before a0 Z = true) (ws : List Jvm.Cond) (a : Addr) (pi : Int32) (bo : Addr) (ko : ClassId) (zn : Int32) (vs : List Value) (x : Int32) (h0 : Heap) (n0 : Nat) (Z0 : n0 ≤ h0.size) (F : Fld Z h0 a "com/example/querygraft/querygraft/format/CompressedRows$Layout" "offsets" "[I" (.ref bo)) (V : Arv Z h0 bo ko .int zn vs (.int (0 : Int32))) (hj : ¬ pi < 0 ∧ pi < zn) (hx1 : vs.getD pi.toNatClampNeg (.int (0 : Int32)) = .int x) :
    MetFree l (⟨"com/example/querygraft/querygraft/format/CompressedRows$Layout", "first", "(I)I"⟩ : MethodName) (head1 (Jvm.Cond.code (⟨"com/example/querygraft/querygraft/format/CompressedRows$Layout", "first", "(I)I"⟩ : MethodName) prog_32_method_5_code 2 (some .int) :: ws) ({ frames := 0, cells := 0, slots := 0, locals := 0 } : Room)) (fun ar U => ar = #[(.ref a), (.int pi)] ∧ Z.Warmed39 U.vm ∧ U.heap = h0) (fun _ _ _ _ _ => True) (fun _ U o U' => ∃ v L, o = .returned v ∧ Q_rm3 Z a pi bo ko zn vs x h0 n0 v U'.heap L ∧ FrameEnd U o U' L ({ frames := 0, cells := 0, slots := 0, locals := 0 } : Room).cells ({ frames := 0, cells := 0, slots := 0, locals := 0 } : Room).slots) := by
  refine MetFree.of_bodySF (plainFor_of_name own_pn0) hisR ?_
  intro p e s m args below meth c s₁ Bd hml0 hP hK
  obtain ⟨rfl, hZ, hh⟩ := hP
  have hx := Bd.exec
  have hby := Bd.bytes
  have hlk : meth.locks = false := BodyLoose.notSynchronized Bd
  have hml : c.maxLocals = 2 := hml0
  have hown : s.vm.findClass "com/example/querygraft/querygraft/format/CompressedRows$Layout" = some m.cls := findClass_of_methodNamed Bd.named
  have hnm := (name_of_methodNamed Bd.named Bd.method).1
  have X0 : Stand p l e ({ frames := 0, cells := 0, slots := 0, locals := 0 } : Room) s m #[(.ref a), (.int pi)] below meth c s₁ [] 0 0 := Stand.of_body Bd
  have e0 : s₁.heap = h0 := by rw [← hh, Bd.state]; rfl
  have N0 := Fr.nil n0
  show own_Go p.tables e below (fun u o => ∃ v L, o = .returned v ∧ Q_rm3 Z a pi bo ko zn vs x h0 n0 v u.heap L ∧ FrameEnd s o u L ({ frames := 0, cells := 0, slots := 0, locals := 0 } : Room).cells ({ frames := 0, cells := 0, slots := 0, locals := 0 } : Room).slots) (s₁.setTop (entryFrame m #[(.ref a), (.int pi)] 2))
  refine own_up (fun _ k => castTop (ef_rm3 m a pi) k) ?_
  show own_Go p.tables e below _ (s₁.setTop (mkF m 0 #[.val (.ref a), .val (.int pi)] []))
  refine own_up (fun _ k => XS.aloadN X0.here hx rfl (hb hby d_prog_32_m_5_0) rfl rfl k) ?_
  show own_Go p.tables e below _ (s₁.setTop (mkF m 1 #[.val (.ref a), .val (.int pi)] [(.ref a)]))
  obtain ⟨T1, X1, e1, st1⟩ := getF X0 hx hZ hown (host := "") (Or.inl (hw _ (List.mem_of_getElem? (i := 10) rfl))) Via.refl e0 F (g := (mkF m 1 #[.val (.ref a), .val (.int pi)] [(.ref a)])) rfl rfl (hb hby d_prog_32_m_5_1)
  refine own_up st1 ?_
  show own_Go p.tables e below _ (T1.setTop (mkF m 4 #[.val (.ref a), .val (.int pi)] [(.ref bo)]))
  refine own_up (fun _ k => XS.iloadN X1.here hx rfl (hb hby d_prog_32_m_5_4) rfl k) ?_
  show own_Go p.tables e below _ (T1.setTop (mkF m 5 #[.val (.ref a), .val (.int pi)] [(.int pi), (.ref bo)]))
  obtain ⟨cl2_, Ar2, q2, S2, M2, Hs2, G2⟩ := id (V)
  have hin3 : ¬ (pi < 0 ∨ cl2_.slots.size ≤ (pi).toNatClampNeg) := inb_of S2 hj
  have hat3 : cl2_.slots[(pi).toNatClampNeg]? = some (.int x) := Has.at Hs2 hin3 hx1
  refine own_up (fun _ k => X1.iaload hx (j := pi) (v := (.int x)) (by rw [e1]; exact Ar2.1) (State.isArrayOf_alike hZ.alike Ar2.2.1) Ar2.2.2 hin3 hat3 (g := (mkF m 5 #[.val (.ref a), .val (.int pi)] [(.int pi), (.ref bo)])) rfl rfl (hb hby d_prog_32_m_5_5) _ k) ?_
  show own_Go p.tables e below _ (T1.setTop (mkF m 6 #[.val (.ref a), .val (.int pi)] [(.int x)]))
  exact own_end X1 hlk (v := some (.int x)) (fun h => by rw [Bd.returns] at h; cases h) (fun fs hr => retOut X1 hx Bd.returns rfl (Or.inl ⟨rfl, Or.inl rfl, _, rfl⟩) (hb hby d_prog_32_m_5_6) hr) e1 ⟨rfl, N0, rfl⟩ (by decide) (by decide)
theorem d_prog_32_m_4_0 : decode prog_32_method_4_code 0 = .ok (.aload_n 0, 1) := by decide +kernel
theorem d_prog_32_m_4_1 : decode prog_32_method_4_code 1 = .ok (.getfield 7, 3) := by decide +kernel
theorem d_prog_32_m_4_4 : decode prog_32_method_4_code 4 = .ok (.arraylength, 1) := by decide +kernel
theorem d_prog_32_m_4_5 : decode prog_32_method_4_code 5 = .ok (.iconst 1, 1) := by decide +kernel
theorem d_prog_32_m_4_6 : decode prog_32_method_4_code 6 = .ok (.isub, 1) := by decide +kernel
theorem d_prog_32_m_4_7 : decode prog_32_method_4_code 7 = .ok (.istore_n 1, 1) := by decide +kernel
theorem d_prog_32_m_4_8 : decode prog_32_method_4_code 8 = .ok (.iconst 0, 1) := by decide +kernel
theorem d_prog_32_m_4_9 : decode prog_32_method_4_code 9 = .ok (.istore_n 2, 1) := by decide +kernel
theorem d_prog_32_m_4_10 : decode prog_32_method_4_code 10 = .ok (.iload_n 2, 1) := by decide +kernel
theorem d_prog_32_m_4_11 : decode prog_32_method_4_code 11 = .ok (.iload_n 1, 1) := by decide +kernel
theorem d_prog_32_m_4_12 : decode prog_32_method_4_code 12 = .ok (.if_icmp .ge 26, 3) := by decide +kernel
theorem d_prog_32_m_4_38 : decode prog_32_method_4_code 38 = .ok (.aload_n 0, 1) := by decide +kernel
theorem d_prog_32_m_4_39 : decode prog_32_method_4_code 39 = .ok (.getfield 7, 3) := by decide +kernel
theorem d_prog_32_m_4_42 : decode prog_32_method_4_code 42 = .ok (.iload_n 1, 1) := by decide +kernel
theorem d_prog_32_m_4_43 : decode prog_32_method_4_code 43 = .ok (.iaload, 1) := by decide +kernel
theorem d_prog_32_m_4_44 : decode prog_32_method_4_code 44 = .ok (.ireturn, 1) := by decide +kernel
theorem ef_rm4_0 (m : MethodId) (y0 : Addr) : entryFrame m #[(.ref y0)] 3 = mkF m 0 #[.val (.ref y0), .unset, .unset] [] := by first | (simp [entryFrame, mkF, argsToLocals, Value.category]; done) | rfl
def Q_rm4_0 (Z : State) (a : Addr) (bo : Addr) (ko : ClassId) (x0 : Int32) (h0 : Heap) (n0 : Nat) (v : Option Value) (h : Heap) (L : List Loc) : Prop := v = some (.int x0) ∧ Fr n0 L ∧ Keep h0 h [bo] ∧ Arv Z h bo ko .int (1 : Int32) [(.int x0)] (.int (0 : Int32))
set_option maxRecDepth 65536 in
set_option maxHeartbeats 40000000 in
theorem rm4_0 (l : Launch) (Z : State) (a0 : Array Value) (hw : ∀ d ∈ tables_1, d.before a0 Z = true) (ws : List Jvm.Cond) (a : Addr) (bo : Addr) (ko : ClassId) (x0 : Int32) (h0 : Heap) (n0 : Nat) (Z0 : n0 ≤ h0.size) (F : Fld Z h0 a "com/example/querygraft/querygraft/format/CompressedRows$Layout" "offsets" "[I" (.ref bo)) (V : Arv Z h0 bo ko .int (1 : Int32) [(.int x0)] (.int (0 : Int32))) (G : n0 ≤ bo) (Nab : a ≠ bo) :
    MetFree l (⟨"com/example/querygraft/querygraft/format/CompressedRows$Layout", "layOut", "()I"⟩ : MethodName) (head1 (Jvm.Cond.code (⟨"com/example/querygraft/querygraft/format/CompressedRows$Layout", "layOut", "()I"⟩ : MethodName) prog_32_method_4_code 3 (some .int) :: ws) ({ frames := 0, cells := 0, slots := 0, locals := 0 } : Room)) (fun ar U => ar = #[(.ref a)] ∧ Z.Warmed39 U.vm ∧ U.heap = h0) (fun _ _ _ _ _ => True) (fun _ U o U' => ∃ v L, o = .returned v ∧ Q_rm4_0 Z a bo ko x0 h0 n0 v U'.heap L ∧ FrameEnd U o U' L ({ frames := 0, cells := 0, slots := 0, locals := 0 } : Room).cells ({ frames := 0, cells := 0, slots := 0, locals := 0 } : Room).slots) := by
  refine MetFree.of_bodySF (plainFor_of_name own_pn0) hisR ?_
  intro p e s m args below meth c s₁ Bd hml0 hP hK
  obtain ⟨rfl, hZ, hh⟩ := hP
  have hx := Bd.exec
  have hby := Bd.bytes
  have hlk : meth.locks = false := BodyLoose.notSynchronized Bd
  have hml : c.maxLocals = 3 := hml0
  have hown : s.vm.findClass "com/example/querygraft/querygraft/format/CompressedRows$Layout" = some m.cls := findClass_of_methodNamed Bd.named
  have hnm := (name_of_methodNamed Bd.named Bd.method).1
  have X0 : Stand p l e ({ frames := 0, cells := 0, slots := 0, locals := 0 } : Room) s m #[(.ref a)] below meth c s₁ [] 0 0 := Stand.of_body Bd
  have e0 : s₁.heap = h0 := by rw [← hh, Bd.state]; rfl
  have N0 := Fr.nil n0
  show own_Go p.tables e below (fun u o => ∃ v L, o = .returned v ∧ Q_rm4_0 Z a bo ko x0 h0 n0 v u.heap L ∧ FrameEnd s o u L ({ frames := 0, cells := 0, slots := 0, locals := 0 } : Room).cells ({ frames := 0, cells := 0, slots := 0, locals := 0 } : Room).slots) (s₁.setTop (entryFrame m #[(.ref a)] 3))
  refine own_up (fun _ k => castTop (ef_rm4_0 m a) k) ?_
  show own_Go p.tables e below _ (s₁.setTop (mkF m 0 #[.val (.ref a), .unset, .unset] []))
  refine own_up (fun _ k => XS.aloadN X0.here hx rfl (hb hby d_prog_32_m_4_0) rfl rfl k) ?_
  show own_Go p.tables e below _ (s₁.setTop (mkF m 1 #[.val (.ref a), .unset, .unset] [(.ref a)]))
  obtain ⟨T1, X1, e1, st1⟩ := getF X0 hx hZ hown (host := "") (Or.inl (hw _ (List.mem_of_getElem? (i := 10) rfl))) Via.refl e0 F (g := (mkF m 1 #[.val (.ref a), .unset, .unset] [(.ref a)])) rfl rfl (hb hby d_prog_32_m_4_1)
  refine own_up st1 ?_
  show own_Go p.tables e below _ (T1.setTop (mkF m 4 #[.val (.ref a), .unset, .unset] [(.ref bo)]))
  obtain ⟨cl2_, Ar2, q2, S2, M2, Hs2, G2⟩ := id (V)
  refine own_up (fun _ k => X1.arraylength hx (by rw [e1]; exact Ar2.1) (State.isArrayOf_alike hZ.alike Ar2.2.1) (g := (mkF m 4 #[.val (.ref a), .unset, .unset] [(.ref bo)])) rfl rfl (hb hby d_prog_32_m_4_4) _ k) ?_
  rw [len_of S2 M2]
  show own_Go p.tables e below _ (T1.setTop (mkF m 5 #[.val (.ref a), .unset, .unset] [(.int (1 : Int32))]))
  refine own_up (fun _ k => XS.iconst X1.here hx rfl (hb hby d_prog_32_m_4_5) k) ?_
  show own_Go p.tables e below _ (T1.setTop (mkF m 6 #[.val (.ref a), .unset, .unset] [(.int (1 : Int32)), (.int (1 : Int32))]))
  refine own_up (fun _ k => XS.isub X1.here hx rfl (hb hby d_prog_32_m_4_6) rfl k) ?_
  show own_Go p.tables e below _ (T1.setTop (mkF m 7 #[.val (.ref a), .unset, .unset] [(.int (0 : Int32))]))
  refine own_up (fun _ k => XS.istoreN X1.here hx rfl (hb hby d_prog_32_m_4_7) rfl (l' := #[.val (.ref a), .val (.int (0 : Int32)), .unset]) rfl k) ?_
  show own_Go p.tables e below _ (T1.setTop (mkF m 8 #[.val (.ref a), .val (.int (0 : Int32)), .unset] []))
  refine own_up (fun _ k => XS.iconst X1.here hx rfl (hb hby d_prog_32_m_4_8) k) ?_
  show own_Go p.tables e below _ (T1.setTop (mkF m 9 #[.val (.ref a), .val (.int (0 : Int32)), .unset] [(.int (0 : Int32))]))
  refine own_up (fun _ k => XS.istoreN X1.here hx rfl (hb hby d_prog_32_m_4_9) rfl (l' := #[.val (.ref a), .val (.int (0 : Int32)), .val (.int (0 : Int32))]) rfl k) ?_
  show own_Go p.tables e below _ (T1.setTop (mkF m 10 #[.val (.ref a), .val (.int (0 : Int32)), .val (.int (0 : Int32))] []))
  refine own_up (fun _ k => XS.iloadN X1.here hx rfl (hb hby d_prog_32_m_4_10) rfl k) ?_
  show own_Go p.tables e below _ (T1.setTop (mkF m 11 #[.val (.ref a), .val (.int (0 : Int32)), .val (.int (0 : Int32))] [(.int (0 : Int32))]))
  refine own_up (fun _ k => XS.iloadN X1.here hx rfl (hb hby d_prog_32_m_4_11) rfl k) ?_
  show own_Go p.tables e below _ (T1.setTop (mkF m 12 #[.val (.ref a), .val (.int (0 : Int32)), .val (.int (0 : Int32))] [(.int (0 : Int32)), (.int (0 : Int32))]))
  refine own_up (fun _ k => XS.icmpYes X1.here hx rfl (pc0 := 12) (pc' := 38) rfl (hb hby d_prog_32_m_4_12) rfl (flt (by decide)).2.1 (by decide) (by decide) k) ?_
  show own_Go p.tables e below _ (T1.setTop (mkF m 38 #[.val (.ref a), .val (.int (0 : Int32)), .val (.int (0 : Int32))] []))
  refine own_up (fun _ k => XS.aloadN X1.here hx rfl (hb hby d_prog_32_m_4_38) rfl rfl k) ?_
  show own_Go p.tables e below _ (T1.setTop (mkF m 39 #[.val (.ref a), .val (.int (0 : Int32)), .val (.int (0 : Int32))] [(.ref a)]))
  obtain ⟨T3, X3, e3, st3⟩ := getF X1 hx hZ hown (host := "") (Or.inl (hw _ (List.mem_of_getElem? (i := 10) rfl))) Via.refl e1 F (g := (mkF m 39 #[.val (.ref a), .val (.int (0 : Int32)), .val (.int (0 : Int32))] [(.ref a)])) rfl rfl (hb hby d_prog_32_m_4_39)
  refine own_up st3 ?_
  show own_Go p.tables e below _ (T3.setTop (mkF m 42 #[.val (.ref a), .val (.int (0 : Int32)), .val (.int (0 : Int32))] [(.ref bo)]))
  refine own_up (fun _ k => XS.iloadN X3.here hx rfl (hb hby d_prog_32_m_4_42) rfl k) ?_
  show own_Go p.tables e below _ (T3.setTop (mkF m 43 #[.val (.ref a), .val (.int (0 : Int32)), .val (.int (0 : Int32))] [(.int (0 : Int32)), (.ref bo)]))
  have hin4 : ¬ ((0 : Int32) < 0 ∨ cl2_.slots.size ≤ ((0 : Int32)).toNatClampNeg) := inb_of S2 ⟨by decide, by decide⟩
  have hat4 : cl2_.slots[((0 : Int32)).toNatClampNeg]? = some (.int x0) := Has.at Hs2 hin4 rfl
  refine own_up (fun _ k => X3.iaload hx (j := (0 : Int32)) (v := (.int x0)) (by rw [e3]; exact Ar2.1) (State.isArrayOf_alike hZ.alike Ar2.2.1) Ar2.2.2 hin4 hat4 (g := (mkF m 43 #[.val (.ref a), .val (.int (0 : Int32)), .val (.int (0 : Int32))] [(.int (0 : Int32)), (.ref bo)])) rfl rfl (hb hby d_prog_32_m_4_43) _ k) ?_
  show own_Go p.tables e below _ (T3.setTop (mkF m 44 #[.val (.ref a), .val (.int (0 : Int32)), .val (.int (0 : Int32))] [(.int x0)]))
  exact own_end X3 hlk (v := some (.int x0)) (fun h => by rw [Bd.returns] at h; cases h) (fun fs hr => retOut X3 hx Bd.returns rfl (Or.inl ⟨rfl, Or.inl rfl, _, rfl⟩) (hb hby d_prog_32_m_4_44) hr) e3 ⟨rfl, N0, (Keep.refl h0 [bo]), V⟩ (by decide) (by decide)
theorem d_prog_32_m_4_15 : decode prog_32_method_4_code 15 = .ok (.aload_n 0, 1) := by decide +kernel
theorem d_prog_32_m_4_16 : decode prog_32_method_4_code 16 = .ok (.getfield 7, 3) := by decide +kernel
theorem d_prog_32_m_4_19 : decode prog_32_method_4_code 19 = .ok (.iload_n 2, 1) := by decide +kernel
theorem d_prog_32_m_4_20 : decode prog_32_method_4_code 20 = .ok (.iconst 1, 1) := by decide +kernel
theorem d_prog_32_m_4_21 : decode prog_32_method_4_code 21 = .ok (.iadd, 1) := by decide +kernel
theorem d_prog_32_m_4_22 : decode prog_32_method_4_code 22 = .ok (.dup2, 1) := by decide +kernel
theorem d_prog_32_m_4_23 : decode prog_32_method_4_code 23 = .ok (.iaload, 1) := by decide +kernel
theorem d_prog_32_m_4_24 : decode prog_32_method_4_code 24 = .ok (.aload_n 0, 1) := by decide +kernel
theorem d_prog_32_m_4_25 : decode prog_32_method_4_code 25 = .ok (.getfield 7, 3) := by decide +kernel
theorem d_prog_32_m_4_28 : decode prog_32_method_4_code 28 = .ok (.iload_n 2, 1) := by decide +kernel
theorem d_prog_32_m_4_29 : decode prog_32_method_4_code 29 = .ok (.iaload, 1) := by decide +kernel
theorem d_prog_32_m_4_30 : decode prog_32_method_4_code 30 = .ok (.iadd, 1) := by decide +kernel
theorem d_prog_32_m_4_31 : decode prog_32_method_4_code 31 = .ok (.iastore, 1) := by decide +kernel
theorem d_prog_32_m_4_32 : decode prog_32_method_4_code 32 = .ok (.iinc 2 1, 3) := by decide +kernel
theorem d_prog_32_m_4_35 : decode prog_32_method_4_code 35 = .ok (.goto (-25), 3) := by decide +kernel
theorem ef_rm4_1 (m : MethodId) (y0 : Addr) : entryFrame m #[(.ref y0)] 3 = mkF m 0 #[.val (.ref y0), .unset, .unset] [] := by first | (simp [entryFrame, mkF, argsToLocals, Value.category]; done) | rfl
def Q_rm4_1 (Z : State) (a : Addr) (bo : Addr) (ko : ClassId) (x0 : Int32) (x1 : Int32) (h0 : Heap) (n0 : Nat) (v : Option Value) (h : Heap) (L : List Loc) : Prop := v = some (.int (x1 + x0)) ∧ Fr n0 L ∧ Keep h0 h [bo] ∧ Arv Z h bo ko .int (2 : Int32) [(.int x0), (.int (x1 + x0))] (.int (0 : Int32))
set_option maxRecDepth 65536 in
set_option maxHeartbeats 40000000 in
theorem rm4_1 (l : Launch) (Z : State) (a0 : Array Value) (hw : ∀ d ∈ tables_1, d.before a0 Z = true) (ws : List Jvm.Cond) (a : Addr) (bo : Addr) (ko : ClassId) (x0 : Int32) (x1 : Int32) (h0 : Heap) (n0 : Nat) (Z0 : n0 ≤ h0.size) (F : Fld Z h0 a "com/example/querygraft/querygraft/format/CompressedRows$Layout" "offsets" "[I" (.ref bo)) (V : Arv Z h0 bo ko .int (2 : Int32) [(.int x0), (.int x1)] (.int (0 : Int32))) (G : n0 ≤ bo) (Nab : a ≠ bo) :
    MetFree l (⟨"com/example/querygraft/querygraft/format/CompressedRows$Layout", "layOut", "()I"⟩ : MethodName) (head1 (Jvm.Cond.code (⟨"com/example/querygraft/querygraft/format/CompressedRows$Layout", "layOut", "()I"⟩ : MethodName) prog_32_method_4_code 3 (some .int) :: ws) ({ frames := 0, cells := 0, slots := 0, locals := 0 } : Room)) (fun ar U => ar = #[(.ref a)] ∧ Z.Warmed39 U.vm ∧ U.heap = h0) (fun _ _ _ _ _ => True) (fun _ U o U' => ∃ v L, o = .returned v ∧ Q_rm4_1 Z a bo ko x0 x1 h0 n0 v U'.heap L ∧ FrameEnd U o U' L ({ frames := 0, cells := 0, slots := 0, locals := 0 } : Room).cells ({ frames := 0, cells := 0, slots := 0, locals := 0 } : Room).slots) := by
  refine MetFree.of_bodySF (plainFor_of_name own_pn0) hisR ?_
  intro p e s m args below meth c s₁ Bd hml0 hP hK
  obtain ⟨rfl, hZ, hh⟩ := hP
  have hx := Bd.exec
  have hby := Bd.bytes
  have hlk : meth.locks = false := BodyLoose.notSynchronized Bd
  have hml : c.maxLocals = 3 := hml0
  have hown : s.vm.findClass "com/example/querygraft/querygraft/format/CompressedRows$Layout" = some m.cls := findClass_of_methodNamed Bd.named
  have hnm := (name_of_methodNamed Bd.named Bd.method).1
  have X0 : Stand p l e ({ frames := 0, cells := 0, slots := 0, locals := 0 } : Room) s m #[(.ref a)] below meth c s₁ [] 0 0 := Stand.of_body Bd
  have e0 : s₁.heap = h0 := by rw [← hh, Bd.state]; rfl
  have N0 := Fr.nil n0
  show own_Go p.tables e below (fun u o => ∃ v L, o = .returned v ∧ Q_rm4_1 Z a bo ko x0 x1 h0 n0 v u.heap L ∧ FrameEnd s o u L ({ frames := 0, cells := 0, slots := 0, locals := 0 } : Room).cells ({ frames := 0, cells := 0, slots := 0, locals := 0 } : Room).slots) (s₁.setTop (entryFrame m #[(.ref a)] 3))
  refine own_up (fun _ k => castTop (ef_rm4_1 m a) k) ?_
  show own_Go p.tables e below _ (s₁.setTop (mkF m 0 #[.val (.ref a), .unset, .unset] []))
  refine own_up (fun _ k => XS.aloadN X0.here hx rfl (hb hby d_prog_32_m_4_0) rfl rfl k) ?_
  show own_Go p.tables e below _ (s₁.setTop (mkF m 1 #[.val (.ref a), .unset, .unset] [(.ref a)]))
  obtain ⟨T1, X1, e1, st1⟩ := getF X0 hx hZ hown (host := "") (Or.inl (hw _ (List.mem_of_getElem? (i := 10) rfl))) Via.refl e0 F (g := (mkF m 1 #[.val (.ref a), .unset, .unset] [(.ref a)])) rfl rfl (hb hby d_prog_32_m_4_1)
  refine own_up st1 ?_
  show own_Go p.tables e below _ (T1.setTop (mkF m 4 #[.val (.ref a), .unset, .unset] [(.ref bo)]))
  obtain ⟨cl2_, Ar2, q2, S2, M2, Hs2, G2⟩ := id (V)
  refine own_up (fun _ k => X1.arraylength hx (by rw [e1]; exact Ar2.1) (State.isArrayOf_alike hZ.alike Ar2.2.1) (g := (mkF m 4 #[.val (.ref a), .unset, .unset] [(.ref bo)])) rfl rfl (hb hby d_prog_32_m_4_4) _ k) ?_
  rw [len_of S2 M2]
  show own_Go p.tables e below _ (T1.setTop (mkF m 5 #[.val (.ref a), .unset, .unset] [(.int (2 : Int32))]))
  refine own_up (fun _ k => XS.iconst X1.here hx rfl (hb hby d_prog_32_m_4_5) k) ?_
  show own_Go p.tables e below _ (T1.setTop (mkF m 6 #[.val (.ref a), .unset, .unset] [(.int (1 : Int32)), (.int (2 : Int32))]))
  refine own_up (fun _ k => XS.isub X1.here hx rfl (hb hby d_prog_32_m_4_6) rfl k) ?_
  show own_Go p.tables e below _ (T1.setTop (mkF m 7 #[.val (.ref a), .unset, .unset] [(.int (1 : Int32))]))
  refine own_up (fun _ k => XS.istoreN X1.here hx rfl (hb hby d_prog_32_m_4_7) rfl (l' := #[.val (.ref a), .val (.int (1 : Int32)), .unset]) rfl k) ?_
  show own_Go p.tables e below _ (T1.setTop (mkF m 8 #[.val (.ref a), .val (.int (1 : Int32)), .unset] []))
  refine own_up (fun _ k => XS.iconst X1.here hx rfl (hb hby d_prog_32_m_4_8) k) ?_
  show own_Go p.tables e below _ (T1.setTop (mkF m 9 #[.val (.ref a), .val (.int (1 : Int32)), .unset] [(.int (0 : Int32))]))
  refine own_up (fun _ k => XS.istoreN X1.here hx rfl (hb hby d_prog_32_m_4_9) rfl (l' := #[.val (.ref a), .val (.int (1 : Int32)), .val (.int (0 : Int32))]) rfl k) ?_
  show own_Go p.tables e below _ (T1.setTop (mkF m 10 #[.val (.ref a), .val (.int (1 : Int32)), .val (.int (0 : Int32))] []))
  refine own_up (fun _ k => XS.iloadN X1.here hx rfl (hb hby d_prog_32_m_4_10) rfl k) ?_
  show own_Go p.tables e below _ (T1.setTop (mkF m 11 #[.val (.ref a), .val (.int (1 : Int32)), .val (.int (0 : Int32))] [(.int (0 : Int32))]))
  refine own_up (fun _ k => XS.iloadN X1.here hx rfl (hb hby d_prog_32_m_4_11) rfl k) ?_
  show own_Go p.tables e below _ (T1.setTop (mkF m 12 #[.val (.ref a), .val (.int (1 : Int32)), .val (.int (0 : Int32))] [(.int (1 : Int32)), (.int (0 : Int32))]))
  refine own_up (fun _ k => XS.icmpNo X1.here hx rfl (hb hby d_prog_32_m_4_12) rfl (tlt (by decide)).2.1 k) ?_
  show own_Go p.tables e below _ (T1.setTop (mkF m 15 #[.val (.ref a), .val (.int (1 : Int32)), .val (.int (0 : Int32))] []))
  refine own_up (fun _ k => XS.aloadN X1.here hx rfl (hb hby d_prog_32_m_4_15) rfl rfl k) ?_
  show own_Go p.tables e below _ (T1.setTop (mkF m 16 #[.val (.ref a), .val (.int (1 : Int32)), .val (.int (0 : Int32))] [(.ref a)]))
  obtain ⟨T3, X3, e3, st3⟩ := getF X1 hx hZ hown (host := "") (Or.inl (hw _ (List.mem_of_getElem? (i := 10) rfl))) Via.refl e1 F (g := (mkF m 16 #[.val (.ref a), .val (.int (1 : Int32)), .val (.int (0 : Int32))] [(.ref a)])) rfl rfl (hb hby d_prog_32_m_4_16)
  refine own_up st3 ?_
  show own_Go p.tables e below _ (T3.setTop (mkF m 19 #[.val (.ref a), .val (.int (1 : Int32)), .val (.int (0 : Int32))] [(.ref bo)]))
  refine own_up (fun _ k => XS.iloadN X3.here hx rfl (hb hby d_prog_32_m_4_19) rfl k) ?_
  show own_Go p.tables e below _ (T3.setTop (mkF m 20 #[.val (.ref a), .val (.int (1 : Int32)), .val (.int (0 : Int32))] [(.int (0 : Int32)), (.ref bo)]))
  refine own_up (fun _ k => XS.iconst X3.here hx rfl (hb hby d_prog_32_m_4_20) k) ?_
  show own_Go p.tables e below _ (T3.setTop (mkF m 21 #[.val (.ref a), .val (.int (1 : Int32)), .val (.int (0 : Int32))] [(.int (1 : Int32)), (.int (0 : Int32)), (.ref bo)]))
  refine own_up (fun _ k => XS.iadd X3.here hx rfl (hb hby d_prog_32_m_4_21) rfl k) ?_
  show own_Go p.tables e below _ (T3.setTop (mkF m 22 #[.val (.ref a), .val (.int (1 : Int32)), .val (.int (0 : Int32))] [(.int (1 : Int32)), (.ref bo)]))
  refine own_up (fun _ k => XT.dup2 X3.here hx rfl (hb hby d_prog_32_m_4_22) rfl rfl rfl k) ?_
  show own_Go p.tables e below _ (T3.setTop (mkF m 23 #[.val (.ref a), .val (.int (1 : Int32)), .val (.int (0 : Int32))] [(.int (1 : Int32)), (.ref bo), (.int (1 : Int32)), (.ref bo)]))
  have hin4 : ¬ ((1 : Int32) < 0 ∨ cl2_.slots.size ≤ ((1 : Int32)).toNatClampNeg) := inb_of S2 ⟨by decide, by decide⟩
  have hat4 : cl2_.slots[((1 : Int32)).toNatClampNeg]? = some (.int x1) := Has.at Hs2 hin4 rfl
  refine own_up (fun _ k => X3.iaload hx (j := (1 : Int32)) (v := (.int x1)) (by rw [e3]; exact Ar2.1) (State.isArrayOf_alike hZ.alike Ar2.2.1) Ar2.2.2 hin4 hat4 (g := (mkF m 23 #[.val (.ref a), .val (.int (1 : Int32)), .val (.int (0 : Int32))] [(.int (1 : Int32)), (.ref bo), (.int (1 : Int32)), (.ref bo)])) rfl rfl (hb hby d_prog_32_m_4_23) _ k) ?_
  show own_Go p.tables e below _ (T3.setTop (mkF m 24 #[.val (.ref a), .val (.int (1 : Int32)), .val (.int (0 : Int32))] [(.int x1), (.int (1 : Int32)), (.ref bo)]))
  refine own_up (fun _ k => XS.aloadN X3.here hx rfl (hb hby d_prog_32_m_4_24) rfl rfl k) ?_
  show own_Go p.tables e below _ (T3.setTop (mkF m 25 #[.val (.ref a), .val (.int (1 : Int32)), .val (.int (0 : Int32))] [(.ref a), (.int x1), (.int (1 : Int32)), (.ref bo)]))
  obtain ⟨T5, X5, e5, st5⟩ := getF X3 hx hZ hown (host := "") (Or.inl (hw _ (List.mem_of_getElem? (i := 10) rfl))) Via.refl e3 F (g := (mkF m 25 #[.val (.ref a), .val (.int (1 : Int32)), .val (.int (0 : Int32))] [(.ref a), (.int x1), (.int (1 : Int32)), (.ref bo)])) rfl rfl (hb hby d_prog_32_m_4_25)
  refine own_up st5 ?_
  show own_Go p.tables e below _ (T5.setTop (mkF m 28 #[.val (.ref a), .val (.int (1 : Int32)), .val (.int (0 : Int32))] [(.ref bo), (.int x1), (.int (1 : Int32)), (.ref bo)]))
  refine own_up (fun _ k => XS.iloadN X5.here hx rfl (hb hby d_prog_32_m_4_28) rfl k) ?_
  show own_Go p.tables e below _ (T5.setTop (mkF m 29 #[.val (.ref a), .val (.int (1 : Int32)), .val (.int (0 : Int32))] [(.int (0 : Int32)), (.ref bo), (.int x1), (.int (1 : Int32)), (.ref bo)]))
  have hin6 : ¬ ((0 : Int32) < 0 ∨ cl2_.slots.size ≤ ((0 : Int32)).toNatClampNeg) := inb_of S2 ⟨by decide, by decide⟩
  have hat6 : cl2_.slots[((0 : Int32)).toNatClampNeg]? = some (.int x0) := Has.at Hs2 hin6 rfl
  refine own_up (fun _ k => X5.iaload hx (j := (0 : Int32)) (v := (.int x0)) (by rw [e5]; exact Ar2.1) (State.isArrayOf_alike hZ.alike Ar2.2.1) Ar2.2.2 hin6 hat6 (g := (mkF m 29 #[.val (.ref a), .val (.int (1 : Int32)), .val (.int (0 : Int32))] [(.int (0 : Int32)), (.ref bo), (.int x1), (.int (1 : Int32)), (.ref bo)])) rfl rfl (hb hby d_prog_32_m_4_29) _ k) ?_
  show own_Go p.tables e below _ (T5.setTop (mkF m 30 #[.val (.ref a), .val (.int (1 : Int32)), .val (.int (0 : Int32))] [(.int x0), (.int x1), (.int (1 : Int32)), (.ref bo)]))
  refine own_up (fun _ k => XS.iadd X5.here hx rfl (hb hby d_prog_32_m_4_30) rfl k) ?_
  show own_Go p.tables e below _ (T5.setTop (mkF m 31 #[.val (.ref a), .val (.int (1 : Int32)), .val (.int (0 : Int32))] [(.int (x1 + x0)), (.int (1 : Int32)), (.ref bo)]))
  have hin7 : ¬ ((1 : Int32) < 0 ∨ cl2_.slots.size ≤ ((1 : Int32)).toNatClampNeg) := inb_of S2 ⟨by decide, by decide⟩
  obtain ⟨T7, h7, X7, e7, W7, st7⟩ := stI X5 hx hZ e5 Ar2 (j := (1 : Int32)) hin7 (g := (mkF m 31 #[.val (.ref a), .val (.int (1 : Int32)), .val (.int (0 : Int32))] [(.int (x1 + x0)), (.int (1 : Int32)), (.ref bo)])) rfl rfl (hb hby d_prog_32_m_4_31)
  have V7 : Arv Z h7 bo ko .int (2 : Int32) [(.int x0), (.int (x1 + x0))] (.int (0 : Int32)) := Arv.set Ar2 q2 S2 M2 Hs2 G2 rfl W7 1 rfl (Nat.le_of_ble_eq_true rfl)
  have N7 := Fr.snoc X7 N0 G
  refine own_up st7 ?_
  show own_Go p.tables e below _ (T7.setTop (mkF m 32 #[.val (.ref a), .val (.int (1 : Int32)), .val (.int (0 : Int32))] []))
  refine own_up (fun _ k => XS.iinc X7.here hx rfl (hb hby d_prog_32_m_4_32) rfl (l' := #[.val (.ref a), .val (.int (1 : Int32)), .val (.int (1 : Int32))]) rfl k) ?_
  show own_Go p.tables e below _ (T7.setTop (mkF m 35 #[.val (.ref a), .val (.int (1 : Int32)), .val (.int (1 : Int32))] []))
  refine own_up (fun _ k => XS.goto X7.here hx rfl (pc0 := 35) (pc' := 10) rfl (hb hby d_prog_32_m_4_35) (by decide) (by decide) k) ?_
  show own_Go p.tables e below _ (T7.setTop (mkF m 10 #[.val (.ref a), .val (.int (1 : Int32)), .val (.int (1 : Int32))] []))
  refine own_up (fun _ k => XS.iloadN X7.here hx rfl (hb hby d_prog_32_m_4_10) rfl k) ?_
  show own_Go p.tables e below _ (T7.setTop (mkF m 11 #[.val (.ref a), .val (.int (1 : Int32)), .val (.int (1 : Int32))] [(.int (1 : Int32))]))
  refine own_up (fun _ k => XS.iloadN X7.here hx rfl (hb hby d_prog_32_m_4_11) rfl k) ?_
  show own_Go p.tables e below _ (T7.setTop (mkF m 12 #[.val (.ref a), .val (.int (1 : Int32)), .val (.int (1 : Int32))] [(.int (1 : Int32)), (.int (1 : Int32))]))
  refine own_up (fun _ k => XS.icmpYes X7.here hx rfl (pc0 := 12) (pc' := 38) rfl (hb hby d_prog_32_m_4_12) rfl (flt (by decide)).2.1 (by decide) (by decide) k) ?_
  show own_Go p.tables e below _ (T7.setTop (mkF m 38 #[.val (.ref a), .val (.int (1 : Int32)), .val (.int (1 : Int32))] []))
  refine own_up (fun _ k => XS.aloadN X7.here hx rfl (hb hby d_prog_32_m_4_38) rfl rfl k) ?_
  show own_Go p.tables e below _ (T7.setTop (mkF m 39 #[.val (.ref a), .val (.int (1 : Int32)), .val (.int (1 : Int32))] [(.ref a)]))
  have f8 : Fld Z h7 a "com/example/querygraft/querygraft/format/CompressedRows$Layout" "offsets" "[I" (.ref bo) := (F.other W7 (Or.inl Nab))
  obtain ⟨T9, X9, e9, st9⟩ := getF X7 hx hZ hown (host := "") (Or.inl (hw _ (List.mem_of_getElem? (i := 10) rfl))) Via.refl e7 f8 (g := (mkF m 39 #[.val (.ref a), .val (.int (1 : Int32)), .val (.int (1 : Int32))] [(.ref a)])) rfl rfl (hb hby d_prog_32_m_4_39)
  refine own_up st9 ?_
  show own_Go p.tables e below _ (T9.setTop (mkF m 42 #[.val (.ref a), .val (.int (1 : Int32)), .val (.int (1 : Int32))] [(.ref bo)]))
  refine own_up (fun _ k => XS.iloadN X9.here hx rfl (hb hby d_prog_32_m_4_42) rfl k) ?_
  show own_Go p.tables e below _ (T9.setTop (mkF m 43 #[.val (.ref a), .val (.int (1 : Int32)), .val (.int (1 : Int32))] [(.int (1 : Int32)), (.ref bo)]))
  obtain ⟨cl10_, Ar10, q10, S10, M10, Hs10, G10⟩ := id (V7)
  have hin11 : ¬ ((1 : Int32) < 0 ∨ cl10_.slots.size ≤ ((1 : Int32)).toNatClampNeg) := inb_of S10 ⟨by decide, by decide⟩
  have hat11 : cl10_.slots[((1 : Int32)).toNatClampNeg]? = some (.int (x1 + x0)) := Has.at Hs10 hin11 rfl
  refine own_up (fun _ k => X9.iaload hx (j := (1 : Int32)) (v := (.int (x1 + x0))) (by rw [e9]; exact Ar10.1) (State.isArrayOf_alike hZ.alike Ar10.2.1) Ar10.2.2 hin11 hat11 (g := (mkF m 43 #[.val (.ref a), .val (.int (1 : Int32)), .val (.int (1 : Int32))] [(.int (1 : Int32)), (.ref bo)])) rfl rfl (hb hby d_prog_32_m_4_43) _ k) ?_
  show own_Go p.tables e below _ (T9.setTop (mkF m 44 #[.val (.ref a), .val (.int (1 : Int32)), .val (.int (1 : Int32))] [(.int (x1 + x0))]))
  exact own_end X9 hlk (v := some (.int (x1 + x0))) (fun h => by rw [Bd.returns] at h; cases h) (fun fs hr => retOut X9 hx Bd.returns rfl (Or.inl ⟨rfl, Or.inl rfl, _, rfl⟩) (hb hby d_prog_32_m_4_44) hr) e9 ⟨rfl, N7, ((Keep.refl h0 [bo]).wr W7 (Or.inl (List.mem_of_getElem? (i := 0) rfl))), V7⟩ (by decide) (by decide)
theorem ef_rm4_2 (m : MethodId) (y0 : Addr) : entryFrame m #[(.ref y0)] 3 = mkF m 0 #[.val (.ref y0), .unset, .unset] [] := by first | (simp [entryFrame, mkF, argsToLocals, Value.category]; done) | rfl
def Q_rm4_2 (Z : State) (a : Addr) (bo : Addr) (ko : ClassId) (x0 : Int32) (x1 : Int32) (x2 : Int32) (h0 : Heap) (n0 : Nat) (v : Option Value) (h : Heap) (L : List Loc) : Prop := v = some (.int (x2 + (x1 + x0))) ∧ Fr n0 L ∧ Keep h0 h [bo] ∧ Arv Z h bo ko .int (3 : Int32) [(.int x0), (.int (x1 + x0)), (.int (x2 + (x1 + x0)))] (.int (0 : Int32))
set_option maxRecDepth 65536 in
set_option maxHeartbeats 40000000 in
theorem rm4_2 (l : Launch) (Z : State) (a0 : Array Value) (hw : ∀ d ∈ tables_1, d.before a0 Z = true) (ws : List Jvm.Cond) (a : Addr) (bo : Addr) (ko : ClassId) (x0 : Int32) (x1 : Int32) (x2 : Int32) (h0 : Heap) (n0 : Nat) (Z0 : n0 ≤ h0.size) (F : Fld Z h0 a "com/example/querygraft/querygraft/format/CompressedRows$Layout" "offsets" "[I" (.ref bo)) (V : Arv Z h0 bo ko .int (3 : Int32) [(.int x0), (.int x1), (.int x2)] (.int (0 : Int32))) (G : n0 ≤ bo) (Nab : a ≠ bo) :
    MetFree l (⟨"com/example/querygraft/querygraft/format/CompressedRows$Layout", "layOut", "()I"⟩ : MethodName) (head1 (Jvm.Cond.code (⟨"com/example/querygraft/querygraft/format/CompressedRows$Layout", "layOut", "()I"⟩ : MethodName) prog_32_method_4_code 3 (some .int) :: ws) ({ frames := 0, cells := 0, slots := 0, locals := 0 } : Room)) (fun ar U => ar = #[(.ref a)] ∧ Z.Warmed39 U.vm ∧ U.heap = h0) (fun _ _ _ _ _ => True) (fun _ U o U' => ∃ v L, o = .returned v ∧ Q_rm4_2 Z a bo ko x0 x1 x2 h0 n0 v U'.heap L ∧ FrameEnd U o U' L ({ frames := 0, cells := 0, slots := 0, locals := 0 } : Room).cells ({ frames := 0, cells := 0, slots := 0, locals := 0 } : Room).slots) := by
  refine MetFree.of_bodySF (plainFor_of_name own_pn0) hisR ?_
  intro p e s m args below meth c s₁ Bd hml0 hP hK
  obtain ⟨rfl, hZ, hh⟩ := hP
  have hx := Bd.exec
  have hby := Bd.bytes
  have hlk : meth.locks = false := BodyLoose.notSynchronized Bd
  have hml : c.maxLocals = 3 := hml0
  have hown : s.vm.findClass "com/example/querygraft/querygraft/format/CompressedRows$Layout" = some m.cls := findClass_of_methodNamed Bd.named
  have hnm := (name_of_methodNamed Bd.named Bd.method).1
  have X0 : Stand p l e ({ frames := 0, cells := 0, slots := 0, locals := 0 } : Room) s m #[(.ref a)] below meth c s₁ [] 0 0 := Stand.of_body Bd
  have e0 : s₁.heap = h0 := by rw [← hh, Bd.state]; rfl
  have N0 := Fr.nil n0
  show own_Go p.tables e below (fun u o => ∃ v L, o = .returned v ∧ Q_rm4_2 Z a bo ko x0 x1 x2 h0 n0 v u.heap L ∧ FrameEnd s o u L ({ frames := 0, cells := 0, slots := 0, locals := 0 } : Room).cells ({ frames := 0, cells := 0, slots := 0, locals := 0 } : Room).slots) (s₁.setTop (entryFrame m #[(.ref a)] 3))
  refine own_up (fun _ k => castTop (ef_rm4_2 m a) k) ?_
  show own_Go p.tables e below _ (s₁.setTop (mkF m 0 #[.val (.ref a), .unset, .unset] []))
  refine own_up (fun _ k => XS.aloadN X0.here hx rfl (hb hby d_prog_32_m_4_0) rfl rfl k) ?_
  show own_Go p.tables e below _ (s₁.setTop (mkF m 1 #[.val (.ref a), .unset, .unset] [(.ref a)]))
  obtain ⟨T1, X1, e1, st1⟩ := getF X0 hx hZ hown (host := "") (Or.inl (hw _ (List.mem_of_getElem? (i := 10) rfl))) Via.refl e0 F (g := (mkF m 1 #[.val (.ref a), .unset, .unset] [(.ref a)])) rfl rfl (hb hby d_prog_32_m_4_1)
  refine own_up st1 ?_
  show own_Go p.tables e below _ (T1.setTop (mkF m 4 #[.val (.ref a), .unset, .unset] [(.ref bo)]))
  obtain ⟨cl2_, Ar2, q2, S2, M2, Hs2, G2⟩ := id (V)
  refine own_up (fun _ k => X1.arraylength hx (by rw [e1]; exact Ar2.1) (State.isArrayOf_alike hZ.alike Ar2.2.1) (g := (mkF m 4 #[.val (.ref a), .unset, .unset] [(.ref bo)])) rfl rfl (hb hby d_prog_32_m_4_4) _ k) ?_
  rw [len_of S2 M2]
  show own_Go p.tables e below _ (T1.setTop (mkF m 5 #[.val (.ref a), .unset, .unset] [(.int (3 : Int32))]))
  refine own_up (fun _ k => XS.iconst X1.here hx rfl (hb hby d_prog_32_m_4_5) k) ?_
  show own_Go p.tables e below _ (T1.setTop (mkF m 6 #[.val (.ref a), .unset, .unset] [(.int (1 : Int32)), (.int (3 : Int32))]))
  refine own_up (fun _ k => XS.isub X1.here hx rfl (hb hby d_prog_32_m_4_6) rfl k) ?_
  show own_Go p.tables e below _ (T1.setTop (mkF m 7 #[.val (.ref a), .unset, .unset] [(.int (2 : Int32))]))
  refine own_up (fun _ k => XS.istoreN X1.here hx rfl (hb hby d_prog_32_m_4_7) rfl (l' := #[.val (.ref a), .val (.int (2 : Int32)), .unset]) rfl k) ?_
  show own_Go p.tables e below _ (T1.setTop (mkF m 8 #[.val (.ref a), .val (.int (2 : Int32)), .unset] []))
  refine own_up (fun _ k => XS.iconst X1.here hx rfl (hb hby d_prog_32_m_4_8) k) ?_
  show own_Go p.tables e below _ (T1.setTop (mkF m 9 #[.val (.ref a), .val (.int (2 : Int32)), .unset] [(.int (0 : Int32))]))
  refine own_up (fun _ k => XS.istoreN X1.here hx rfl (hb hby d_prog_32_m_4_9) rfl (l' := #[.val (.ref a), .val (.int (2 : Int32)), .val (.int (0 : Int32))]) rfl k) ?_
  show own_Go p.tables e below _ (T1.setTop (mkF m 10 #[.val (.ref a), .val (.int (2 : Int32)), .val (.int (0 : Int32))] []))
  refine own_up (fun _ k => XS.iloadN X1.here hx rfl (hb hby d_prog_32_m_4_10) rfl k) ?_
  show own_Go p.tables e below _ (T1.setTop (mkF m 11 #[.val (.ref a), .val (.int (2 : Int32)), .val (.int (0 : Int32))] [(.int (0 : Int32))]))
  refine own_up (fun _ k => XS.iloadN X1.here hx rfl (hb hby d_prog_32_m_4_11) rfl k) ?_
  show own_Go p.tables e below _ (T1.setTop (mkF m 12 #[.val (.ref a), .val (.int (2 : Int32)), .val (.int (0 : Int32))] [(.int (2 : Int32)), (.int (0 : Int32))]))
  refine own_up (fun _ k => XS.icmpNo X1.here hx rfl (hb hby d_prog_32_m_4_12) rfl (tlt (by decide)).2.1 k) ?_
  show own_Go p.tables e below _ (T1.setTop (mkF m 15 #[.val (.ref a), .val (.int (2 : Int32)), .val (.int (0 : Int32))] []))
  refine own_up (fun _ k => XS.aloadN X1.here hx rfl (hb hby d_prog_32_m_4_15) rfl rfl k) ?_
  show own_Go p.tables e below _ (T1.setTop (mkF m 16 #[.val (.ref a), .val (.int (2 : Int32)), .val (.int (0 : Int32))] [(.ref a)]))
  obtain ⟨T3, X3, e3, st3⟩ := getF X1 hx hZ hown (host := "") (Or.inl (hw _ (List.mem_of_getElem? (i := 10) rfl))) Via.refl e1 F (g := (mkF m 16 #[.val (.ref a), .val (.int (2 : Int32)), .val (.int (0 : Int32))] [(.ref a)])) rfl rfl (hb hby d_prog_32_m_4_16)
  refine own_up st3 ?_
  show own_Go p.tables e below _ (T3.setTop (mkF m 19 #[.val (.ref a), .val (.int (2 : Int32)), .val (.int (0 : Int32))] [(.ref bo)]))
  refine own_up (fun _ k => XS.iloadN X3.here hx rfl (hb hby d_prog_32_m_4_19) rfl k) ?_
  show own_Go p.tables e below _ (T3.setTop (mkF m 20 #[.val (.ref a), .val (.int (2 : Int32)), .val (.int (0 : Int32))] [(.int (0 : Int32)), (.ref bo)]))
  refine own_up (fun _ k => XS.iconst X3.here hx rfl (hb hby d_prog_32_m_4_20) k) ?_
  show own_Go p.tables e below _ (T3.setTop (mkF m 21 #[.val (.ref a), .val (.int (2 : Int32)), .val (.int (0 : Int32))] [(.int (1 : Int32)), (.int (0 : Int32)), (.ref bo)]))
  refine own_up (fun _ k => XS.iadd X3.here hx rfl (hb hby d_prog_32_m_4_21) rfl k) ?_
  show own_Go p.tables e below _ (T3.setTop (mkF m 22 #[.val (.ref a), .val (.int (2 : Int32)), .val (.int (0 : Int32))] [(.int (1 : Int32)), (.ref bo)]))
  refine own_up (fun _ k => XT.dup2 X3.here hx rfl (hb hby d_prog_32_m_4_22) rfl rfl rfl k) ?_
  show own_Go p.tables e below _ (T3.setTop (mkF m 23 #[.val (.ref a), .val (.int (2 : Int32)), .val (.int (0 : Int32))] [(.int (1 : Int32)), (.ref bo), (.int (1 : Int32)), (.ref bo)]))
  have hin4 : ¬ ((1 : Int32) < 0 ∨ cl2_.slots.size ≤ ((1 : Int32)).toNatClampNeg) := inb_of S2 ⟨by decide, by decide⟩
  have hat4 : cl2_.slots[((1 : Int32)).toNatClampNeg]? = some (.int x1) := Has.at Hs2 hin4 rfl
  refine own_up (fun _ k => X3.iaload hx (j := (1 : Int32)) (v := (.int x1)) (by rw [e3]; exact Ar2.1) (State.isArrayOf_alike hZ.alike Ar2.2.1) Ar2.2.2 hin4 hat4 (g := (mkF m 23 #[.val (.ref a), .val (.int (2 : Int32)), .val (.int (0 : Int32))] [(.int (1 : Int32)), (.ref bo), (.int (1 : Int32)), (.ref bo)])) rfl rfl (hb hby d_prog_32_m_4_23) _ k) ?_
  show own_Go p.tables e below _ (T3.setTop (mkF m 24 #[.val (.ref a), .val (.int (2 : Int32)), .val (.int (0 : Int32))] [(.int x1), (.int (1 : Int32)), (.ref bo)]))
  refine own_up (fun _ k => XS.aloadN X3.here hx rfl (hb hby d_prog_32_m_4_24) rfl rfl k) ?_
  show own_Go p.tables e below _ (T3.setTop (mkF m 25 #[.val (.ref a), .val (.int (2 : Int32)), .val (.int (0 : Int32))] [(.ref a), (.int x1), (.int (1 : Int32)), (.ref bo)]))
  obtain ⟨T5, X5, e5, st5⟩ := getF X3 hx hZ hown (host := "") (Or.inl (hw _ (List.mem_of_getElem? (i := 10) rfl))) Via.refl e3 F (g := (mkF m 25 #[.val (.ref a), .val (.int (2 : Int32)), .val (.int (0 : Int32))] [(.ref a), (.int x1), (.int (1 : Int32)), (.ref bo)])) rfl rfl (hb hby d_prog_32_m_4_25)
  refine own_up st5 ?_
  show own_Go p.tables e below _ (T5.setTop (mkF m 28 #[.val (.ref a), .val (.int (2 : Int32)), .val (.int (0 : Int32))] [(.ref bo), (.int x1), (.int (1 : Int32)), (.ref bo)]))
  refine own_up (fun _ k => XS.iloadN X5.here hx rfl (hb hby d_prog_32_m_4_28) rfl k) ?_
  show own_Go p.tables e below _ (T5.setTop (mkF m 29 #[.val (.ref a), .val (.int (2 : Int32)), .val (.int (0 : Int32))] [(.int (0 : Int32)), (.ref bo), (.int x1), (.int (1 : Int32)), (.ref bo)]))
  have hin6 : ¬ ((0 : Int32) < 0 ∨ cl2_.slots.size ≤ ((0 : Int32)).toNatClampNeg) := inb_of S2 ⟨by decide, by decide⟩
  have hat6 : cl2_.slots[((0 : Int32)).toNatClampNeg]? = some (.int x0) := Has.at Hs2 hin6 rfl
  refine own_up (fun _ k => X5.iaload hx (j := (0 : Int32)) (v := (.int x0)) (by rw [e5]; exact Ar2.1) (State.isArrayOf_alike hZ.alike Ar2.2.1) Ar2.2.2 hin6 hat6 (g := (mkF m 29 #[.val (.ref a), .val (.int (2 : Int32)), .val (.int (0 : Int32))] [(.int (0 : Int32)), (.ref bo), (.int x1), (.int (1 : Int32)), (.ref bo)])) rfl rfl (hb hby d_prog_32_m_4_29) _ k) ?_
  show own_Go p.tables e below _ (T5.setTop (mkF m 30 #[.val (.ref a), .val (.int (2 : Int32)), .val (.int (0 : Int32))] [(.int x0), (.int x1), (.int (1 : Int32)), (.ref bo)]))
  refine own_up (fun _ k => XS.iadd X5.here hx rfl (hb hby d_prog_32_m_4_30) rfl k) ?_
  show own_Go p.tables e below _ (T5.setTop (mkF m 31 #[.val (.ref a), .val (.int (2 : Int32)), .val (.int (0 : Int32))] [(.int (x1 + x0)), (.int (1 : Int32)), (.ref bo)]))
  have hin7 : ¬ ((1 : Int32) < 0 ∨ cl2_.slots.size ≤ ((1 : Int32)).toNatClampNeg) := inb_of S2 ⟨by decide, by decide⟩
  obtain ⟨T7, h7, X7, e7, W7, st7⟩ := stI X5 hx hZ e5 Ar2 (j := (1 : Int32)) hin7 (g := (mkF m 31 #[.val (.ref a), .val (.int (2 : Int32)), .val (.int (0 : Int32))] [(.int (x1 + x0)), (.int (1 : Int32)), (.ref bo)])) rfl rfl (hb hby d_prog_32_m_4_31)
  have V7 : Arv Z h7 bo ko .int (3 : Int32) [(.int x0), (.int (x1 + x0)), (.int x2)] (.int (0 : Int32)) := Arv.set Ar2 q2 S2 M2 Hs2 G2 rfl W7 1 rfl (Nat.le_of_ble_eq_true rfl)
  have N7 := Fr.snoc X7 N0 G
  refine own_up st7 ?_
  show own_Go p.tables e below _ (T7.setTop (mkF m 32 #[.val (.ref a), .val (.int (2 : Int32)), .val (.int (0 : Int32))] []))
  refine own_up (fun _ k => XS.iinc X7.here hx rfl (hb hby d_prog_32_m_4_32) rfl (l' := #[.val (.ref a), .val (.int (2 : Int32)), .val (.int (1 : Int32))]) rfl k) ?_
  show own_Go p.tables e below _ (T7.setTop (mkF m 35 #[.val (.ref a), .val (.int (2 : Int32)), .val (.int (1 : Int32))] []))
  refine own_up (fun _ k => XS.goto X7.here hx rfl (pc0 := 35) (pc' := 10) rfl (hb hby d_prog_32_m_4_35) (by decide) (by decide) k) ?_
  show own_Go p.tables e below _ (T7.setTop (mkF m 10 #[.val (.ref a), .val (.int (2 : Int32)), .val (.int (1 : Int32))] []))
  refine own_up (fun _ k => XS.iloadN X7.here hx rfl (hb hby d_prog_32_m_4_10) rfl k) ?_
  show own_Go p.tables e below _ (T7.setTop (mkF m 11 #[.val (.ref a), .val (.int (2 : Int32)), .val (.int (1 : Int32))] [(.int (1 : Int32))]))
  refine own_up (fun _ k => XS.iloadN X7.here hx rfl (hb hby d_prog_32_m_4_11) rfl k) ?_
  show own_Go p.tables e below _ (T7.setTop (mkF m 12 #[.val (.ref a), .val (.int (2 : Int32)), .val (.int (1 : Int32))] [(.int (2 : Int32)), (.int (1 : Int32))]))
  refine own_up (fun _ k => XS.icmpNo X7.here hx rfl (hb hby d_prog_32_m_4_12) rfl (tlt (by decide)).2.1 k) ?_
  show own_Go p.tables e below _ (T7.setTop (mkF m 15 #[.val (.ref a), .val (.int (2 : Int32)), .val (.int (1 : Int32))] []))
  refine own_up (fun _ k => XS.aloadN X7.here hx rfl (hb hby d_prog_32_m_4_15) rfl rfl k) ?_
  show own_Go p.tables e below _ (T7.setTop (mkF m 16 #[.val (.ref a), .val (.int (2 : Int32)), .val (.int (1 : Int32))] [(.ref a)]))
  have f8 : Fld Z h7 a "com/example/querygraft/querygraft/format/CompressedRows$Layout" "offsets" "[I" (.ref bo) := (F.other W7 (Or.inl Nab))
  obtain ⟨T9, X9, e9, st9⟩ := getF X7 hx hZ hown (host := "") (Or.inl (hw _ (List.mem_of_getElem? (i := 10) rfl))) Via.refl e7 f8 (g := (mkF m 16 #[.val (.ref a), .val (.int (2 : Int32)), .val (.int (1 : Int32))] [(.ref a)])) rfl rfl (hb hby d_prog_32_m_4_16)
  refine own_up st9 ?_
  show own_Go p.tables e below _ (T9.setTop (mkF m 19 #[.val (.ref a), .val (.int (2 : Int32)), .val (.int (1 : Int32))] [(.ref bo)]))
  refine own_up (fun _ k => XS.iloadN X9.here hx rfl (hb hby d_prog_32_m_4_19) rfl k) ?_
  show own_Go p.tables e below _ (T9.setTop (mkF m 20 #[.val (.ref a), .val (.int (2 : Int32)), .val (.int (1 : Int32))] [(.int (1 : Int32)), (.ref bo)]))
  refine own_up (fun _ k => XS.iconst X9.here hx rfl (hb hby d_prog_32_m_4_20) k) ?_
  show own_Go p.tables e below _ (T9.setTop (mkF m 21 #[.val (.ref a), .val (.int (2 : Int32)), .val (.int (1 : Int32))] [(.int (1 : Int32)), (.int (1 : Int32)), (.ref bo)]))
  refine own_up (fun _ k => XS.iadd X9.here hx rfl (hb hby d_prog_32_m_4_21) rfl k) ?_
  show own_Go p.tables e below _ (T9.setTop (mkF m 22 #[.val (.ref a), .val (.int (2 : Int32)), .val (.int (1 : Int32))] [(.int (2 : Int32)), (.ref bo)]))
  refine own_up (fun _ k => XT.dup2 X9.here hx rfl (hb hby d_prog_32_m_4_22) rfl rfl rfl k) ?_
  show own_Go p.tables e below _ (T9.setTop (mkF m 23 #[.val (.ref a), .val (.int (2 : Int32)), .val (.int (1 : Int32))] [(.int (2 : Int32)), (.ref bo), (.int (2 : Int32)), (.ref bo)]))
  obtain ⟨cl10_, Ar10, q10, S10, M10, Hs10, G10⟩ := id (V7)
  have hin11 : ¬ ((2 : Int32) < 0 ∨ cl10_.slots.size ≤ ((2 : Int32)).toNatClampNeg) := inb_of S10 ⟨by decide, by decide⟩
  have hat11 : cl10_.slots[((2 : Int32)).toNatClampNeg]? = some (.int x2) := Has.at Hs10 hin11 rfl
  refine own_up (fun _ k => X9.iaload hx (j := (2 : Int32)) (v := (.int x2)) (by rw [e9]; exact Ar10.1) (State.isArrayOf_alike hZ.alike Ar10.2.1) Ar10.2.2 hin11 hat11 (g := (mkF m 23 #[.val (.ref a), .val (.int (2 : Int32)), .val (.int (1 : Int32))] [(.int (2 : Int32)), (.ref bo), (.int (2 : Int32)), (.ref bo)])) rfl rfl (hb hby d_prog_32_m_4_23) _ k) ?_
  show own_Go p.tables e below _ (T9.setTop (mkF m 24 #[.val (.ref a), .val (.int (2 : Int32)), .val (.int (1 : Int32))] [(.int x2), (.int (2 : Int32)), (.ref bo)]))
  refine own_up (fun _ k => XS.aloadN X9.here hx rfl (hb hby d_prog_32_m_4_24) rfl rfl k) ?_
  show own_Go p.tables e below _ (T9.setTop (mkF m 25 #[.val (.ref a), .val (.int (2 : Int32)), .val (.int (1 : Int32))] [(.ref a), (.int x2), (.int (2 : Int32)), (.ref bo)]))
  obtain ⟨T12, X12, e12, st12⟩ := getF X9 hx hZ hown (host := "") (Or.inl (hw _ (List.mem_of_getElem? (i := 10) rfl))) Via.refl e9 f8 (g := (mkF m 25 #[.val (.ref a), .val (.int (2 : Int32)), .val (.int (1 : Int32))] [(.ref a), (.int x2), (.int (2 : Int32)), (.ref bo)])) rfl rfl (hb hby d_prog_32_m_4_25)
  refine own_up st12 ?_
  show own_Go p.tables e below _ (T12.setTop (mkF m 28 #[.val (.ref a), .val (.int (2 : Int32)), .val (.int (1 : Int32))] [(.ref bo), (.int x2), (.int (2 : Int32)), (.ref bo)]))
  refine own_up (fun _ k => XS.iloadN X12.here hx rfl (hb hby d_prog_32_m_4_28) rfl k) ?_
  show own_Go p.tables e below _ (T12.setTop (mkF m 29 #[.val (.ref a), .val (.int (2 : Int32)), .val (.int (1 : Int32))] [(.int (1 : Int32)), (.ref bo), (.int x2), (.int (2 : Int32)), (.ref bo)]))
  have hin13 : ¬ ((1 : Int32) < 0 ∨ cl10_.slots.size ≤ ((1 : Int32)).toNatClampNeg) := inb_of S10 ⟨by decide, by decide⟩
  have hat13 : cl10_.slots[((1 : Int32)).toNatClampNeg]? = some (.int (x1 + x0)) := Has.at Hs10 hin13 rfl
  refine own_up (fun _ k => X12.iaload hx (j := (1 : Int32)) (v := (.int (x1 + x0))) (by rw [e12]; exact Ar10.1) (State.isArrayOf_alike hZ.alike Ar10.2.1) Ar10.2.2 hin13 hat13 (g := (mkF m 29 #[.val (.ref a), .val (.int (2 : Int32)), .val (.int (1 : Int32))] [(.int (1 : Int32)), (.ref bo), (.int x2), (.int (2 : Int32)), (.ref bo)])) rfl rfl (hb hby d_prog_32_m_4_29) _ k) ?_
  show own_Go p.tables e below _ (T12.setTop (mkF m 30 #[.val (.ref a), .val (.int (2 : Int32)), .val (.int (1 : Int32))] [(.int (x1 + x0)), (.int x2), (.int (2 : Int32)), (.ref bo)]))
  refine own_up (fun _ k => XS.iadd X12.here hx rfl (hb hby d_prog_32_m_4_30) rfl k) ?_
  show own_Go p.tables e below _ (T12.setTop (mkF m 31 #[.val (.ref a), .val (.int (2 : Int32)), .val (.int (1 : Int32))] [(.int (x2 + (x1 + x0))), (.int (2 : Int32)), (.ref bo)]))
  have hin14 : ¬ ((2 : Int32) < 0 ∨ cl10_.slots.size ≤ ((2 : Int32)).toNatClampNeg) := inb_of S10 ⟨by decide, by decide⟩
  obtain ⟨T14, h14, X14, e14, W14, st14⟩ := stI X12 hx hZ e12 Ar10 (j := (2 : Int32)) hin14 (g := (mkF m 31 #[.val (.ref a), .val (.int (2 : Int32)), .val (.int (1 : Int32))] [(.int (x2 + (x1 + x0))), (.int (2 : Int32)), (.ref bo)])) rfl rfl (hb hby d_prog_32_m_4_31)
  have V14 : Arv Z h14 bo ko .int (3 : Int32) [(.int x0), (.int (x1 + x0)), (.int (x2 + (x1 + x0)))] (.int (0 : Int32)) := Arv.set Ar10 q10 S10 M10 Hs10 G10 rfl W14 2 rfl (Nat.le_of_ble_eq_true rfl)
  have N14 := Fr.snoc X14 N7 G
  refine own_up st14 ?_
  show own_Go p.tables e below _ (T14.setTop (mkF m 32 #[.val (.ref a), .val (.int (2 : Int32)), .val (.int (1 : Int32))] []))
  refine own_up (fun _ k => XS.iinc X14.here hx rfl (hb hby d_prog_32_m_4_32) rfl (l' := #[.val (.ref a), .val (.int (2 : Int32)), .val (.int (2 : Int32))]) rfl k) ?_
  show own_Go p.tables e below _ (T14.setTop (mkF m 35 #[.val (.ref a), .val (.int (2 : Int32)), .val (.int (2 : Int32))] []))
  refine own_up (fun _ k => XS.goto X14.here hx rfl (pc0 := 35) (pc' := 10) rfl (hb hby d_prog_32_m_4_35) (by decide) (by decide) k) ?_
  show own_Go p.tables e below _ (T14.setTop (mkF m 10 #[.val (.ref a), .val (.int (2 : Int32)), .val (.int (2 : Int32))] []))
  refine own_up (fun _ k => XS.iloadN X14.here hx rfl (hb hby d_prog_32_m_4_10) rfl k) ?_
  show own_Go p.tables e below _ (T14.setTop (mkF m 11 #[.val (.ref a), .val (.int (2 : Int32)), .val (.int (2 : Int32))] [(.int (2 : Int32))]))
  refine own_up (fun _ k => XS.iloadN X14.here hx rfl (hb hby d_prog_32_m_4_11) rfl k) ?_
  show own_Go p.tables e below _ (T14.setTop (mkF m 12 #[.val (.ref a), .val (.int (2 : Int32)), .val (.int (2 : Int32))] [(.int (2 : Int32)), (.int (2 : Int32))]))
  refine own_up (fun _ k => XS.icmpYes X14.here hx rfl (pc0 := 12) (pc' := 38) rfl (hb hby d_prog_32_m_4_12) rfl (flt (by decide)).2.1 (by decide) (by decide) k) ?_
  show own_Go p.tables e below _ (T14.setTop (mkF m 38 #[.val (.ref a), .val (.int (2 : Int32)), .val (.int (2 : Int32))] []))
  refine own_up (fun _ k => XS.aloadN X14.here hx rfl (hb hby d_prog_32_m_4_38) rfl rfl k) ?_
  show own_Go p.tables e below _ (T14.setTop (mkF m 39 #[.val (.ref a), .val (.int (2 : Int32)), .val (.int (2 : Int32))] [(.ref a)]))
  have f15 : Fld Z h14 a "com/example/querygraft/querygraft/format/CompressedRows$Layout" "offsets" "[I" (.ref bo) := (f8.other W14 (Or.inl Nab))
  obtain ⟨T16, X16, e16, st16⟩ := getF X14 hx hZ hown (host := "") (Or.inl (hw _ (List.mem_of_getElem? (i := 10) rfl))) Via.refl e14 f15 (g := (mkF m 39 #[.val (.ref a), .val (.int (2 : Int32)), .val (.int (2 : Int32))] [(.ref a)])) rfl rfl (hb hby d_prog_32_m_4_39)
  refine own_up st16 ?_
  show own_Go p.tables e below _ (T16.setTop (mkF m 42 #[.val (.ref a), .val (.int (2 : Int32)), .val (.int (2 : Int32))] [(.ref bo)]))
  refine own_up (fun _ k => XS.iloadN X16.here hx rfl (hb hby d_prog_32_m_4_42) rfl k) ?_
  show own_Go p.tables e below _ (T16.setTop (mkF m 43 #[.val (.ref a), .val (.int (2 : Int32)), .val (.int (2 : Int32))] [(.int (2 : Int32)), (.ref bo)]))
  obtain ⟨cl17_, Ar17, q17, S17, M17, Hs17, G17⟩ := id (V14)
  have hin18 : ¬ ((2 : Int32) < 0 ∨ cl17_.slots.size ≤ ((2 : Int32)).toNatClampNeg) := inb_of S17 ⟨by decide, by decide⟩
  have hat18 : cl17_.slots[((2 : Int32)).toNatClampNeg]? = some (.int (x2 + (x1 + x0))) := Has.at Hs17 hin18 rfl
  refine own_up (fun _ k => X16.iaload hx (j := (2 : Int32)) (v := (.int (x2 + (x1 + x0)))) (by rw [e16]; exact Ar17.1) (State.isArrayOf_alike hZ.alike Ar17.2.1) Ar17.2.2 hin18 hat18 (g := (mkF m 43 #[.val (.ref a), .val (.int (2 : Int32)), .val (.int (2 : Int32))] [(.int (2 : Int32)), (.ref bo)])) rfl rfl (hb hby d_prog_32_m_4_43) _ k) ?_
  show own_Go p.tables e below _ (T16.setTop (mkF m 44 #[.val (.ref a), .val (.int (2 : Int32)), .val (.int (2 : Int32))] [(.int (x2 + (x1 + x0)))]))
  exact own_end X16 hlk (v := some (.int (x2 + (x1 + x0)))) (fun h => by rw [Bd.returns] at h; cases h) (fun fs hr => retOut X16 hx Bd.returns rfl (Or.inl ⟨rfl, Or.inl rfl, _, rfl⟩) (hb hby d_prog_32_m_4_44) hr) e16 ⟨rfl, N14, (((Keep.refl h0 [bo]).wr W7 (Or.inl (List.mem_of_getElem? (i := 0) rfl))).wr W14 (Or.inl (List.mem_of_getElem? (i := 0) rfl))), V14⟩ (by decide) (by decide)
theorem ef_rm4_3 (m : MethodId) (y0 : Addr) : entryFrame m #[(.ref y0)] 3 = mkF m 0 #[.val (.ref y0), .unset, .unset] [] := by first | (simp [entryFrame, mkF, argsToLocals, Value.category]; done) | rfl
def Q_rm4_3 (Z : State) (a : Addr) (bo : Addr) (ko : ClassId) (x0 : Int32) (x1 : Int32) (x2 : Int32) (x3 : Int32) (h0 : Heap) (n0 : Nat) (v : Option Value) (h : Heap) (L : List Loc) : Prop := v = some (.int (x3 + (x2 + (x1 + x0)))) ∧ Fr n0 L ∧ Keep h0 h [bo] ∧ Arv Z h bo ko .int (4 : Int32) [(.int x0), (.int (x1 + x0)), (.int (x2 + (x1 + x0))), (.int (x3 + (x2 + (x1 + x0))))] (.int (0 : Int32))
set_option maxRecDepth 65536 in
set_option maxHeartbeats 40000000 in
theorem rm4_3 (l : Launch) (Z : State) (a0 : Array Value) (hw : ∀ d ∈ tables_1, d.before a0 Z = true) (ws : List Jvm.Cond) (a : Addr) (bo : Addr) (ko : ClassId) (x0 : Int32) (x1 : Int32) (x2 : Int32) (x3 : Int32) (h0 : Heap) (n0 : Nat) (Z0 : n0 ≤ h0.size) (F : Fld Z h0 a "com/example/querygraft/querygraft/format/CompressedRows$Layout" "offsets" "[I" (.ref bo)) (V : Arv Z h0 bo ko .int (4 : Int32) [(.int x0), (.int x1), (.int x2), (.int x3)] (.int (0 : Int32))) (G : n0 ≤ bo) (Nab : a ≠ bo) :
    MetFree l (⟨"com/example/querygraft/querygraft/format/CompressedRows$Layout", "layOut", "()I"⟩ : MethodName) (head1 (Jvm.Cond.code (⟨"com/example/querygraft/querygraft/format/CompressedRows$Layout", "layOut", "()I"⟩ : MethodName) prog_32_method_4_code 3 (some .int) :: ws) ({ frames := 0, cells := 0, slots := 0, locals := 0 } : Room)) (fun ar U => ar = #[(.ref a)] ∧ Z.Warmed39 U.vm ∧ U.heap = h0) (fun _ _ _ _ _ => True) (fun _ U o U' => ∃ v L, o = .returned v ∧ Q_rm4_3 Z a bo ko x0 x1 x2 x3 h0 n0 v U'.heap L ∧ FrameEnd U o U' L ({ frames := 0, cells := 0, slots := 0, locals := 0 } : Room).cells ({ frames := 0, cells := 0, slots := 0, locals := 0 } : Room).slots) := by
  refine MetFree.of_bodySF (plainFor_of_name own_pn0) hisR ?_
  intro p e s m args below meth c s₁ Bd hml0 hP hK
  obtain ⟨rfl, hZ, hh⟩ := hP
  have hx := Bd.exec
  have hby := Bd.bytes
  have hlk : meth.locks = false := BodyLoose.notSynchronized Bd
  have hml : c.maxLocals = 3 := hml0
  have hown : s.vm.findClass "com/example/querygraft/querygraft/format/CompressedRows$Layout" = some m.cls := findClass_of_methodNamed Bd.named
  have hnm := (name_of_methodNamed Bd.named Bd.method).1
  have X0 : Stand p l e ({ frames := 0, cells := 0, slots := 0, locals := 0 } : Room) s m #[(.ref a)] below meth c s₁ [] 0 0 := Stand.of_body Bd
  have e0 : s₁.heap = h0 := by rw [← hh, Bd.state]; rfl
  have N0 := Fr.nil n0
  show own_Go p.tables e below (fun u o => ∃ v L, o = .returned v ∧ Q_rm4_3 Z a bo ko x0 x1 x2 x3 h0 n0 v u.heap L ∧ FrameEnd s o u L ({ frames := 0, cells := 0, slots := 0, locals := 0 } : Room).cells ({ frames := 0, cells := 0, slots := 0, locals := 0 } : Room).slots) (s₁.setTop (entryFrame m #[(.ref a)] 3))
  refine own_up (fun _ k => castTop (ef_rm4_3 m a) k) ?_
  show own_Go p.tables e below _ (s₁.setTop (mkF m 0 #[.val (.ref a), .unset, .unset] []))
  refine own_up (fun _ k => XS.aloadN X0.here hx rfl (hb hby d_prog_32_m_4_0) rfl rfl k) ?_
  show own_Go p.tables e below _ (s₁.setTop (mkF m 1 #[.val (.ref a), .unset, .unset] [(.ref a)]))
  obtain ⟨T1, X1, e1, st1⟩ := getF X0 hx hZ hown (host := "") (Or.inl (hw _ (List.mem_of_getElem? (i := 10) rfl))) Via.refl e0 F (g := (mkF m 1 #[.val (.ref a), .unset, .unset] [(.ref a)])) rfl rfl (hb hby d_prog_32_m_4_1)
  refine own_up st1 ?_
  show own_Go p.tables e below _ (T1.setTop (mkF m 4 #[.val (.ref a), .unset, .unset] [(.ref bo)]))
  obtain ⟨cl2_, Ar2, q2, S2, M2, Hs2, G2⟩ := id (V)
  refine own_up (fun _ k => X1.arraylength hx (by rw [e1]; exact Ar2.1) (State.isArrayOf_alike hZ.alike Ar2.2.1) (g := (mkF m 4 #[.val (.ref a), .unset, .unset] [(.ref bo)])) rfl rfl (hb hby d_prog_32_m_4_4) _ k) ?_
  rw [len_of S2 M2]
  show own_Go p.tables e below _ (T1.setTop (mkF m 5 #[.val (.ref a), .unset, .unset] [(.int (4 : Int32))]))
  refine own_up (fun _ k => XS.iconst X1.here hx rfl (hb hby d_prog_32_m_4_5) k) ?_
  show own_Go p.tables e below _ (T1.setTop (mkF m 6 #[.val (.ref a), .unset, .unset] [(.int (1 : Int32)), (.int (4 : Int32))]))
  refine own_up (fun _ k => XS.isub X1.here hx rfl (hb hby d_prog_32_m_4_6) rfl k) ?_
  show own_Go p.tables e below _ (T1.setTop (mkF m 7 #[.val (.ref a), .unset, .unset] [(.int (3 : Int32))]))
  refine own_up (fun _ k => XS.istoreN X1.here hx rfl (hb hby d_prog_32_m_4_7) rfl (l' := #[.val (.ref a), .val (.int (3 : Int32)), .unset]) rfl k) ?_
  show own_Go p.tables e below _ (T1.setTop (mkF m 8 #[.val (.ref a), .val (.int (3 : Int32)), .unset] []))
  refine own_up (fun _ k => XS.iconst X1.here hx rfl (hb hby d_prog_32_m_4_8) k) ?_
  show own_Go p.tables e below _ (T1.setTop (mkF m 9 #[.val (.ref a), .val (.int (3 : Int32)), .unset] [(.int (0 : Int32))]))
  refine own_up (fun _ k => XS.istoreN X1.here hx rfl (hb hby d_prog_32_m_4_9) rfl (l' := #[.val (.ref a), .val (.int (3 : Int32)), .val (.int (0 : Int32))]) rfl k) ?_
  show own_Go p.tables e below _ (T1.setTop (mkF m 10 #[.val (.ref a), .val (.int (3 : Int32)), .val (.int (0 : Int32))] []))
  refine own_up (fun _ k => XS.iloadN X1.here hx rfl (hb hby d_prog_32_m_4_10) rfl k) ?_
  show own_Go p.tables e below _ (T1.setTop (mkF m 11 #[.val (.ref a), .val (.int (3 : Int32)), .val (.int (0 : Int32))] [(.int (0 : Int32))]))
  refine own_up (fun _ k => XS.iloadN X1.here hx rfl (hb hby d_prog_32_m_4_11) rfl k) ?_
  show own_Go p.tables e below _ (T1.setTop (mkF m 12 #[.val (.ref a), .val (.int (3 : Int32)), .val (.int (0 : Int32))] [(.int (3 : Int32)), (.int (0 : Int32))]))
  refine own_up (fun _ k => XS.icmpNo X1.here hx rfl (hb hby d_prog_32_m_4_12) rfl (tlt (by decide)).2.1 k) ?_
  show own_Go p.tables e below _ (T1.setTop (mkF m 15 #[.val (.ref a), .val (.int (3 : Int32)), .val (.int (0 : Int32))] []))
  refine own_up (fun _ k => XS.aloadN X1.here hx rfl (hb hby d_prog_32_m_4_15) rfl rfl k) ?_
  show own_Go p.tables e below _ (T1.setTop (mkF m 16 #[.val (.ref a), .val (.int (3 : Int32)), .val (.int (0 : Int32))] [(.ref a)]))
  obtain ⟨T3, X3, e3, st3⟩ := getF X1 hx hZ hown (host := "") (Or.inl (hw _ (List.mem_of_getElem? (i := 10) rfl))) Via.refl e1 F (g := (mkF m 16 #[.val (.ref a), .val (.int (3 : Int32)), .val (.int (0 : Int32))] [(.ref a)])) rfl rfl (hb hby d_prog_32_m_4_16)
  refine own_up st3 ?_
  show own_Go p.tables e below _ (T3.setTop (mkF m 19 #[.val (.ref a), .val (.int (3 : Int32)), .val (.int (0 : Int32))] [(.ref bo)]))
  refine own_up (fun _ k => XS.iloadN X3.here hx rfl (hb hby d_prog_32_m_4_19) rfl k) ?_
  show own_Go p.tables e below _ (T3.setTop (mkF m 20 #[.val (.ref a), .val (.int (3 : Int32)), .val (.int (0 : Int32))] [(.int (0 : Int32)), (.ref bo)]))
  refine own_up (fun _ k => XS.iconst X3.here hx rfl (hb hby d_prog_32_m_4_20) k) ?_
  show own_Go p.tables e below _ (T3.setTop (mkF m 21 #[.val (.ref a), .val (.int (3 : Int32)), .val (.int (0 : Int32))] [(.int (1 : Int32)), (.int (0 : Int32)), (.ref bo)]))
  refine own_up (fun _ k => XS.iadd X3.here hx rfl (hb hby d_prog_32_m_4_21) rfl k) ?_
  show own_Go p.tables e below _ (T3.setTop (mkF m 22 #[.val (.ref a), .val (.int (3 : Int32)), .val (.int (0 : Int32))] [(.int (1 : Int32)), (.ref bo)]))
  refine own_up (fun _ k => XT.dup2 X3.here hx rfl (hb hby d_prog_32_m_4_22) rfl rfl rfl k) ?_
  show own_Go p.tables e below _ (T3.setTop (mkF m 23 #[.val (.ref a), .val (.int (3 : Int32)), .val (.int (0 : Int32))] [(.int (1 : Int32)), (.ref bo), (.int (1 : Int32)), (.ref bo)]))
  have hin4 : ¬ ((1 : Int32) < 0 ∨ cl2_.slots.size ≤ ((1 : Int32)).toNatClampNeg) := inb_of S2 ⟨by decide, by decide⟩
  have hat4 : cl2_.slots[((1 : Int32)).toNatClampNeg]? = some (.int x1) := Has.at Hs2 hin4 rfl
  refine own_up (fun _ k => X3.iaload hx (j := (1 : Int32)) (v := (.int x1)) (by rw [e3]; exact Ar2.1) (State.isArrayOf_alike hZ.alike Ar2.2.1) Ar2.2.2 hin4 hat4 (g := (mkF m 23 #[.val (.ref a), .val (.int (3 : Int32)), .val (.int (0 : Int32))] [(.int (1 : Int32)), (.ref bo), (.int (1 : Int32)), (.ref bo)])) rfl rfl (hb hby d_prog_32_m_4_23) _ k) ?_
  show own_Go p.tables e below _ (T3.setTop (mkF m 24 #[.val (.ref a), .val (.int (3 : Int32)), .val (.int (0 : Int32))] [(.int x1), (.int (1 : Int32)), (.ref bo)]))
  refine own_up (fun _ k => XS.aloadN X3.here hx rfl (hb hby d_prog_32_m_4_24) rfl rfl k) ?_
  show own_Go p.tables e below _ (T3.setTop (mkF m 25 #[.val (.ref a), .val (.int (3 : Int32)), .val (.int (0 : Int32))] [(.ref a), (.int x1), (.int (1 : Int32)), (.ref bo)]))
  obtain ⟨T5, X5, e5, st5⟩ := getF X3 hx hZ hown (host := "") (Or.inl (hw _ (List.mem_of_getElem? (i := 10) rfl))) Via.refl e3 F (g := (mkF m 25 #[.val (.ref a), .val (.int (3 : Int32)), .val (.int (0 : Int32))] [(.ref a), (.int x1), (.int (1 : Int32)), (.ref bo)])) rfl rfl (hb hby d_prog_32_m_4_25)
  refine own_up st5 ?_
  show own_Go p.tables e below _ (T5.setTop (mkF m 28 #[.val (.ref a), .val (.int (3 : Int32)), .val (.int (0 : Int32))] [(.ref bo), (.int x1), (.int (1 : Int32)), (.ref bo)]))
  refine own_up (fun _ k => XS.iloadN X5.here hx rfl (hb hby d_prog_32_m_4_28) rfl k) ?_
  show own_Go p.tables e below _ (T5.setTop (mkF m 29 #[.val (.ref a), .val (.int (3 : Int32)), .val (.int (0 : Int32))] [(.int (0 : Int32)), (.ref bo), (.int x1), (.int (1 : Int32)), (.ref bo)]))
  have hin6 : ¬ ((0 : Int32) < 0 ∨ cl2_.slots.size ≤ ((0 : Int32)).toNatClampNeg) := inb_of S2 ⟨by decide, by decide⟩
  have hat6 : cl2_.slots[((0 : Int32)).toNatClampNeg]? = some (.int x0) := Has.at Hs2 hin6 rfl
  refine own_up (fun _ k => X5.iaload hx (j := (0 : Int32)) (v := (.int x0)) (by rw [e5]; exact Ar2.1) (State.isArrayOf_alike hZ.alike Ar2.2.1) Ar2.2.2 hin6 hat6 (g := (mkF m 29 #[.val (.ref a), .val (.int (3 : Int32)), .val (.int (0 : Int32))] [(.int (0 : Int32)), (.ref bo), (.int x1), (.int (1 : Int32)), (.ref bo)])) rfl rfl (hb hby d_prog_32_m_4_29) _ k) ?_
  show own_Go p.tables e below _ (T5.setTop (mkF m 30 #[.val (.ref a), .val (.int (3 : Int32)), .val (.int (0 : Int32))] [(.int x0), (.int x1), (.int (1 : Int32)), (.ref bo)]))
  refine own_up (fun _ k => XS.iadd X5.here hx rfl (hb hby d_prog_32_m_4_30) rfl k) ?_
  show own_Go p.tables e below _ (T5.setTop (mkF m 31 #[.val (.ref a), .val (.int (3 : Int32)), .val (.int (0 : Int32))] [(.int (x1 + x0)), (.int (1 : Int32)), (.ref bo)]))
  have hin7 : ¬ ((1 : Int32) < 0 ∨ cl2_.slots.size ≤ ((1 : Int32)).toNatClampNeg) := inb_of S2 ⟨by decide, by decide⟩
  obtain ⟨T7, h7, X7, e7, W7, st7⟩ := stI X5 hx hZ e5 Ar2 (j := (1 : Int32)) hin7 (g := (mkF m 31 #[.val (.ref a), .val (.int (3 : Int32)), .val (.int (0 : Int32))] [(.int (x1 + x0)), (.int (1 : Int32)), (.ref bo)])) rfl rfl (hb hby d_prog_32_m_4_31)
  have V7 : Arv Z h7 bo ko .int (4 : Int32) [(.int x0), (.int (x1 + x0)), (.int x2), (.int x3)] (.int (0 : Int32)) := Arv.set Ar2 q2 S2 M2 Hs2 G2 rfl W7 1 rfl (Nat.le_of_ble_eq_true rfl)
  have N7 := Fr.snoc X7 N0 G
  refine own_up st7 ?_
  show own_Go p.tables e below _ (T7.setTop (mkF m 32 #[.val (.ref a), .val (.int (3 : Int32)), .val (.int (0 : Int32))] []))
  refine own_up (fun _ k => XS.iinc X7.here hx rfl (hb hby d_prog_32_m_4_32) rfl (l' := #[.val (.ref a), .val (.int (3 : Int32)), .val (.int (1 : Int32))]) rfl k) ?_
  show own_Go p.tables e below _ (T7.setTop (mkF m 35 #[.val (.ref a), .val (.int (3 : Int32)), .val (.int (1 : Int32))] []))
  refine own_up (fun _ k => XS.goto X7.here hx rfl (pc0 := 35) (pc' := 10) rfl (hb hby d_prog_32_m_4_35) (by decide) (by decide) k) ?_
  show own_Go p.tables e below _ (T7.setTop (mkF m 10 #[.val (.ref a), .val (.int (3 : Int32)), .val (.int (1 : Int32))] []))
  refine own_up (fun _ k => XS.iloadN X7.here hx rfl (hb hby d_prog_32_m_4_10) rfl k) ?_
  show own_Go p.tables e below _ (T7.setTop (mkF m 11 #[.val (.ref a), .val (.int (3 : Int32)), .val (.int (1 : Int32))] [(.int (1 : Int32))]))
  refine own_up (fun _ k => XS.iloadN X7.here hx rfl (hb hby d_prog_32_m_4_11) rfl k) ?_
  show own_Go p.tables e below _ (T7.setTop (mkF m 12 #[.val (.ref a), .val (.int (3 : Int32)), .val (.int (1 : Int32))] [(.int (3 : Int32)), (.int (1 : Int32))]))
  refine own_up (fun _ k => XS.icmpNo X7.here hx rfl (hb hby d_prog_32_m_4_12) rfl (tlt (by decide)).2.1 k) ?_
  show own_Go p.tables e below _ (T7.setTop (mkF m 15 #[.val (.ref a), .val (.int (3 : Int32)), .val (.int (1 : Int32))] []))
  refine own_up (fun _ k => XS.aloadN X7.here hx rfl (hb hby d_prog_32_m_4_15) rfl rfl k) ?_
  show own_Go p.tables e below _ (T7.setTop (mkF m 16 #[.val (.ref a), .val (.int (3 : Int32)), .val (.int (1 : Int32))] [(.ref a)]))
  have f8 : Fld Z h7 a "com/example/querygraft/querygraft/format/CompressedRows$Layout" "offsets" "[I" (.ref bo) := (F.other W7 (Or.inl Nab))
  obtain ⟨T9, X9, e9, st9⟩ := getF X7 hx hZ hown (host := "") (Or.inl (hw _ (List.mem_of_getElem? (i := 10) rfl))) Via.refl e7 f8 (g := (mkF m 16 #[.val (.ref a), .val (.int (3 : Int32)), .val (.int (1 : Int32))] [(.ref a)])) rfl rfl (hb hby d_prog_32_m_4_16)
  refine own_up st9 ?_
  show own_Go p.tables e below _ (T9.setTop (mkF m 19 #[.val (.ref a), .val (.int (3 : Int32)), .val (.int (1 : Int32))] [(.ref bo)]))
  refine own_up (fun _ k => XS.iloadN X9.here hx rfl (hb hby d_prog_32_m_4_19) rfl k) ?_
  show own_Go p.tables e below _ (T9.setTop (mkF m 20 #[.val (.ref a), .val (.int (3 : Int32)), .val (.int (1 : Int32))] [(.int (1 : Int32)), (.ref bo)]))
  refine own_up (fun _ k => XS.iconst X9.here hx rfl (hb hby d_prog_32_m_4_20) k) ?_
  show own_Go p.tables e below _ (T9.setTop (mkF m 21 #[.val (.ref a), .val (.int (3 : Int32)), .val (.int (1 : Int32))] [(.int (1 : Int32)), (.int (1 : Int32)), (.ref bo)]))
  refine own_up (fun _ k => XS.iadd X9.here hx rfl (hb hby d_prog_32_m_4_21) rfl k) ?_
  show own_Go p.tables e below _ (T9.setTop (mkF m 22 #[.val (.ref a), .val (.int (3 : Int32)), .val (.int (1 : Int32))] [(.int (2 : Int32)), (.ref bo)]))
  refine own_up (fun _ k => XT.dup2 X9.here hx rfl (hb hby d_prog_32_m_4_22) rfl rfl rfl k) ?_
  show own_Go p.tables e below _ (T9.setTop (mkF m 23 #[.val (.ref a), .val (.int (3 : Int32)), .val (.int (1 : Int32))] [(.int (2 : Int32)), (.ref bo), (.int (2 : Int32)), (.ref bo)]))
  obtain ⟨cl10_, Ar10, q10, S10, M10, Hs10, G10⟩ := id (V7)
  have hin11 : ¬ ((2 : Int32) < 0 ∨ cl10_.slots.size ≤ ((2 : Int32)).toNatClampNeg) := inb_of S10 ⟨by decide, by decide⟩
  have hat11 : cl10_.slots[((2 : Int32)).toNatClampNeg]? = some (.int x2) := Has.at Hs10 hin11 rfl
  refine own_up (fun _ k => X9.iaload hx (j := (2 : Int32)) (v := (.int x2)) (by rw [e9]; exact Ar10.1) (State.isArrayOf_alike hZ.alike Ar10.2.1) Ar10.2.2 hin11 hat11 (g := (mkF m 23 #[.val (.ref a), .val (.int (3 : Int32)), .val (.int (1 : Int32))] [(.int (2 : Int32)), (.ref bo), (.int (2 : Int32)), (.ref bo)])) rfl rfl (hb hby d_prog_32_m_4_23) _ k) ?_
  show own_Go p.tables e below _ (T9.setTop (mkF m 24 #[.val (.ref a), .val (.int (3 : Int32)), .val (.int (1 : Int32))] [(.int x2), (.int (2 : Int32)), (.ref bo)]))
  refine own_up (fun _ k => XS.aloadN X9.here hx rfl (hb hby d_prog_32_m_4_24) rfl rfl k) ?_
  show own_Go p.tables e below _ (T9.setTop (mkF m 25 #[.val (.ref a), .val (.int (3 : Int32)), .val (.int (1 : Int32))] [(.ref a), (.int x2), (.int (2 : Int32)), (.ref bo)]))
  obtain ⟨T12, X12, e12, st12⟩ := getF X9 hx hZ hown (host := "") (Or.inl (hw _ (List.mem_of_getElem? (i := 10) rfl))) Via.refl e9 f8 (g := (mkF m 25 #[.val (.ref a), .val (.int (3 : Int32)), .val (.int (1 : Int32))] [(.ref a), (.int x2), (.int (2 : Int32)), (.ref bo)])) rfl rfl (hb hby d_prog_32_m_4_25)
  refine own_up st12 ?_
  show own_Go p.tables e below _ (T12.setTop (mkF m 28 #[.val (.ref a), .val (.int (3 : Int32)), .val (.int (1 : Int32))] [(.ref bo), (.int x2), (.int (2 : Int32)), (.ref bo)]))
  refine own_up (fun _ k => XS.iloadN X12.here hx rfl (hb hby d_prog_32_m_4_28) rfl k) ?_
  show own_Go p.tables e below _ (T12.setTop (mkF m 29 #[.val (.ref a), .val (.int (3 : Int32)), .val (.int (1 : Int32))] [(.int (1 : Int32)), (.ref bo), (.int x2), (.int (2 : Int32)), (.ref bo)]))
  have hin13 : ¬ ((1 : Int32) < 0 ∨ cl10_.slots.size ≤ ((1 : Int32)).toNatClampNeg) := inb_of S10 ⟨by decide, by decide⟩
  have hat13 : cl10_.slots[((1 : Int32)).toNatClampNeg]? = some (.int (x1 + x0)) := Has.at Hs10 hin13 rfl
  refine own_up (fun _ k => X12.iaload hx (j := (1 : Int32)) (v := (.int (x1 + x0))) (by rw [e12]; exact Ar10.1) (State.isArrayOf_alike hZ.alike Ar10.2.1) Ar10.2.2 hin13 hat13 (g := (mkF m 29 #[.val (.ref a), .val (.int (3 : Int32)), .val (.int (1 : Int32))] [(.int (1 : Int32)), (.ref bo), (.int x2), (.int (2 : Int32)), (.ref bo)])) rfl rfl (hb hby d_prog_32_m_4_29) _ k) ?_
  show own_Go p.tables e below _ (T12.setTop (mkF m 30 #[.val (.ref a), .val (.int (3 : Int32)), .val (.int (1 : Int32))] [(.int (x1 + x0)), (.int x2), (.int (2 : Int32)), (.ref bo)]))
  refine own_up (fun _ k => XS.iadd X12.here hx rfl (hb hby d_prog_32_m_4_30) rfl k) ?_
  show own_Go p.tables e below _ (T12.setTop (mkF m 31 #[.val (.ref a), .val (.int (3 : Int32)), .val (.int (1 : Int32))] [(.int (x2 + (x1 + x0))), (.int (2 : Int32)), (.ref bo)]))
  have hin14 : ¬ ((2 : Int32) < 0 ∨ cl10_.slots.size ≤ ((2 : Int32)).toNatClampNeg) := inb_of S10 ⟨by decide, by decide⟩
  obtain ⟨T14, h14, X14, e14, W14, st14⟩ := stI X12 hx hZ e12 Ar10 (j := (2 : Int32)) hin14 (g := (mkF m 31 #[.val (.ref a), .val (.int (3 : Int32)), .val (.int (1 : Int32))] [(.int (x2 + (x1 + x0))), (.int (2 : Int32)), (.ref bo)])) rfl rfl (hb hby d_prog_32_m_4_31)
  have V14 : Arv Z h14 bo ko .int (4 : Int32) [(.int x0), (.int (x1 + x0)), (.int (x2 + (x1 + x0))), (.int x3)] (.int (0 : Int32)) := Arv.set Ar10 q10 S10 M10 Hs10 G10 rfl W14 2 rfl (Nat.le_of_ble_eq_true rfl)
  have N14 := Fr.snoc X14 N7 G
  refine own_up st14 ?_
  show own_Go p.tables e below _ (T14.setTop (mkF m 32 #[.val (.ref a), .val (.int (3 : Int32)), .val (.int (1 : Int32))] []))
  refine own_up (fun _ k => XS.iinc X14.here hx rfl (hb hby d_prog_32_m_4_32) rfl (l' := #[.val (.ref a), .val (.int (3 : Int32)), .val (.int (2 : Int32))]) rfl k) ?_
  show own_Go p.tables e below _ (T14.setTop (mkF m 35 #[.val (.ref a), .val (.int (3 : Int32)), .val (.int (2 : Int32))] []))
  refine own_up (fun _ k => XS.goto X14.here hx rfl (pc0 := 35) (pc' := 10) rfl (hb hby d_prog_32_m_4_35) (by decide) (by decide) k) ?_
  show own_Go p.tables e below _ (T14.setTop (mkF m 10 #[.val (.ref a), .val (.int (3 : Int32)), .val (.int (2 : Int32))] []))
  refine own_up (fun _ k => XS.iloadN X14.here hx rfl (hb hby d_prog_32_m_4_10) rfl k) ?_
  show own_Go p.tables e below _ (T14.setTop (mkF m 11 #[.val (.ref a), .val (.int (3 : Int32)), .val (.int (2 : Int32))] [(.int (2 : Int32))]))
  refine own_up (fun _ k => XS.iloadN X14.here hx rfl (hb hby d_prog_32_m_4_11) rfl k) ?_
  show own_Go p.tables e below _ (T14.setTop (mkF m 12 #[.val (.ref a), .val (.int (3 : Int32)), .val (.int (2 : Int32))] [(.int (3 : Int32)), (.int (2 : Int32))]))
  refine own_up (fun _ k => XS.icmpNo X14.here hx rfl (hb hby d_prog_32_m_4_12) rfl (tlt (by decide)).2.1 k) ?_
  show own_Go p.tables e below _ (T14.setTop (mkF m 15 #[.val (.ref a), .val (.int (3 : Int32)), .val (.int (2 : Int32))] []))
  refine own_up (fun _ k => XS.aloadN X14.here hx rfl (hb hby d_prog_32_m_4_15) rfl rfl k) ?_
  show own_Go p.tables e below _ (T14.setTop (mkF m 16 #[.val (.ref a), .val (.int (3 : Int32)), .val (.int (2 : Int32))] [(.ref a)]))
  have f15 : Fld Z h14 a "com/example/querygraft/querygraft/format/CompressedRows$Layout" "offsets" "[I" (.ref bo) := (f8.other W14 (Or.inl Nab))
  obtain ⟨T16, X16, e16, st16⟩ := getF X14 hx hZ hown (host := "") (Or.inl (hw _ (List.mem_of_getElem? (i := 10) rfl))) Via.refl e14 f15 (g := (mkF m 16 #[.val (.ref a), .val (.int (3 : Int32)), .val (.int (2 : Int32))] [(.ref a)])) rfl rfl (hb hby d_prog_32_m_4_16)
  refine own_up st16 ?_
  show own_Go p.tables e below _ (T16.setTop (mkF m 19 #[.val (.ref a), .val (.int (3 : Int32)), .val (.int (2 : Int32))] [(.ref bo)]))
  refine own_up (fun _ k => XS.iloadN X16.here hx rfl (hb hby d_prog_32_m_4_19) rfl k) ?_
  show own_Go p.tables e below _ (T16.setTop (mkF m 20 #[.val (.ref a), .val (.int (3 : Int32)), .val (.int (2 : Int32))] [(.int (2 : Int32)), (.ref bo)]))
  refine own_up (fun _ k => XS.iconst X16.here hx rfl (hb hby d_prog_32_m_4_20) k) ?_
  show own_Go p.tables e below _ (T16.setTop (mkF m 21 #[.val (.ref a), .val (.int (3 : Int32)), .val (.int (2 : Int32))] [(.int (1 : Int32)), (.int (2 : Int32)), (.ref bo)]))
  refine own_up (fun _ k => XS.iadd X16.here hx rfl (hb hby d_prog_32_m_4_21) rfl k) ?_
  show own_Go p.tables e below _ (T16.setTop (mkF m 22 #[.val (.ref a), .val (.int (3 : Int32)), .val (.int (2 : Int32))] [(.int (3 : Int32)), (.ref bo)]))
  refine own_up (fun _ k => XT.dup2 X16.here hx rfl (hb hby d_prog_32_m_4_22) rfl rfl rfl k) ?_
  show own_Go p.tables e below _ (T16.setTop (mkF m 23 #[.val (.ref a), .val (.int (3 : Int32)), .val (.int (2 : Int32))] [(.int (3 : Int32)), (.ref bo), (.int (3 : Int32)), (.ref bo)]))
  obtain ⟨cl17_, Ar17, q17, S17, M17, Hs17, G17⟩ := id (V14)
  have hin18 : ¬ ((3 : Int32) < 0 ∨ cl17_.slots.size ≤ ((3 : Int32)).toNatClampNeg) := inb_of S17 ⟨by decide, by decide⟩
  have hat18 : cl17_.slots[((3 : Int32)).toNatClampNeg]? = some (.int x3) := Has.at Hs17 hin18 rfl
  refine own_up (fun _ k => X16.iaload hx (j := (3 : Int32)) (v := (.int x3)) (by rw [e16]; exact Ar17.1) (State.isArrayOf_alike hZ.alike Ar17.2.1) Ar17.2.2 hin18 hat18 (g := (mkF m 23 #[.val (.ref a), .val (.int (3 : Int32)), .val (.int (2 : Int32))] [(.int (3 : Int32)), (.ref bo), (.int (3 : Int32)), (.ref bo)])) rfl rfl (hb hby d_prog_32_m_4_23) _ k) ?_
  show own_Go p.tables e below _ (T16.setTop (mkF m 24 #[.val (.ref a), .val (.int (3 : Int32)), .val (.int (2 : Int32))] [(.int x3), (.int (3 : Int32)), (.ref bo)]))
  refine own_up (fun _ k => XS.aloadN X16.here hx rfl (hb hby d_prog_32_m_4_24) rfl rfl k) ?_
  show own_Go p.tables e below _ (T16.setTop (mkF m 25 #[.val (.ref a), .val (.int (3 : Int32)), .val (.int (2 : Int32))] [(.ref a), (.int x3), (.int (3 : Int32)), (.ref bo)]))
  obtain ⟨T19, X19, e19, st19⟩ := getF X16 hx hZ hown (host := "") (Or.inl (hw _ (List.mem_of_getElem? (i := 10) rfl))) Via.refl e16 f15 (g := (mkF m 25 #[.val (.ref a), .val (.int (3 : Int32)), .val (.int (2 : Int32))] [(.ref a), (.int x3), (.int (3 : Int32)), (.ref bo)])) rfl rfl (hb hby d_prog_32_m_4_25)
  refine own_up st19 ?_
  show own_Go p.tables e below _ (T19.setTop (mkF m 28 #[.val (.ref a), .val (.int (3 : Int32)), .val (.int (2 : Int32))] [(.ref bo), (.int x3), (.int (3 : Int32)), (.ref bo)]))
  refine own_up (fun _ k => XS.iloadN X19.here hx rfl (hb hby d_prog_32_m_4_28) rfl k) ?_
  show own_Go p.tables e below _ (T19.setTop (mkF m 29 #[.val (.ref a), .val (.int (3 : Int32)), .val (.int (2 : Int32))] [(.int (2 : Int32)), (.ref bo), (.int x3), (.int (3 : Int32)), (.ref bo)]))
  have hin20 : ¬ ((2 : Int32) < 0 ∨ cl17_.slots.size ≤ ((2 : Int32)).toNatClampNeg) := inb_of S17 ⟨by decide, by decide⟩
  have hat20 : cl17_.slots[((2 : Int32)).toNatClampNeg]? = some (.int (x2 + (x1 + x0))) := Has.at Hs17 hin20 rfl
  refine own_up (fun _ k => X19.iaload hx (j := (2 : Int32)) (v := (.int (x2 + (x1 + x0)))) (by rw [e19]; exact Ar17.1) (State.isArrayOf_alike hZ.alike Ar17.2.1) Ar17.2.2 hin20 hat20 (g := (mkF m 29 #[.val (.ref a), .val (.int (3 : Int32)), .val (.int (2 : Int32))] [(.int (2 : Int32)), (.ref bo), (.int x3), (.int (3 : Int32)), (.ref bo)])) rfl rfl (hb hby d_prog_32_m_4_29) _ k) ?_
  show own_Go p.tables e below _ (T19.setTop (mkF m 30 #[.val (.ref a), .val (.int (3 : Int32)), .val (.int (2 : Int32))] [(.int (x2 + (x1 + x0))), (.int x3), (.int (3 : Int32)), (.ref bo)]))
  refine own_up (fun _ k => XS.iadd X19.here hx rfl (hb hby d_prog_32_m_4_30) rfl k) ?_
  show own_Go p.tables e below _ (T19.setTop (mkF m 31 #[.val (.ref a), .val (.int (3 : Int32)), .val (.int (2 : Int32))] [(.int (x3 + (x2 + (x1 + x0)))), (.int (3 : Int32)), (.ref bo)]))
  have hin21 : ¬ ((3 : Int32) < 0 ∨ cl17_.slots.size ≤ ((3 : Int32)).toNatClampNeg) := inb_of S17 ⟨by decide, by decide⟩
  obtain ⟨T21, h21, X21, e21, W21, st21⟩ := stI X19 hx hZ e19 Ar17 (j := (3 : Int32)) hin21 (g := (mkF m 31 #[.val (.ref a), .val (.int (3 : Int32)), .val (.int (2 : Int32))] [(.int (x3 + (x2 + (x1 + x0)))), (.int (3 : Int32)), (.ref bo)])) rfl rfl (hb hby d_prog_32_m_4_31)
  have V21 : Arv Z h21 bo ko .int (4 : Int32) [(.int x0), (.int (x1 + x0)), (.int (x2 + (x1 + x0))), (.int (x3 + (x2 + (x1 + x0))))] (.int (0 : Int32)) := Arv.set Ar17 q17 S17 M17 Hs17 G17 rfl W21 3 rfl (Nat.le_of_ble_eq_true rfl)
  have N21 := Fr.snoc X21 N14 G
  refine own_up st21 ?_
  show own_Go p.tables e below _ (T21.setTop (mkF m 32 #[.val (.ref a), .val (.int (3 : Int32)), .val (.int (2 : Int32))] []))
  refine own_up (fun _ k => XS.iinc X21.here hx rfl (hb hby d_prog_32_m_4_32) rfl (l' := #[.val (.ref a), .val (.int (3 : Int32)), .val (.int (3 : Int32))]) rfl k) ?_
  show own_Go p.tables e below _ (T21.setTop (mkF m 35 #[.val (.ref a), .val (.int (3 : Int32)), .val (.int (3 : Int32))] []))
  refine own_up (fun _ k => XS.goto X21.here hx rfl (pc0 := 35) (pc' := 10) rfl (hb hby d_prog_32_m_4_35) (by decide) (by decide) k) ?_
  show own_Go p.tables e below _ (T21.setTop (mkF m 10 #[.val (.ref a), .val (.int (3 : Int32)), .val (.int (3 : Int32))] []))
  refine own_up (fun _ k => XS.iloadN X21.here hx rfl (hb hby d_prog_32_m_4_10) rfl k) ?_
  show own_Go p.tables e below _ (T21.setTop (mkF m 11 #[.val (.ref a), .val (.int (3 : Int32)), .val (.int (3 : Int32))] [(.int (3 : Int32))]))
  refine own_up (fun _ k => XS.iloadN X21.here hx rfl (hb hby d_prog_32_m_4_11) rfl k) ?_
  show own_Go p.tables e below _ (T21.setTop (mkF m 12 #[.val (.ref a), .val (.int (3 : Int32)), .val (.int (3 : Int32))] [(.int (3 : Int32)), (.int (3 : Int32))]))
  refine own_up (fun _ k => XS.icmpYes X21.here hx rfl (pc0 := 12) (pc' := 38) rfl (hb hby d_prog_32_m_4_12) rfl (flt (by decide)).2.1 (by decide) (by decide) k) ?_
  show own_Go p.tables e below _ (T21.setTop (mkF m 38 #[.val (.ref a), .val (.int (3 : Int32)), .val (.int (3 : Int32))] []))
  refine own_up (fun _ k => XS.aloadN X21.here hx rfl (hb hby d_prog_32_m_4_38) rfl rfl k) ?_
  show own_Go p.tables e below _ (T21.setTop (mkF m 39 #[.val (.ref a), .val (.int (3 : Int32)), .val (.int (3 : Int32))] [(.ref a)]))
  have f22 : Fld Z h21 a "com/example/querygraft/querygraft/format/CompressedRows$Layout" "offsets" "[I" (.ref bo) := (f15.other W21 (Or.inl Nab))
  obtain ⟨T23, X23, e23, st23⟩ := getF X21 hx hZ hown (host := "") (Or.inl (hw _ (List.mem_of_getElem? (i := 10) rfl))) Via.refl e21 f22 (g := (mkF m 39 #[.val (.ref a), .val (.int (3 : Int32)), .val (.int (3 : Int32))] [(.ref a)])) rfl rfl (hb hby d_prog_32_m_4_39)
  refine own_up st23 ?_
  show own_Go p.tables e below _ (T23.setTop (mkF m 42 #[.val (.ref a), .val (.int (3 : Int32)), .val (.int (3 : Int32))] [(.ref bo)]))
  refine own_up (fun _ k => XS.iloadN X23.here hx rfl (hb hby d_prog_32_m_4_42) rfl k) ?_
  show own_Go p.tables e below _ (T23.setTop (mkF m 43 #[.val (.ref a), .val (.int (3 : Int32)), .val (.int (3 : Int32))] [(.int (3 : Int32)), (.ref bo)]))
  obtain ⟨cl24_, Ar24, q24, S24, M24, Hs24, G24⟩ := id (V21)
  have hin25 : ¬ ((3 : Int32) < 0 ∨ cl24_.slots.size ≤ ((3 : Int32)).toNatClampNeg) := inb_of S24 ⟨by decide, by decide⟩
  have hat25 : cl24_.slots[((3 : Int32)).toNatClampNeg]? = some (.int (x3 + (x2 + (x1 + x0)))) := Has.at Hs24 hin25 rfl
  refine own_up (fun _ k => X23.iaload hx (j := (3 : Int32)) (v := (.int (x3 + (x2 + (x1 + x0))))) (by rw [e23]; exact Ar24.1) (State.isArrayOf_alike hZ.alike Ar24.2.1) Ar24.2.2 hin25 hat25 (g := (mkF m 43 #[.val (.ref a), .val (.int (3 : Int32)), .val (.int (3 : Int32))] [(.int (3 : Int32)), (.ref bo)])) rfl rfl (hb hby d_prog_32_m_4_43) _ k) ?_
  show own_Go p.tables e below _ (T23.setTop (mkF m 44 #[.val (.ref a), .val (.int (3 : Int32)), .val (.int (3 : Int32))] [(.int (x3 + (x2 + (x1 + x0))))]))
  exact own_end X23 hlk (v := some (.int (x3 + (x2 + (x1 + x0))))) (fun h => by rw [Bd.returns] at h; cases h) (fun fs hr => retOut X23 hx Bd.returns rfl (Or.inl ⟨rfl, Or.inl rfl, _, rfl⟩) (hb hby d_prog_32_m_4_44) hr) e23 ⟨rfl, N21, ((((Keep.refl h0 [bo]).wr W7 (Or.inl (List.mem_of_getElem? (i := 0) rfl))).wr W14 (Or.inl (List.mem_of_getElem? (i := 0) rfl))).wr W21 (Or.inl (List.mem_of_getElem? (i := 0) rfl))), V21⟩ (by decide) (by decide)
theorem own_pd0 : parseMethodDescriptor "(I)V" = some ⟨[.int], none⟩ := by decide +kernel
theorem own_pd1 : parseMethodDescriptor "()I" = some ⟨[], some .int⟩ := by decide +kernel
theorem own_pd2 : parseMethodDescriptor "(I)I" = some ⟨[.int], some .int⟩ := by decide +kernel
theorem own_pd3 : parseMethodDescriptor "(II)V" = some ⟨[.int, .int], none⟩ := by decide +kernel
theorem own_pn1 : plainName "com/example/querygraft/querygraft/format/LayoutLayOutPinLaw" = true := by first | (simp [plainName, overriddenIn]; done) | decide +kernel
theorem ef_rm0 (m : MethodId) (y0 : Int32) (y1 : Int32) (y2 : Int32) (y3 : Int32) : entryFrame m #[(.int y0), (.int y1), (.int y2), (.int y3)] maxLocals = mkF m 0 #[.val (.int y0), .val (.int y1), .val (.int y2), .val (.int y3), .unset, .unset, .unset, .unset, .unset] [] := by first | (simp [entryFrame, mkF, argsToLocals, Value.category, maxLocals]; done) | rfl
def Q_rm0 (Z : State) (p0 : Int32) (p1 : Int32) (p2 : Int32) (p3 : Int32) (h0 : Heap) (n0 : Nat) (v : Option Value) (h : Heap) (L : List Loc) : Prop := v = some (.int (1 : Int32)) ∧ Fr n0 L
set_option maxRecDepth 65536 in
set_option maxHeartbeats 40000000 in
theorem rm0 (l : Launch) (Z : State) (a0 : Array Value) (hw : ∀ d ∈ tables_1, d.before a0 Z = true) (ws : List Jvm.Cond) (p0 : Int32) (p1 : Int32) (p2 : Int32) (p3 : Int32) (h0 : Heap) (n0 : Nat) (Z0 : n0 ≤ h0.size) :
    MetFree l x (head1 (Jvm.Cond.code x code maxLocals ret :: ws) room_1) (fun ar U => ar = #[(.int p0), (.int p1), (.int p2), (.int p3)] ∧ Z.Warmed39 U.vm ∧ U.heap = h0) (fun _ _ _ _ _ => True) (fun _ U o U' => ∃ v L, o = .returned v ∧ Q_rm0 Z p0 p1 p2 p3 h0 n0 v U'.heap L ∧ FrameEnd U o U' L room_1.cells room_1.slots) := by
  refine MetFree.of_bodySF (plainFor_of_name own_pn1) hisR ?_
  intro p e s m args below meth c s₁ Bd hml0 hP hK
  obtain ⟨rfl, hZ, hh⟩ := hP
  have hx := Bd.exec
  have hby := Bd.bytes
  have hlk : meth.locks = false := BodyLoose.notSynchronized Bd
  have hml : c.maxLocals = 9 := hml0
  have hown : s.vm.findClass "com/example/querygraft/querygraft/format/LayoutLayOutPinLaw" = some m.cls := findClass_of_methodNamed Bd.named
  have hnm := (name_of_methodNamed Bd.named Bd.method).1
  have X0 : Stand p l e room_1 s m #[(.int p0), (.int p1), (.int p2), (.int p3)] below meth c s₁ [] 0 0 := Stand.of_body Bd
  have e0 : s₁.heap = h0 := by rw [← hh, Bd.state]; rfl
  have N0 := Fr.nil n0
  show own_Go p.tables e below (fun u o => ∃ v L, o = .returned v ∧ Q_rm0 Z p0 p1 p2 p3 h0 n0 v u.heap L ∧ FrameEnd s o u L room_1.cells room_1.slots) (s₁.setTop (entryFrame m #[(.int p0), (.int p1), (.int p2), (.int p3)] maxLocals))
  refine own_up (fun _ k => castTop (ef_rm0 m p0 p1 p2 p3) k) ?_
  show own_Go p.tables e below _ (s₁.setTop (mkF m 0 #[.val (.int p0), .val (.int p1), .val (.int p2), .val (.int p3), .unset, .unset, .unset, .unset, .unset] []))
  rcases own_mask3 p0 with hm | hm | hm | hm
  ·
    refine own_up (fun _ k => XS.iloadN X0.here hx rfl (hb hby at_0) rfl k) ?_
    show own_Go p.tables e below _ (s₁.setTop (mkF m 1 #[.val (.int p0), .val (.int p1), .val (.int p2), .val (.int p3), .unset, .unset, .unset, .unset, .unset] [(.int p0)]))
    refine own_up (fun _ k => XS.iconst X0.here hx rfl (hb hby at_1) k) ?_
    show own_Go p.tables e below _ (s₁.setTop (mkF m 2 #[.val (.int p0), .val (.int p1), .val (.int p2), .val (.int p3), .unset, .unset, .unset, .unset, .unset] [(.int (3 : Int32)), (.int p0)]))
    refine own_up (fun _ k => XS.iand X0.here hx rfl (hb hby at_2) rfl k) ?_
    show own_Go p.tables e below _ (s₁.setTop (mkF m 3 #[.val (.int p0), .val (.int p1), .val (.int p2), .val (.int p3), .unset, .unset, .unset, .unset, .unset] [(.int (p0 &&& (3 : Int32)))]))
    rw [hm]
    show own_Go p.tables e below _ (s₁.setTop (mkF m 3 #[.val (.int p0), .val (.int p1), .val (.int p2), .val (.int p3), .unset, .unset, .unset, .unset, .unset] [(.int (0 : Int32))]))
    refine own_up (fun _ k => XS.istore X0.here hx rfl (hb hby at_3) rfl (l' := #[.val (.int p0), .val (.int p1), .val (.int p2), .val (.int p3), .val (.int (0 : Int32)), .unset, .unset, .unset, .unset]) rfl k) ?_
    show own_Go p.tables e below _ (s₁.setTop (mkF m 5 #[.val (.int p0), .val (.int p1), .val (.int p2), .val (.int p3), .val (.int (0 : Int32)), .unset, .unset, .unset, .unset] []))
    obtain ⟨T1, h1, X1, e1, E1, A1, D1, -, st1⟩ := newO X0 hx hZ hown (hw _ (List.mem_of_getElem? (i := 0) rfl)) (hw _ (List.mem_of_getElem? (i := 1) rfl)) (hw _ (List.mem_of_getElem? (i := 2) rfl)) e0 (g := (mkF m 5 #[.val (.int p0), .val (.int p1), .val (.int p2), .val (.int p3), .val (.int (0 : Int32)), .unset, .unset, .unset, .unset] [])) rfl (hb hby at_5) (by decide) (by decide)
    obtain ⟨b1, g1⟩ : ∃ z, z = h0.size := ⟨_, rfl⟩
    rw [← g1] at A1 D1 st1
    have ge1 : n0 ≤ b1 := Nat.le_trans Z0 (Nat.le_of_eq g1.symm)
    refine own_up st1 ?_
    have F1_offsets : Fld Z h1 b1 "com/example/querygraft/querygraft/format/CompressedRows$Layout" "offsets" "[I" .null := D1 (Or.inr (hw _ (List.mem_of_getElem? (i := 11) rfl))) (ty := (.array .int)) (by decide)
    show own_Go p.tables e below _ (T1.setTop (mkF m 8 #[.val (.int p0), .val (.int p1), .val (.int p2), .val (.int p3), .val (.int (0 : Int32)), .unset, .unset, .unset, .unset] [(.ref b1)]))
    refine own_up (fun _ k => XS.dup X1.here hx rfl (hb hby at_8) rfl rfl k) ?_
    show own_Go p.tables e below _ (T1.setTop (mkF m 9 #[.val (.int p0), .val (.int p1), .val (.int p2), .val (.int p3), .val (.int (0 : Int32)), .unset, .unset, .unset, .unset] [(.ref b1), (.ref b1)]))
    refine own_up (fun _ k => XS.iload X1.here hx rfl (hb hby at_9) rfl k) ?_
    show own_Go p.tables e below _ (T1.setTop (mkF m 11 #[.val (.int p0), .val (.int p1), .val (.int p2), .val (.int p3), .val (.int (0 : Int32)), .unset, .unset, .unset, .unset] [(.int (0 : Int32)), (.ref b1), (.ref b1)]))
    have f3 : n0 ≤ h1.size := (Nat.le_trans Z0 E1.1)
    obtain ⟨_, _, ⟨T2, L2, k2, n2⟩, -, X2, ⟨Lc2, hQ2, l2, y2, z2⟩, st2⟩ := X1.specialBack hx (y := (⟨"com/example/querygraft/querygraft/format/CompressedRows$Layout", "<init>", "(I)V"⟩ : MethodName)) rfl hown (mvT hZ (hw _ (List.mem_of_getElem? (i := 3) rfl))) (mvT hZ (hw _ (List.mem_of_getElem? (i := 4) rfl))) (mvT hZ (hw _ (List.mem_of_getElem? (i := 5) rfl))) (by decide) (backOf (W := 1) (rm1 l Z a0 hw [] b1 (0 : Int32) h1 n0 f3 A1 F1_offsets ge1 (by decide) (by decide)) hZ (hw _ (List.mem_of_getElem? (i := 5) rfl)) (hw _ (List.mem_of_getElem? (i := 2) rfl)) (by decide) (by decide)) (g := (mkF m 11 #[.val (.int p0), .val (.int p1), .val (.int p2), .val (.int p3), .val (.int (0 : Int32)), .unset, .unset, .unset, .unset] [(.int (0 : Int32)), (.ref b1), (.ref b1)])) rfl (by rw [hml]; rfl) (Steps.refl _) (a := b1) (argsL := [(.int (0 : Int32))]) (rest := [(.ref b1)]) (lenOf own_pd0 rfl) rfl (by show 2 * 0 + _ ≤ _; exact Nat.le_of_eq rfl) (hb hby at_11) (fun _ _ => ⟨rfl, e1, (by decide : 1 + 1 ≤ _), (by decide : 2 + 4 ≤ _)⟩)
    dsimp only [Pt.U, Pt.locs, Pt.cells, Pt.slots] at X2 l2 y2 z2 st2 hQ2
    subst l2 y2 z2
    obtain ⟨bo_2, ko_2, rfl, N2q, K2, P2_0, P2_1, P2_2, P2_3, P2_4⟩ := hQ2
    have N2 := Fr.app N0 N2q
    refine own_up (fun _ k => st2.trans k) ?_
    show own_Go p.tables e below _ (T2.setTop (mkF m 14 #[.val (.int p0), .val (.int p1), .val (.int p2), .val (.int p3), .val (.int (0 : Int32)), .unset, .unset, .unset, .unset] [(.ref b1)]))
    have r4 : Arv Z T2.heap bo_2 ko_2 .int (1 : Int32) [(.int (0 : Int32))] (.int (0 : Int32)) := (P2_4.pad (pad_rep [] (.int (0 : Int32)) 1))
    refine own_up (fun _ k => XS.astore X2.here hx rfl (hb hby at_14) rfl rfl (l' := #[.val (.int p0), .val (.int p1), .val (.int p2), .val (.int p3), .val (.int (0 : Int32)), .val (.ref b1), .unset, .unset, .unset]) rfl k) ?_
    show own_Go p.tables e below _ (T2.setTop (mkF m 16 #[.val (.int p0), .val (.int p1), .val (.int p2), .val (.int p3), .val (.int (0 : Int32)), .val (.ref b1), .unset, .unset, .unset] []))
    refine own_up (fun _ k => XS.iload X2.here hx rfl (hb hby at_16) rfl k) ?_
    show own_Go p.tables e below _ (T2.setTop (mkF m 18 #[.val (.int p0), .val (.int p1), .val (.int p2), .val (.int p3), .val (.int (0 : Int32)), .val (.ref b1), .unset, .unset, .unset] [(.int (0 : Int32))]))
    refine own_up (fun _ k => XS.ifYes X2.here hx rfl (pc0 := 18) (pc' := 28) rfl (hb hby at_18) rfl ((if0 _ _).trans (flt (by decide)).2.2.2) (by decide) (by decide) k) ?_
    show own_Go p.tables e below _ (T2.setTop (mkF m 28 #[.val (.int p0), .val (.int p1), .val (.int p2), .val (.int p3), .val (.int (0 : Int32)), .val (.ref b1), .unset, .unset, .unset] []))
    refine own_up (fun _ k => XS.iload X2.here hx rfl (hb hby at_28) rfl k) ?_
    show own_Go p.tables e below _ (T2.setTop (mkF m 30 #[.val (.int p0), .val (.int p1), .val (.int p2), .val (.int p3), .val (.int (0 : Int32)), .val (.ref b1), .unset, .unset, .unset] [(.int (0 : Int32))]))
    refine own_up (fun _ k => XS.iconst X2.here hx rfl (hb hby at_30) k) ?_
    show own_Go p.tables e below _ (T2.setTop (mkF m 31 #[.val (.int p0), .val (.int p1), .val (.int p2), .val (.int p3), .val (.int (0 : Int32)), .val (.ref b1), .unset, .unset, .unset] [(.int (1 : Int32)), (.int (0 : Int32))]))
    refine own_up (fun _ k => XS.icmpYes X2.here hx rfl (pc0 := 31) (pc' := 41) rfl (hb hby at_31) rfl (flt (by decide)).2.2.2 (by decide) (by decide) k) ?_
    show own_Go p.tables e below _ (T2.setTop (mkF m 41 #[.val (.int p0), .val (.int p1), .val (.int p2), .val (.int p3), .val (.int (0 : Int32)), .val (.ref b1), .unset, .unset, .unset] []))
    refine own_up (fun _ k => XS.iload X2.here hx rfl (hb hby at_41) rfl k) ?_
    show own_Go p.tables e below _ (T2.setTop (mkF m 43 #[.val (.int p0), .val (.int p1), .val (.int p2), .val (.int p3), .val (.int (0 : Int32)), .val (.ref b1), .unset, .unset, .unset] [(.int (0 : Int32))]))
    refine own_up (fun _ k => XS.iconst X2.here hx rfl (hb hby at_43) k) ?_
    show own_Go p.tables e below _ (T2.setTop (mkF m 44 #[.val (.int p0), .val (.int p1), .val (.int p2), .val (.int p3), .val (.int (0 : Int32)), .val (.ref b1), .unset, .unset, .unset] [(.int (2 : Int32)), (.int (0 : Int32))]))
    refine own_up (fun _ k => XS.icmpYes X2.here hx rfl (pc0 := 44) (pc' := 54) rfl (hb hby at_44) rfl (flt (by decide)).2.2.2 (by decide) (by decide) k) ?_
    show own_Go p.tables e below _ (T2.setTop (mkF m 54 #[.val (.int p0), .val (.int p1), .val (.int p2), .val (.int p3), .val (.int (0 : Int32)), .val (.ref b1), .unset, .unset, .unset] []))
    refine own_up (fun _ k => XS.aload X2.here hx rfl (hb hby at_54) rfl rfl k) ?_
    show own_Go p.tables e below _ (T2.setTop (mkF m 56 #[.val (.int p0), .val (.int p1), .val (.int p2), .val (.int p3), .val (.int (0 : Int32)), .val (.ref b1), .unset, .unset, .unset] [(.ref b1)]))
    have f6 : n0 ≤ T2.heap.size := (Nat.le_trans f3 K2.1)
    obtain ⟨cq5, kq5, q5a, q5b, q5c⟩ := isOf hZ rfl P2_2
    obtain ⟨_, _, ⟨T5, L5, k5, n5⟩, -, X5, ⟨Lc5, hQ5, l5, y5, z5⟩, st5⟩ := X2.virtualBack hx (y := (⟨"com/example/querygraft/querygraft/format/CompressedRows$Layout", "layOut", "()I"⟩ : MethodName)) (z := (⟨"com/example/querygraft/querygraft/format/CompressedRows$Layout", "layOut", "()I"⟩ : MethodName)) hown (mvT hZ (hw _ (List.mem_of_getElem? (i := 12) rfl))) (mvT hZ (hw _ (List.mem_of_getElem? (i := 13) rfl))) (notFace_of_selects (args := #[]) (mvT hZ (hw _ (List.mem_of_getElem? (i := 15) rfl)))) (mvT hZ (hw _ (List.mem_of_getElem? (i := 15) rfl))) (mvT hZ (hw _ (List.mem_of_getElem? (i := 14) rfl))) (by decide) (backOf (W := 0) (rm4_0 l Z a0 hw [] b1 bo_2 ko_2 (0 : Int32) T2.heap n0 f6 P2_3 r4 P2_0 P2_1) hZ (hw _ (List.mem_of_getElem? (i := 16) rfl)) (hw _ (List.mem_of_getElem? (i := 2) rfl)) (by decide) (by decide)) q5a q5c (g := (mkF m 56 #[.val (.int p0), .val (.int p1), .val (.int p2), .val (.int p3), .val (.int (0 : Int32)), .val (.ref b1), .unset, .unset, .unset] [(.ref b1)])) rfl (by rw [hml]; rfl) (Steps.refl _) (argsL := []) (rest := []) (lenOf own_pd1 rfl) rfl (by show 2 * 0 + _ ≤ _; exact Nat.le_of_eq rfl) (hb hby at_56) (fun _ _ => ⟨rfl, rfl, (by decide : 2 + 0 ≤ _), (by decide : 6 + 0 ≤ _)⟩)
    dsimp only [Pt.U, Pt.locs, Pt.cells, Pt.slots] at X5 l5 y5 z5 st5 hQ5
    subst l5 y5 z5
    obtain ⟨rfl, N5q, K5, P5_0⟩ := hQ5
    have N5 := Fr.app N2 N5q
    refine own_up (fun _ k => st5.trans k) ?_
    show own_Go p.tables e below _ (T5.setTop (mkF m 59 #[.val (.int p0), .val (.int p1), .val (.int p2), .val (.int p3), .val (.int (0 : Int32)), .val (.ref b1), .unset, .unset, .unset] [(.int (0 : Int32))]))
    refine own_up (fun _ k => XS.istore X5.here hx rfl (hb hby at_59) rfl (l' := #[.val (.int p0), .val (.int p1), .val (.int p2), .val (.int p3), .val (.int (0 : Int32)), .val (.ref b1), .val (.int (0 : Int32)), .unset, .unset]) rfl k) ?_
    show own_Go p.tables e below _ (T5.setTop (mkF m 61 #[.val (.int p0), .val (.int p1), .val (.int p2), .val (.int p3), .val (.int (0 : Int32)), .val (.ref b1), .val (.int (0 : Int32)), .unset, .unset] []))
    refine own_up (fun _ k => XS.iload X5.here hx rfl (hb hby at_61) rfl k) ?_
    show own_Go p.tables e below _ (T5.setTop (mkF m 63 #[.val (.int p0), .val (.int p1), .val (.int p2), .val (.int p3), .val (.int (0 : Int32)), .val (.ref b1), .val (.int (0 : Int32)), .unset, .unset] [(.int (0 : Int32))]))
    refine own_up (fun _ k => XS.ifNo X5.here hx rfl (hb hby at_63) rfl ((if0 _ _).trans (teq (by decide)).2) k) ?_
    show own_Go p.tables e below _ (T5.setTop (mkF m 66 #[.val (.int p0), .val (.int p1), .val (.int p2), .val (.int p3), .val (.int (0 : Int32)), .val (.ref b1), .val (.int (0 : Int32)), .unset, .unset] []))
    refine own_up (fun _ k => XS.iconst X5.here hx rfl (hb hby at_66) k) ?_
    show own_Go p.tables e below _ (T5.setTop (mkF m 67 #[.val (.int p0), .val (.int p1), .val (.int p2), .val (.int p3), .val (.int (0 : Int32)), .val (.ref b1), .val (.int (0 : Int32)), .unset, .unset] [(.int (0 : Int32))]))
    refine own_up (fun _ k => XS.istore X5.here hx rfl (hb hby at_67) rfl (l' := #[.val (.int p0), .val (.int p1), .val (.int p2), .val (.int p3), .val (.int (0 : Int32)), .val (.ref b1), .val (.int (0 : Int32)), .val (.int (0 : Int32)), .unset]) rfl k) ?_
    show own_Go p.tables e below _ (T5.setTop (mkF m 69 #[.val (.int p0), .val (.int p1), .val (.int p2), .val (.int p3), .val (.int (0 : Int32)), .val (.ref b1), .val (.int (0 : Int32)), .val (.int (0 : Int32)), .unset] []))
    refine own_up (fun _ k => XS.goto X5.here hx rfl (pc0 := 69) (pc' := 105) rfl (hb hby at_69) (by decide) (by decide) k) ?_
    show own_Go p.tables e below _ (T5.setTop (mkF m 105 #[.val (.int p0), .val (.int p1), .val (.int p2), .val (.int p3), .val (.int (0 : Int32)), .val (.ref b1), .val (.int (0 : Int32)), .val (.int (0 : Int32)), .unset] []))
    refine own_up (fun _ k => XS.iload X5.here hx rfl (hb hby at_105) rfl k) ?_
    show own_Go p.tables e below _ (T5.setTop (mkF m 107 #[.val (.int p0), .val (.int p1), .val (.int p2), .val (.int p3), .val (.int (0 : Int32)), .val (.ref b1), .val (.int (0 : Int32)), .val (.int (0 : Int32)), .unset] [(.int (0 : Int32))]))
    refine own_up (fun _ k => XS.iload X5.here hx rfl (hb hby at_107) rfl k) ?_
    show own_Go p.tables e below _ (T5.setTop (mkF m 109 #[.val (.int p0), .val (.int p1), .val (.int p2), .val (.int p3), .val (.int (0 : Int32)), .val (.ref b1), .val (.int (0 : Int32)), .val (.int (0 : Int32)), .unset] [(.int (0 : Int32)), (.int (0 : Int32))]))
    refine own_up (fun _ k => XS.icmpNo X5.here hx rfl (hb hby at_109) rfl (teq (rfl)).2 k) ?_
    show own_Go p.tables e below _ (T5.setTop (mkF m 112 #[.val (.int p0), .val (.int p1), .val (.int p2), .val (.int p3), .val (.int (0 : Int32)), .val (.ref b1), .val (.int (0 : Int32)), .val (.int (0 : Int32)), .unset] []))
    refine own_up (fun _ k => XS.iconst X5.here hx rfl (hb hby at_112) k) ?_
    show own_Go p.tables e below _ (T5.setTop (mkF m 113 #[.val (.int p0), .val (.int p1), .val (.int p2), .val (.int p3), .val (.int (0 : Int32)), .val (.ref b1), .val (.int (0 : Int32)), .val (.int (0 : Int32)), .unset] [(.int (1 : Int32))]))
    refine own_up (fun _ k => XS.goto X5.here hx rfl (pc0 := 113) (pc' := 117) rfl (hb hby at_113) (by decide) (by decide) k) ?_
    show own_Go p.tables e below _ (T5.setTop (mkF m 117 #[.val (.int p0), .val (.int p1), .val (.int p2), .val (.int p3), .val (.int (0 : Int32)), .val (.ref b1), .val (.int (0 : Int32)), .val (.int (0 : Int32)), .unset] [(.int (1 : Int32))]))
    refine own_up (fun _ k => XS.istore X5.here hx rfl (hb hby at_117) rfl (l' := #[.val (.int p0), .val (.int p1), .val (.int p2), .val (.int p3), .val (.int (0 : Int32)), .val (.ref b1), .val (.int (0 : Int32)), .val (.int (0 : Int32)), .val (.int (1 : Int32))]) rfl k) ?_
    show own_Go p.tables e below _ (T5.setTop (mkF m 119 #[.val (.int p0), .val (.int p1), .val (.int p2), .val (.int p3), .val (.int (0 : Int32)), .val (.ref b1), .val (.int (0 : Int32)), .val (.int (0 : Int32)), .val (.int (1 : Int32))] []))
    refine own_up (fun _ k => XS.iload X5.here hx rfl (hb hby at_119) rfl k) ?_
    show own_Go p.tables e below _ (T5.setTop (mkF m 121 #[.val (.int p0), .val (.int p1), .val (.int p2), .val (.int p3), .val (.int (0 : Int32)), .val (.ref b1), .val (.int (0 : Int32)), .val (.int (0 : Int32)), .val (.int (1 : Int32))] [(.int (1 : Int32))]))
    refine own_up (fun _ k => XS.ifNo X5.here hx rfl (hb hby at_121) rfl ((if0 _ _).trans (feq (by decide)).1) k) ?_
    show own_Go p.tables e below _ (T5.setTop (mkF m 124 #[.val (.int p0), .val (.int p1), .val (.int p2), .val (.int p3), .val (.int (0 : Int32)), .val (.ref b1), .val (.int (0 : Int32)), .val (.int (0 : Int32)), .val (.int (1 : Int32))] []))
    refine own_up (fun _ k => XS.aload X5.here hx rfl (hb hby at_124) rfl rfl k) ?_
    show own_Go p.tables e below _ (T5.setTop (mkF m 126 #[.val (.int p0), .val (.int p1), .val (.int p2), .val (.int p3), .val (.int (0 : Int32)), .val (.ref b1), .val (.int (0 : Int32)), .val (.int (0 : Int32)), .val (.int (1 : Int32))] [(.ref b1)]))
    refine own_up (fun _ k => XS.iconst X5.here hx rfl (hb hby at_126) k) ?_
    show own_Go p.tables e below _ (T5.setTop (mkF m 127 #[.val (.int p0), .val (.int p1), .val (.int p2), .val (.int p3), .val (.int (0 : Int32)), .val (.ref b1), .val (.int (0 : Int32)), .val (.int (0 : Int32)), .val (.int (1 : Int32))] [(.int (0 : Int32)), (.ref b1)]))
    have f8 : Fld Z T5.heap b1 "com/example/querygraft/querygraft/format/CompressedRows$Layout" "offsets" "[I" (.ref bo_2) := (P2_3.keep K5 (ninS P2_1 nin0))
    have f9 : n0 ≤ T5.heap.size := (Nat.le_trans f6 K5.1)
    have f10 : Exa Z T5.heap b1 "com/example/querygraft/querygraft/format/CompressedRows$Layout" := (P2_2.keep K5)
    obtain ⟨cq7, kq7, q7a, q7b, q7c⟩ := isOf hZ rfl f10
    obtain ⟨_, _, ⟨T7, L7, k7, n7⟩, -, X7, ⟨Lc7, hQ7, l7, y7, z7⟩, st7⟩ := X5.virtualBack hx (y := (⟨"com/example/querygraft/querygraft/format/CompressedRows$Layout", "first", "(I)I"⟩ : MethodName)) (z := (⟨"com/example/querygraft/querygraft/format/CompressedRows$Layout", "first", "(I)I"⟩ : MethodName)) hown (mvT hZ (hw _ (List.mem_of_getElem? (i := 17) rfl))) (mvT hZ (hw _ (List.mem_of_getElem? (i := 18) rfl))) (notFace_of_selects (args := #[]) (mvT hZ (hw _ (List.mem_of_getElem? (i := 20) rfl)))) (mvT hZ (hw _ (List.mem_of_getElem? (i := 20) rfl))) (mvT hZ (hw _ (List.mem_of_getElem? (i := 19) rfl))) (by decide) (backOf (W := 0) (rm3 l Z a0 hw [] b1 (0 : Int32) bo_2 ko_2 (1 : Int32) [(.int (0 : Int32))] (0 : Int32) T5.heap n0 f9 f8 P5_0 ⟨by decide, by decide⟩ rfl) hZ (hw _ (List.mem_of_getElem? (i := 21) rfl)) (hw _ (List.mem_of_getElem? (i := 2) rfl)) (by decide) (by decide)) q7a q7c (g := (mkF m 127 #[.val (.int p0), .val (.int p1), .val (.int p2), .val (.int p3), .val (.int (0 : Int32)), .val (.ref b1), .val (.int (0 : Int32)), .val (.int (0 : Int32)), .val (.int (1 : Int32))] [(.int (0 : Int32)), (.ref b1)])) rfl (by rw [hml]; rfl) (Steps.refl _) (argsL := [(.int (0 : Int32))]) (rest := []) (lenOf own_pd2 rfl) rfl (by show 2 * 0 + _ ≤ _; exact Nat.le_of_eq rfl) (hb hby at_127) (fun _ _ => ⟨rfl, rfl, (by decide : 2 + 0 ≤ _), (by decide : 6 + 0 ≤ _)⟩)
    dsimp only [Pt.U, Pt.locs, Pt.cells, Pt.slots] at X7 l7 y7 z7 st7 hQ7
    subst l7 y7 z7
    obtain ⟨rfl, N7q, eq7⟩ := hQ7
    have N7 := Fr.app N5 N7q
    refine own_up (fun _ k => st7.trans k) ?_
    show own_Go p.tables e below _ (T7.setTop (mkF m 130 #[.val (.int p0), .val (.int p1), .val (.int p2), .val (.int p3), .val (.int (0 : Int32)), .val (.ref b1), .val (.int (0 : Int32)), .val (.int (0 : Int32)), .val (.int (1 : Int32))] [(.int (0 : Int32))]))
    refine own_up (fun _ k => XS.ifNo X7.here hx rfl (hb hby at_130) rfl ((if0 _ _).trans (teq rfl).2) k) ?_
    show own_Go p.tables e below _ (T7.setTop (mkF m 133 #[.val (.int p0), .val (.int p1), .val (.int p2), .val (.int p3), .val (.int (0 : Int32)), .val (.ref b1), .val (.int (0 : Int32)), .val (.int (0 : Int32)), .val (.int (1 : Int32))] []))
    refine own_up (fun _ k => XS.iconst X7.here hx rfl (hb hby at_133) k) ?_
    show own_Go p.tables e below _ (T7.setTop (mkF m 134 #[.val (.int p0), .val (.int p1), .val (.int p2), .val (.int p3), .val (.int (0 : Int32)), .val (.ref b1), .val (.int (0 : Int32)), .val (.int (0 : Int32)), .val (.int (1 : Int32))] [(.int (1 : Int32))]))
    refine own_up (fun _ k => XS.goto X7.here hx rfl (pc0 := 134) (pc' := 138) rfl (hb hby at_134) (by decide) (by decide) k) ?_
    show own_Go p.tables e below _ (T7.setTop (mkF m 138 #[.val (.int p0), .val (.int p1), .val (.int p2), .val (.int p3), .val (.int (0 : Int32)), .val (.ref b1), .val (.int (0 : Int32)), .val (.int (0 : Int32)), .val (.int (1 : Int32))] [(.int (1 : Int32))]))
    refine own_up (fun _ k => XS.istore X7.here hx rfl (hb hby at_138) rfl (l' := #[.val (.int p0), .val (.int p1), .val (.int p2), .val (.int p3), .val (.int (0 : Int32)), .val (.ref b1), .val (.int (0 : Int32)), .val (.int (0 : Int32)), .val (.int (1 : Int32))]) rfl k) ?_
    show own_Go p.tables e below _ (T7.setTop (mkF m 140 #[.val (.int p0), .val (.int p1), .val (.int p2), .val (.int p3), .val (.int (0 : Int32)), .val (.ref b1), .val (.int (0 : Int32)), .val (.int (0 : Int32)), .val (.int (1 : Int32))] []))
    refine own_up (fun _ k => XS.iload X7.here hx rfl (hb hby at_140) rfl k) ?_
    show own_Go p.tables e below _ (T7.setTop (mkF m 142 #[.val (.int p0), .val (.int p1), .val (.int p2), .val (.int p3), .val (.int (0 : Int32)), .val (.ref b1), .val (.int (0 : Int32)), .val (.int (0 : Int32)), .val (.int (1 : Int32))] [(.int (0 : Int32))]))
    refine own_up (fun _ k => XS.iconst X7.here hx rfl (hb hby at_142) k) ?_
    show own_Go p.tables e below _ (T7.setTop (mkF m 143 #[.val (.int p0), .val (.int p1), .val (.int p2), .val (.int p3), .val (.int (0 : Int32)), .val (.ref b1), .val (.int (0 : Int32)), .val (.int (0 : Int32)), .val (.int (1 : Int32))] [(.int (1 : Int32)), (.int (0 : Int32))]))
    refine own_up (fun _ k => XS.icmpYes X7.here hx rfl (pc0 := 143) (pc' := 168) rfl (hb hby at_143) rfl (tlt (by decide)).1 (by decide) (by decide) k) ?_
    show own_Go p.tables e below _ (T7.setTop (mkF m 168 #[.val (.int p0), .val (.int p1), .val (.int p2), .val (.int p3), .val (.int (0 : Int32)), .val (.ref b1), .val (.int (0 : Int32)), .val (.int (0 : Int32)), .val (.int (1 : Int32))] []))
    refine own_up (fun _ k => XS.iload X7.here hx rfl (hb hby at_168) rfl k) ?_
    show own_Go p.tables e below _ (T7.setTop (mkF m 170 #[.val (.int p0), .val (.int p1), .val (.int p2), .val (.int p3), .val (.int (0 : Int32)), .val (.ref b1), .val (.int (0 : Int32)), .val (.int (0 : Int32)), .val (.int (1 : Int32))] [(.int (0 : Int32))]))
    refine own_up (fun _ k => XS.iconst X7.here hx rfl (hb hby at_170) k) ?_
    show own_Go p.tables e below _ (T7.setTop (mkF m 171 #[.val (.int p0), .val (.int p1), .val (.int p2), .val (.int p3), .val (.int (0 : Int32)), .val (.ref b1), .val (.int (0 : Int32)), .val (.int (0 : Int32)), .val (.int (1 : Int32))] [(.int (2 : Int32)), (.int (0 : Int32))]))
    refine own_up (fun _ k => XS.icmpYes X7.here hx rfl (pc0 := 171) (pc' := 198) rfl (hb hby at_171) rfl (tlt (by decide)).1 (by decide) (by decide) k) ?_
    show own_Go p.tables e below _ (T7.setTop (mkF m 198 #[.val (.int p0), .val (.int p1), .val (.int p2), .val (.int p3), .val (.int (0 : Int32)), .val (.ref b1), .val (.int (0 : Int32)), .val (.int (0 : Int32)), .val (.int (1 : Int32))] []))
    refine own_up (fun _ k => XS.iload X7.here hx rfl (hb hby at_198) rfl k) ?_
    show own_Go p.tables e below _ (T7.setTop (mkF m 200 #[.val (.int p0), .val (.int p1), .val (.int p2), .val (.int p3), .val (.int (0 : Int32)), .val (.ref b1), .val (.int (0 : Int32)), .val (.int (0 : Int32)), .val (.int (1 : Int32))] [(.int (0 : Int32))]))
    refine own_up (fun _ k => XS.iconst X7.here hx rfl (hb hby at_200) k) ?_
    show own_Go p.tables e below _ (T7.setTop (mkF m 201 #[.val (.int p0), .val (.int p1), .val (.int p2), .val (.int p3), .val (.int (0 : Int32)), .val (.ref b1), .val (.int (0 : Int32)), .val (.int (0 : Int32)), .val (.int (1 : Int32))] [(.int (3 : Int32)), (.int (0 : Int32))]))
    refine own_up (fun _ k => XS.icmpYes X7.here hx rfl (pc0 := 201) (pc' := 230) rfl (hb hby at_201) rfl (tlt (by decide)).1 (by decide) (by decide) k) ?_
    show own_Go p.tables e below _ (T7.setTop (mkF m 230 #[.val (.int p0), .val (.int p1), .val (.int p2), .val (.int p3), .val (.int (0 : Int32)), .val (.ref b1), .val (.int (0 : Int32)), .val (.int (0 : Int32)), .val (.int (1 : Int32))] []))
    refine own_up (fun _ k => XS.iload X7.here hx rfl (hb hby at_230) rfl k) ?_
    show own_Go p.tables e below _ (T7.setTop (mkF m 232 #[.val (.int p0), .val (.int p1), .val (.int p2), .val (.int p3), .val (.int (0 : Int32)), .val (.ref b1), .val (.int (0 : Int32)), .val (.int (0 : Int32)), .val (.int (1 : Int32))] [(.int (1 : Int32))]))
    exact own_end X7 hlk (v := some (.int (1 : Int32))) (fun h => by rw [Bd.returns] at h; cases h) (fun fs hr => retN X7 hx (z := (1 : Int32)) (t := .boolean) Bd.returns (by simp) (hb hby at_232) hr) eq7 ⟨rfl, N7⟩ (by decide) (by decide)
  ·
    refine own_up (fun _ k => XS.iloadN X0.here hx rfl (hb hby at_0) rfl k) ?_
    show own_Go p.tables e below _ (s₁.setTop (mkF m 1 #[.val (.int p0), .val (.int p1), .val (.int p2), .val (.int p3), .unset, .unset, .unset, .unset, .unset] [(.int p0)]))
    refine own_up (fun _ k => XS.iconst X0.here hx rfl (hb hby at_1) k) ?_
    show own_Go p.tables e below _ (s₁.setTop (mkF m 2 #[.val (.int p0), .val (.int p1), .val (.int p2), .val (.int p3), .unset, .unset, .unset, .unset, .unset] [(.int (3 : Int32)), (.int p0)]))
    refine own_up (fun _ k => XS.iand X0.here hx rfl (hb hby at_2) rfl k) ?_
    show own_Go p.tables e below _ (s₁.setTop (mkF m 3 #[.val (.int p0), .val (.int p1), .val (.int p2), .val (.int p3), .unset, .unset, .unset, .unset, .unset] [(.int (p0 &&& (3 : Int32)))]))
    rw [hm]
    show own_Go p.tables e below _ (s₁.setTop (mkF m 3 #[.val (.int p0), .val (.int p1), .val (.int p2), .val (.int p3), .unset, .unset, .unset, .unset, .unset] [(.int (1 : Int32))]))
    refine own_up (fun _ k => XS.istore X0.here hx rfl (hb hby at_3) rfl (l' := #[.val (.int p0), .val (.int p1), .val (.int p2), .val (.int p3), .val (.int (1 : Int32)), .unset, .unset, .unset, .unset]) rfl k) ?_
    show own_Go p.tables e below _ (s₁.setTop (mkF m 5 #[.val (.int p0), .val (.int p1), .val (.int p2), .val (.int p3), .val (.int (1 : Int32)), .unset, .unset, .unset, .unset] []))
    obtain ⟨T11, h11, X11, e11, E11, A11, D11, -, st11⟩ := newO X0 hx hZ hown (hw _ (List.mem_of_getElem? (i := 0) rfl)) (hw _ (List.mem_of_getElem? (i := 1) rfl)) (hw _ (List.mem_of_getElem? (i := 2) rfl)) e0 (g := (mkF m 5 #[.val (.int p0), .val (.int p1), .val (.int p2), .val (.int p3), .val (.int (1 : Int32)), .unset, .unset, .unset, .unset] [])) rfl (hb hby at_5) (by decide) (by decide)
    obtain ⟨b11, g11⟩ : ∃ z, z = h0.size := ⟨_, rfl⟩
    rw [← g11] at A11 D11 st11
    have ge11 : n0 ≤ b11 := Nat.le_trans Z0 (Nat.le_of_eq g11.symm)
    refine own_up st11 ?_
    have F11_offsets : Fld Z h11 b11 "com/example/querygraft/querygraft/format/CompressedRows$Layout" "offsets" "[I" .null := D11 (Or.inr (hw _ (List.mem_of_getElem? (i := 11) rfl))) (ty := (.array .int)) (by decide)
    show own_Go p.tables e below _ (T11.setTop (mkF m 8 #[.val (.int p0), .val (.int p1), .val (.int p2), .val (.int p3), .val (.int (1 : Int32)), .unset, .unset, .unset, .unset] [(.ref b11)]))
    refine own_up (fun _ k => XS.dup X11.here hx rfl (hb hby at_8) rfl rfl k) ?_
    show own_Go p.tables e below _ (T11.setTop (mkF m 9 #[.val (.int p0), .val (.int p1), .val (.int p2), .val (.int p3), .val (.int (1 : Int32)), .unset, .unset, .unset, .unset] [(.ref b11), (.ref b11)]))
    refine own_up (fun _ k => XS.iload X11.here hx rfl (hb hby at_9) rfl k) ?_
    show own_Go p.tables e below _ (T11.setTop (mkF m 11 #[.val (.int p0), .val (.int p1), .val (.int p2), .val (.int p3), .val (.int (1 : Int32)), .unset, .unset, .unset, .unset] [(.int (1 : Int32)), (.ref b11), (.ref b11)]))
    have f13 : n0 ≤ h11.size := (Nat.le_trans Z0 E11.1)
    obtain ⟨_, _, ⟨T12, L12, k12, n12⟩, -, X12, ⟨Lc12, hQ12, l12, y12, z12⟩, st12⟩ := X11.specialBack hx (y := (⟨"com/example/querygraft/querygraft/format/CompressedRows$Layout", "<init>", "(I)V"⟩ : MethodName)) rfl hown (mvT hZ (hw _ (List.mem_of_getElem? (i := 3) rfl))) (mvT hZ (hw _ (List.mem_of_getElem? (i := 4) rfl))) (mvT hZ (hw _ (List.mem_of_getElem? (i := 5) rfl))) (by decide) (backOf (W := 1) (rm1 l Z a0 hw [] b11 (1 : Int32) h11 n0 f13 A11 F11_offsets ge11 (by decide) (by decide)) hZ (hw _ (List.mem_of_getElem? (i := 5) rfl)) (hw _ (List.mem_of_getElem? (i := 2) rfl)) (by decide) (by decide)) (g := (mkF m 11 #[.val (.int p0), .val (.int p1), .val (.int p2), .val (.int p3), .val (.int (1 : Int32)), .unset, .unset, .unset, .unset] [(.int (1 : Int32)), (.ref b11), (.ref b11)])) rfl (by rw [hml]; rfl) (Steps.refl _) (a := b11) (argsL := [(.int (1 : Int32))]) (rest := [(.ref b11)]) (lenOf own_pd0 rfl) rfl (by show 2 * 0 + _ ≤ _; exact Nat.le_of_eq rfl) (hb hby at_11) (fun _ _ => ⟨rfl, e11, (by decide : 1 + 1 ≤ _), (by decide : 2 + 4 ≤ _)⟩)
    dsimp only [Pt.U, Pt.locs, Pt.cells, Pt.slots] at X12 l12 y12 z12 st12 hQ12
    subst l12 y12 z12
    obtain ⟨bo_12, ko_12, rfl, N12q, K12, P12_0, P12_1, P12_2, P12_3, P12_4⟩ := hQ12
    have N12 := Fr.app N0 N12q
    refine own_up (fun _ k => st12.trans k) ?_
    show own_Go p.tables e below _ (T12.setTop (mkF m 14 #[.val (.int p0), .val (.int p1), .val (.int p2), .val (.int p3), .val (.int (1 : Int32)), .unset, .unset, .unset, .unset] [(.ref b11)]))
    have r14 : Arv Z T12.heap bo_12 ko_12 .int (2 : Int32) [(.int (0 : Int32)), (.int (0 : Int32))] (.int (0 : Int32)) := (P12_4.pad (pad_rep [] (.int (0 : Int32)) 2))
    refine own_up (fun _ k => XS.astore X12.here hx rfl (hb hby at_14) rfl rfl (l' := #[.val (.int p0), .val (.int p1), .val (.int p2), .val (.int p3), .val (.int (1 : Int32)), .val (.ref b11), .unset, .unset, .unset]) rfl k) ?_
    show own_Go p.tables e below _ (T12.setTop (mkF m 16 #[.val (.int p0), .val (.int p1), .val (.int p2), .val (.int p3), .val (.int (1 : Int32)), .val (.ref b11), .unset, .unset, .unset] []))
    refine own_up (fun _ k => XS.iload X12.here hx rfl (hb hby at_16) rfl k) ?_
    show own_Go p.tables e below _ (T12.setTop (mkF m 18 #[.val (.int p0), .val (.int p1), .val (.int p2), .val (.int p3), .val (.int (1 : Int32)), .val (.ref b11), .unset, .unset, .unset] [(.int (1 : Int32))]))
    refine own_up (fun _ k => XS.ifNo X12.here hx rfl (hb hby at_18) rfl ((if0 _ _).trans (tlt (by decide)).2.2.2) k) ?_
    show own_Go p.tables e below _ (T12.setTop (mkF m 21 #[.val (.int p0), .val (.int p1), .val (.int p2), .val (.int p3), .val (.int (1 : Int32)), .val (.ref b11), .unset, .unset, .unset] []))
    refine own_up (fun _ k => XS.aload X12.here hx rfl (hb hby at_21) rfl rfl k) ?_
    show own_Go p.tables e below _ (T12.setTop (mkF m 23 #[.val (.int p0), .val (.int p1), .val (.int p2), .val (.int p3), .val (.int (1 : Int32)), .val (.ref b11), .unset, .unset, .unset] [(.ref b11)]))
    refine own_up (fun _ k => XS.iconst X12.here hx rfl (hb hby at_23) k) ?_
    show own_Go p.tables e below _ (T12.setTop (mkF m 24 #[.val (.int p0), .val (.int p1), .val (.int p2), .val (.int p3), .val (.int (1 : Int32)), .val (.ref b11), .unset, .unset, .unset] [(.int (0 : Int32)), (.ref b11)]))
    refine own_up (fun _ k => XS.iloadN X12.here hx rfl (hb hby at_24) rfl k) ?_
    show own_Go p.tables e below _ (T12.setTop (mkF m 25 #[.val (.int p0), .val (.int p1), .val (.int p2), .val (.int p3), .val (.int (1 : Int32)), .val (.ref b11), .unset, .unset, .unset] [(.int p1), (.int (0 : Int32)), (.ref b11)]))
    have f16 : n0 ≤ T12.heap.size := (Nat.le_trans f13 K12.1)
    obtain ⟨cq15, kq15, q15a, q15b, q15c⟩ := isOf hZ rfl P12_2
    obtain ⟨_, _, ⟨T15, L15, k15, n15⟩, -, X15, ⟨Lc15, hQ15, l15, y15, z15⟩, st15⟩ := X12.virtualBack hx (y := (⟨"com/example/querygraft/querygraft/format/CompressedRows$Layout", "count", "(II)V"⟩ : MethodName)) (z := (⟨"com/example/querygraft/querygraft/format/CompressedRows$Layout", "count", "(II)V"⟩ : MethodName)) hown (mvT hZ (hw _ (List.mem_of_getElem? (i := 22) rfl))) (mvT hZ (hw _ (List.mem_of_getElem? (i := 23) rfl))) (notFace_of_selects (args := #[]) (mvT hZ (hw _ (List.mem_of_getElem? (i := 25) rfl)))) (mvT hZ (hw _ (List.mem_of_getElem? (i := 25) rfl))) (mvT hZ (hw _ (List.mem_of_getElem? (i := 24) rfl))) (by decide) (backOf (W := 0) (rm2 l Z a0 hw [] b11 (0 : Int32) p1 bo_12 ko_12 (2 : Int32) [(.int (0 : Int32)), (.int (0 : Int32))] (0 : Int32) T12.heap n0 f16 P12_3 r14 P12_0 ⟨by decide, by decide⟩ rfl (by show _ < (2 : Nat); decide)) hZ (hw _ (List.mem_of_getElem? (i := 26) rfl)) (hw _ (List.mem_of_getElem? (i := 2) rfl)) (by decide) (by decide)) q15a q15c (g := (mkF m 25 #[.val (.int p0), .val (.int p1), .val (.int p2), .val (.int p3), .val (.int (1 : Int32)), .val (.ref b11), .unset, .unset, .unset] [(.int p1), (.int (0 : Int32)), (.ref b11)])) rfl (by rw [hml]; rfl) (Steps.refl _) (argsL := [(.int (0 : Int32)), (.int p1)]) (rest := []) (lenOf own_pd3 rfl) rfl (by show 2 * 0 + _ ≤ _; exact Nat.le_of_eq rfl) (hb hby at_25) (fun _ _ => ⟨rfl, rfl, (by decide : 2 + 0 ≤ _), (by decide : 6 + 0 ≤ _)⟩)
    dsimp only [Pt.U, Pt.locs, Pt.cells, Pt.slots] at X15 l15 y15 z15 st15 hQ15
    subst l15 y15 z15
    obtain ⟨rfl, N15q, K15, P15_0⟩ := hQ15
    have N15 := Fr.app N12 N15q
    refine own_up (fun _ k => st15.trans k) ?_
    show own_Go p.tables e below _ (T15.setTop (mkF m 28 #[.val (.int p0), .val (.int p1), .val (.int p2), .val (.int p3), .val (.int (1 : Int32)), .val (.ref b11), .unset, .unset, .unset] []))
    have r17 : Arv Z T15.heap bo_12 ko_12 .int (2 : Int32) [(.int (0 : Int32)), (.int ((0 : Int32) + p1))] (.int (0 : Int32)) := P15_0
    refine own_up (fun _ k => XS.iload X15.here hx rfl (hb hby at_28) rfl k) ?_
    show own_Go p.tables e below _ (T15.setTop (mkF m 30 #[.val (.int p0), .val (.int p1), .val (.int p2), .val (.int p3), .val (.int (1 : Int32)), .val (.ref b11), .unset, .unset, .unset] [(.int (1 : Int32))]))
    refine own_up (fun _ k => XS.iconst X15.here hx rfl (hb hby at_30) k) ?_
    show own_Go p.tables e below _ (T15.setTop (mkF m 31 #[.val (.int p0), .val (.int p1), .val (.int p2), .val (.int p3), .val (.int (1 : Int32)), .val (.ref b11), .unset, .unset, .unset] [(.int (1 : Int32)), (.int (1 : Int32))]))
    refine own_up (fun _ k => XS.icmpYes X15.here hx rfl (pc0 := 31) (pc' := 41) rfl (hb hby at_31) rfl (flt (by decide)).2.2.2 (by decide) (by decide) k) ?_
    show own_Go p.tables e below _ (T15.setTop (mkF m 41 #[.val (.int p0), .val (.int p1), .val (.int p2), .val (.int p3), .val (.int (1 : Int32)), .val (.ref b11), .unset, .unset, .unset] []))
    refine own_up (fun _ k => XS.iload X15.here hx rfl (hb hby at_41) rfl k) ?_
    show own_Go p.tables e below _ (T15.setTop (mkF m 43 #[.val (.int p0), .val (.int p1), .val (.int p2), .val (.int p3), .val (.int (1 : Int32)), .val (.ref b11), .unset, .unset, .unset] [(.int (1 : Int32))]))
    refine own_up (fun _ k => XS.iconst X15.here hx rfl (hb hby at_43) k) ?_
    show own_Go p.tables e below _ (T15.setTop (mkF m 44 #[.val (.int p0), .val (.int p1), .val (.int p2), .val (.int p3), .val (.int (1 : Int32)), .val (.ref b11), .unset, .unset, .unset] [(.int (2 : Int32)), (.int (1 : Int32))]))
    refine own_up (fun _ k => XS.icmpYes X15.here hx rfl (pc0 := 44) (pc' := 54) rfl (hb hby at_44) rfl (flt (by decide)).2.2.2 (by decide) (by decide) k) ?_
    show own_Go p.tables e below _ (T15.setTop (mkF m 54 #[.val (.int p0), .val (.int p1), .val (.int p2), .val (.int p3), .val (.int (1 : Int32)), .val (.ref b11), .unset, .unset, .unset] []))
    refine own_up (fun _ k => XS.aload X15.here hx rfl (hb hby at_54) rfl rfl k) ?_
    show own_Go p.tables e below _ (T15.setTop (mkF m 56 #[.val (.int p0), .val (.int p1), .val (.int p2), .val (.int p3), .val (.int (1 : Int32)), .val (.ref b11), .unset, .unset, .unset] [(.ref b11)]))
    have f19 : Fld Z T15.heap b11 "com/example/querygraft/querygraft/format/CompressedRows$Layout" "offsets" "[I" (.ref bo_12) := (P12_3.keep K15 (ninS P12_1 nin0))
    have f20 : n0 ≤ T15.heap.size := (Nat.le_trans f16 K15.1)
    have f21 : Exa Z T15.heap b11 "com/example/querygraft/querygraft/format/CompressedRows$Layout" := (P12_2.keep K15)
    obtain ⟨cq18, kq18, q18a, q18b, q18c⟩ := isOf hZ rfl f21
    obtain ⟨_, _, ⟨T18, L18, k18, n18⟩, -, X18, ⟨Lc18, hQ18, l18, y18, z18⟩, st18⟩ := X15.virtualBack hx (y := (⟨"com/example/querygraft/querygraft/format/CompressedRows$Layout", "layOut", "()I"⟩ : MethodName)) (z := (⟨"com/example/querygraft/querygraft/format/CompressedRows$Layout", "layOut", "()I"⟩ : MethodName)) hown (mvT hZ (hw _ (List.mem_of_getElem? (i := 12) rfl))) (mvT hZ (hw _ (List.mem_of_getElem? (i := 13) rfl))) (notFace_of_selects (args := #[]) (mvT hZ (hw _ (List.mem_of_getElem? (i := 15) rfl)))) (mvT hZ (hw _ (List.mem_of_getElem? (i := 15) rfl))) (mvT hZ (hw _ (List.mem_of_getElem? (i := 14) rfl))) (by decide) (backOf (W := 0) (rm4_1 l Z a0 hw [] b11 bo_12 ko_12 (0 : Int32) ((0 : Int32) + p1) T15.heap n0 f20 f19 r17 P12_0 P12_1) hZ (hw _ (List.mem_of_getElem? (i := 16) rfl)) (hw _ (List.mem_of_getElem? (i := 2) rfl)) (by decide) (by decide)) q18a q18c (g := (mkF m 56 #[.val (.int p0), .val (.int p1), .val (.int p2), .val (.int p3), .val (.int (1 : Int32)), .val (.ref b11), .unset, .unset, .unset] [(.ref b11)])) rfl (by rw [hml]; rfl) (Steps.refl _) (argsL := []) (rest := []) (lenOf own_pd1 rfl) rfl (by show 2 * 0 + _ ≤ _; exact Nat.le_of_eq rfl) (hb hby at_56) (fun _ _ => ⟨rfl, rfl, (by decide : 2 + 0 ≤ _), (by decide : 6 + 0 ≤ _)⟩)
    dsimp only [Pt.U, Pt.locs, Pt.cells, Pt.slots] at X18 l18 y18 z18 st18 hQ18
    subst l18 y18 z18
    obtain ⟨rfl, N18q, K18, P18_0⟩ := hQ18
    have N18 := Fr.app N15 N18q
    refine own_up (fun _ k => st18.trans k) ?_
    show own_Go p.tables e below _ (T18.setTop (mkF m 59 #[.val (.int p0), .val (.int p1), .val (.int p2), .val (.int p3), .val (.int (1 : Int32)), .val (.ref b11), .unset, .unset, .unset] [(.int (((0 : Int32) + p1) + (0 : Int32)))]))
    refine own_up (fun _ k => XS.istore X18.here hx rfl (hb hby at_59) rfl (l' := #[.val (.int p0), .val (.int p1), .val (.int p2), .val (.int p3), .val (.int (1 : Int32)), .val (.ref b11), .val (.int (((0 : Int32) + p1) + (0 : Int32))), .unset, .unset]) rfl k) ?_
    show own_Go p.tables e below _ (T18.setTop (mkF m 61 #[.val (.int p0), .val (.int p1), .val (.int p2), .val (.int p3), .val (.int (1 : Int32)), .val (.ref b11), .val (.int (((0 : Int32) + p1) + (0 : Int32))), .unset, .unset] []))
    refine own_up (fun _ k => XS.iload X18.here hx rfl (hb hby at_61) rfl k) ?_
    show own_Go p.tables e below _ (T18.setTop (mkF m 63 #[.val (.int p0), .val (.int p1), .val (.int p2), .val (.int p3), .val (.int (1 : Int32)), .val (.ref b11), .val (.int (((0 : Int32) + p1) + (0 : Int32))), .unset, .unset] [(.int (1 : Int32))]))
    refine own_up (fun _ k => XS.ifYes X18.here hx rfl (pc0 := 63) (pc' := 72) rfl (hb hby at_63) rfl ((if0 _ _).trans (feq (by decide)).2) (by decide) (by decide) k) ?_
    show own_Go p.tables e below _ (T18.setTop (mkF m 72 #[.val (.int p0), .val (.int p1), .val (.int p2), .val (.int p3), .val (.int (1 : Int32)), .val (.ref b11), .val (.int (((0 : Int32) + p1) + (0 : Int32))), .unset, .unset] []))
    refine own_up (fun _ k => XS.iload X18.here hx rfl (hb hby at_72) rfl k) ?_
    show own_Go p.tables e below _ (T18.setTop (mkF m 74 #[.val (.int p0), .val (.int p1), .val (.int p2), .val (.int p3), .val (.int (1 : Int32)), .val (.ref b11), .val (.int (((0 : Int32) + p1) + (0 : Int32))), .unset, .unset] [(.int (1 : Int32))]))
    refine own_up (fun _ k => XS.iconst X18.here hx rfl (hb hby at_74) k) ?_
    show own_Go p.tables e below _ (T18.setTop (mkF m 75 #[.val (.int p0), .val (.int p1), .val (.int p2), .val (.int p3), .val (.int (1 : Int32)), .val (.ref b11), .val (.int (((0 : Int32) + p1) + (0 : Int32))), .unset, .unset] [(.int (1 : Int32)), (.int (1 : Int32))]))
    refine own_up (fun _ k => XS.icmpNo X18.here hx rfl (hb hby at_75) rfl (teq (by decide)).2 k) ?_
    show own_Go p.tables e below _ (T18.setTop (mkF m 78 #[.val (.int p0), .val (.int p1), .val (.int p2), .val (.int p3), .val (.int (1 : Int32)), .val (.ref b11), .val (.int (((0 : Int32) + p1) + (0 : Int32))), .unset, .unset] []))
    refine own_up (fun _ k => XS.iloadN X18.here hx rfl (hb hby at_78) rfl k) ?_
    show own_Go p.tables e below _ (T18.setTop (mkF m 79 #[.val (.int p0), .val (.int p1), .val (.int p2), .val (.int p3), .val (.int (1 : Int32)), .val (.ref b11), .val (.int (((0 : Int32) + p1) + (0 : Int32))), .unset, .unset] [(.int p1)]))
    refine own_up (fun _ k => XS.istore X18.here hx rfl (hb hby at_79) rfl (l' := #[.val (.int p0), .val (.int p1), .val (.int p2), .val (.int p3), .val (.int (1 : Int32)), .val (.ref b11), .val (.int (((0 : Int32) + p1) + (0 : Int32))), .val (.int p1), .unset]) rfl k) ?_
    show own_Go p.tables e below _ (T18.setTop (mkF m 81 #[.val (.int p0), .val (.int p1), .val (.int p2), .val (.int p3), .val (.int (1 : Int32)), .val (.ref b11), .val (.int (((0 : Int32) + p1) + (0 : Int32))), .val (.int p1), .unset] []))
    refine own_up (fun _ k => XS.goto X18.here hx rfl (pc0 := 81) (pc' := 105) rfl (hb hby at_81) (by decide) (by decide) k) ?_
    show own_Go p.tables e below _ (T18.setTop (mkF m 105 #[.val (.int p0), .val (.int p1), .val (.int p2), .val (.int p3), .val (.int (1 : Int32)), .val (.ref b11), .val (.int (((0 : Int32) + p1) + (0 : Int32))), .val (.int p1), .unset] []))
    refine own_up (fun _ k => XS.iload X18.here hx rfl (hb hby at_105) rfl k) ?_
    show own_Go p.tables e below _ (T18.setTop (mkF m 107 #[.val (.int p0), .val (.int p1), .val (.int p2), .val (.int p3), .val (.int (1 : Int32)), .val (.ref b11), .val (.int (((0 : Int32) + p1) + (0 : Int32))), .val (.int p1), .unset] [(.int (((0 : Int32) + p1) + (0 : Int32)))]))
    refine own_up (fun _ k => XS.iload X18.here hx rfl (hb hby at_107) rfl k) ?_
    show own_Go p.tables e below _ (T18.setTop (mkF m 109 #[.val (.int p0), .val (.int p1), .val (.int p2), .val (.int p3), .val (.int (1 : Int32)), .val (.ref b11), .val (.int (((0 : Int32) + p1) + (0 : Int32))), .val (.int p1), .unset] [(.int p1), (.int (((0 : Int32) + p1) + (0 : Int32)))]))
    refine own_up (fun _ k => XS.icmpNo X18.here hx rfl (hb hby at_109) rfl (teq (own_s1 p1)).2 k) ?_
    show own_Go p.tables e below _ (T18.setTop (mkF m 112 #[.val (.int p0), .val (.int p1), .val (.int p2), .val (.int p3), .val (.int (1 : Int32)), .val (.ref b11), .val (.int (((0 : Int32) + p1) + (0 : Int32))), .val (.int p1), .unset] []))
    refine own_up (fun _ k => XS.iconst X18.here hx rfl (hb hby at_112) k) ?_
    show own_Go p.tables e below _ (T18.setTop (mkF m 113 #[.val (.int p0), .val (.int p1), .val (.int p2), .val (.int p3), .val (.int (1 : Int32)), .val (.ref b11), .val (.int (((0 : Int32) + p1) + (0 : Int32))), .val (.int p1), .unset] [(.int (1 : Int32))]))
    refine own_up (fun _ k => XS.goto X18.here hx rfl (pc0 := 113) (pc' := 117) rfl (hb hby at_113) (by decide) (by decide) k) ?_
    show own_Go p.tables e below _ (T18.setTop (mkF m 117 #[.val (.int p0), .val (.int p1), .val (.int p2), .val (.int p3), .val (.int (1 : Int32)), .val (.ref b11), .val (.int (((0 : Int32) + p1) + (0 : Int32))), .val (.int p1), .unset] [(.int (1 : Int32))]))
    refine own_up (fun _ k => XS.istore X18.here hx rfl (hb hby at_117) rfl (l' := #[.val (.int p0), .val (.int p1), .val (.int p2), .val (.int p3), .val (.int (1 : Int32)), .val (.ref b11), .val (.int (((0 : Int32) + p1) + (0 : Int32))), .val (.int p1), .val (.int (1 : Int32))]) rfl k) ?_
    show own_Go p.tables e below _ (T18.setTop (mkF m 119 #[.val (.int p0), .val (.int p1), .val (.int p2), .val (.int p3), .val (.int (1 : Int32)), .val (.ref b11), .val (.int (((0 : Int32) + p1) + (0 : Int32))), .val (.int p1), .val (.int (1 : Int32))] []))
    refine own_up (fun _ k => XS.iload X18.here hx rfl (hb hby at_119) rfl k) ?_
    show own_Go p.tables e below _ (T18.setTop (mkF m 121 #[.val (.int p0), .val (.int p1), .val (.int p2), .val (.int p3), .val (.int (1 : Int32)), .val (.ref b11), .val (.int (((0 : Int32) + p1) + (0 : Int32))), .val (.int p1), .val (.int (1 : Int32))] [(.int (1 : Int32))]))
    refine own_up (fun _ k => XS.ifNo X18.here hx rfl (hb hby at_121) rfl ((if0 _ _).trans (feq (by decide)).1) k) ?_
    show own_Go p.tables e below _ (T18.setTop (mkF m 124 #[.val (.int p0), .val (.int p1), .val (.int p2), .val (.int p3), .val (.int (1 : Int32)), .val (.ref b11), .val (.int (((0 : Int32) + p1) + (0 : Int32))), .val (.int p1), .val (.int (1 : Int32))] []))
    refine own_up (fun _ k => XS.aload X18.here hx rfl (hb hby at_124) rfl rfl k) ?_
    show own_Go p.tables e below _ (T18.setTop (mkF m 126 #[.val (.int p0), .val (.int p1), .val (.int p2), .val (.int p3), .val (.int (1 : Int32)), .val (.ref b11), .val (.int (((0 : Int32) + p1) + (0 : Int32))), .val (.int p1), .val (.int (1 : Int32))] [(.ref b11)]))
    refine own_up (fun _ k => XS.iconst X18.here hx rfl (hb hby at_126) k) ?_
    show own_Go p.tables e below _ (T18.setTop (mkF m 127 #[.val (.int p0), .val (.int p1), .val (.int p2), .val (.int p3), .val (.int (1 : Int32)), .val (.ref b11), .val (.int (((0 : Int32) + p1) + (0 : Int32))), .val (.int p1), .val (.int (1 : Int32))] [(.int (0 : Int32)), (.ref b11)]))
    have f23 : Fld Z T18.heap b11 "com/example/querygraft/querygraft/format/CompressedRows$Layout" "offsets" "[I" (.ref bo_12) := (f19.keep K18 (ninS P12_1 nin0))
    have f24 : n0 ≤ T18.heap.size := (Nat.le_trans f20 K18.1)
    have f25 : Exa Z T18.heap b11 "com/example/querygraft/querygraft/format/CompressedRows$Layout" := (f21.keep K18)
    obtain ⟨cq22, kq22, q22a, q22b, q22c⟩ := isOf hZ rfl f25
    obtain ⟨_, _, ⟨T22, L22, k22, n22⟩, -, X22, ⟨Lc22, hQ22, l22, y22, z22⟩, st22⟩ := X18.virtualBack hx (y := (⟨"com/example/querygraft/querygraft/format/CompressedRows$Layout", "first", "(I)I"⟩ : MethodName)) (z := (⟨"com/example/querygraft/querygraft/format/CompressedRows$Layout", "first", "(I)I"⟩ : MethodName)) hown (mvT hZ (hw _ (List.mem_of_getElem? (i := 17) rfl))) (mvT hZ (hw _ (List.mem_of_getElem? (i := 18) rfl))) (notFace_of_selects (args := #[]) (mvT hZ (hw _ (List.mem_of_getElem? (i := 20) rfl)))) (mvT hZ (hw _ (List.mem_of_getElem? (i := 20) rfl))) (mvT hZ (hw _ (List.mem_of_getElem? (i := 19) rfl))) (by decide) (backOf (W := 0) (rm3 l Z a0 hw [] b11 (0 : Int32) bo_12 ko_12 (2 : Int32) [(.int (0 : Int32)), (.int (((0 : Int32) + p1) + (0 : Int32)))] (0 : Int32) T18.heap n0 f24 f23 P18_0 ⟨by decide, by decide⟩ rfl) hZ (hw _ (List.mem_of_getElem? (i := 21) rfl)) (hw _ (List.mem_of_getElem? (i := 2) rfl)) (by decide) (by decide)) q22a q22c (g := (mkF m 127 #[.val (.int p0), .val (.int p1), .val (.int p2), .val (.int p3), .val (.int (1 : Int32)), .val (.ref b11), .val (.int (((0 : Int32) + p1) + (0 : Int32))), .val (.int p1), .val (.int (1 : Int32))] [(.int (0 : Int32)), (.ref b11)])) rfl (by rw [hml]; rfl) (Steps.refl _) (argsL := [(.int (0 : Int32))]) (rest := []) (lenOf own_pd2 rfl) rfl (by show 2 * 0 + _ ≤ _; exact Nat.le_of_eq rfl) (hb hby at_127) (fun _ _ => ⟨rfl, rfl, (by decide : 2 + 0 ≤ _), (by decide : 6 + 0 ≤ _)⟩)
    dsimp only [Pt.U, Pt.locs, Pt.cells, Pt.slots] at X22 l22 y22 z22 st22 hQ22
    subst l22 y22 z22
    obtain ⟨rfl, N22q, eq22⟩ := hQ22
    have N22 := Fr.app N18 N22q
    refine own_up (fun _ k => st22.trans k) ?_
    show own_Go p.tables e below _ (T22.setTop (mkF m 130 #[.val (.int p0), .val (.int p1), .val (.int p2), .val (.int p3), .val (.int (1 : Int32)), .val (.ref b11), .val (.int (((0 : Int32) + p1) + (0 : Int32))), .val (.int p1), .val (.int (1 : Int32))] [(.int (0 : Int32))]))
    refine own_up (fun _ k => XS.ifNo X22.here hx rfl (hb hby at_130) rfl ((if0 _ _).trans (teq rfl).2) k) ?_
    show own_Go p.tables e below _ (T22.setTop (mkF m 133 #[.val (.int p0), .val (.int p1), .val (.int p2), .val (.int p3), .val (.int (1 : Int32)), .val (.ref b11), .val (.int (((0 : Int32) + p1) + (0 : Int32))), .val (.int p1), .val (.int (1 : Int32))] []))
    refine own_up (fun _ k => XS.iconst X22.here hx rfl (hb hby at_133) k) ?_
    show own_Go p.tables e below _ (T22.setTop (mkF m 134 #[.val (.int p0), .val (.int p1), .val (.int p2), .val (.int p3), .val (.int (1 : Int32)), .val (.ref b11), .val (.int (((0 : Int32) + p1) + (0 : Int32))), .val (.int p1), .val (.int (1 : Int32))] [(.int (1 : Int32))]))
    refine own_up (fun _ k => XS.goto X22.here hx rfl (pc0 := 134) (pc' := 138) rfl (hb hby at_134) (by decide) (by decide) k) ?_
    show own_Go p.tables e below _ (T22.setTop (mkF m 138 #[.val (.int p0), .val (.int p1), .val (.int p2), .val (.int p3), .val (.int (1 : Int32)), .val (.ref b11), .val (.int (((0 : Int32) + p1) + (0 : Int32))), .val (.int p1), .val (.int (1 : Int32))] [(.int (1 : Int32))]))
    refine own_up (fun _ k => XS.istore X22.here hx rfl (hb hby at_138) rfl (l' := #[.val (.int p0), .val (.int p1), .val (.int p2), .val (.int p3), .val (.int (1 : Int32)), .val (.ref b11), .val (.int (((0 : Int32) + p1) + (0 : Int32))), .val (.int p1), .val (.int (1 : Int32))]) rfl k) ?_
    show own_Go p.tables e below _ (T22.setTop (mkF m 140 #[.val (.int p0), .val (.int p1), .val (.int p2), .val (.int p3), .val (.int (1 : Int32)), .val (.ref b11), .val (.int (((0 : Int32) + p1) + (0 : Int32))), .val (.int p1), .val (.int (1 : Int32))] []))
    refine own_up (fun _ k => XS.iload X22.here hx rfl (hb hby at_140) rfl k) ?_
    show own_Go p.tables e below _ (T22.setTop (mkF m 142 #[.val (.int p0), .val (.int p1), .val (.int p2), .val (.int p3), .val (.int (1 : Int32)), .val (.ref b11), .val (.int (((0 : Int32) + p1) + (0 : Int32))), .val (.int p1), .val (.int (1 : Int32))] [(.int (1 : Int32))]))
    refine own_up (fun _ k => XS.iconst X22.here hx rfl (hb hby at_142) k) ?_
    show own_Go p.tables e below _ (T22.setTop (mkF m 143 #[.val (.int p0), .val (.int p1), .val (.int p2), .val (.int p3), .val (.int (1 : Int32)), .val (.ref b11), .val (.int (((0 : Int32) + p1) + (0 : Int32))), .val (.int p1), .val (.int (1 : Int32))] [(.int (1 : Int32)), (.int (1 : Int32))]))
    refine own_up (fun _ k => XS.icmpNo X22.here hx rfl (hb hby at_143) rfl (flt (by decide)).1 k) ?_
    show own_Go p.tables e below _ (T22.setTop (mkF m 146 #[.val (.int p0), .val (.int p1), .val (.int p2), .val (.int p3), .val (.int (1 : Int32)), .val (.ref b11), .val (.int (((0 : Int32) + p1) + (0 : Int32))), .val (.int p1), .val (.int (1 : Int32))] []))
    refine own_up (fun _ k => XS.iload X22.here hx rfl (hb hby at_146) rfl k) ?_
    show own_Go p.tables e below _ (T22.setTop (mkF m 148 #[.val (.int p0), .val (.int p1), .val (.int p2), .val (.int p3), .val (.int (1 : Int32)), .val (.ref b11), .val (.int (((0 : Int32) + p1) + (0 : Int32))), .val (.int p1), .val (.int (1 : Int32))] [(.int (1 : Int32))]))
    refine own_up (fun _ k => XS.ifNo X22.here hx rfl (hb hby at_148) rfl ((if0 _ _).trans (feq (by decide)).1) k) ?_
    show own_Go p.tables e below _ (T22.setTop (mkF m 151 #[.val (.int p0), .val (.int p1), .val (.int p2), .val (.int p3), .val (.int (1 : Int32)), .val (.ref b11), .val (.int (((0 : Int32) + p1) + (0 : Int32))), .val (.int p1), .val (.int (1 : Int32))] []))
    refine own_up (fun _ k => XS.aload X22.here hx rfl (hb hby at_151) rfl rfl k) ?_
    show own_Go p.tables e below _ (T22.setTop (mkF m 153 #[.val (.int p0), .val (.int p1), .val (.int p2), .val (.int p3), .val (.int (1 : Int32)), .val (.ref b11), .val (.int (((0 : Int32) + p1) + (0 : Int32))), .val (.int p1), .val (.int (1 : Int32))] [(.ref b11)]))
    refine own_up (fun _ k => XS.iconst X22.here hx rfl (hb hby at_153) k) ?_
    show own_Go p.tables e below _ (T22.setTop (mkF m 154 #[.val (.int p0), .val (.int p1), .val (.int p2), .val (.int p3), .val (.int (1 : Int32)), .val (.ref b11), .val (.int (((0 : Int32) + p1) + (0 : Int32))), .val (.int p1), .val (.int (1 : Int32))] [(.int (1 : Int32)), (.ref b11)]))
    obtain ⟨cq26, kq26, q26a, q26b, q26c⟩ := isOf hZ eq22 f25
    obtain ⟨_, _, ⟨T26, L26, k26, n26⟩, -, X26, ⟨Lc26, hQ26, l26, y26, z26⟩, st26⟩ := X22.virtualBack hx (y := (⟨"com/example/querygraft/querygraft/format/CompressedRows$Layout", "first", "(I)I"⟩ : MethodName)) (z := (⟨"com/example/querygraft/querygraft/format/CompressedRows$Layout", "first", "(I)I"⟩ : MethodName)) hown (mvT hZ (hw _ (List.mem_of_getElem? (i := 17) rfl))) (mvT hZ (hw _ (List.mem_of_getElem? (i := 18) rfl))) (notFace_of_selects (args := #[]) (mvT hZ (hw _ (List.mem_of_getElem? (i := 20) rfl)))) (mvT hZ (hw _ (List.mem_of_getElem? (i := 20) rfl))) (mvT hZ (hw _ (List.mem_of_getElem? (i := 19) rfl))) (by decide) (backOf (W := 0) (rm3 l Z a0 hw [] b11 (1 : Int32) bo_12 ko_12 (2 : Int32) [(.int (0 : Int32)), (.int (((0 : Int32) + p1) + (0 : Int32)))] (((0 : Int32) + p1) + (0 : Int32)) T18.heap n0 f24 f23 P18_0 ⟨by decide, by decide⟩ rfl) hZ (hw _ (List.mem_of_getElem? (i := 21) rfl)) (hw _ (List.mem_of_getElem? (i := 2) rfl)) (by decide) (by decide)) q26a q26c (g := (mkF m 154 #[.val (.int p0), .val (.int p1), .val (.int p2), .val (.int p3), .val (.int (1 : Int32)), .val (.ref b11), .val (.int (((0 : Int32) + p1) + (0 : Int32))), .val (.int p1), .val (.int (1 : Int32))] [(.int (1 : Int32)), (.ref b11)])) rfl (by rw [hml]; rfl) (Steps.refl _) (argsL := [(.int (1 : Int32))]) (rest := []) (lenOf own_pd2 rfl) rfl (by show 2 * 0 + _ ≤ _; exact Nat.le_of_eq rfl) (hb hby at_154) (fun _ _ => ⟨rfl, eq22, (by decide : 2 + 0 ≤ _), (by decide : 6 + 0 ≤ _)⟩)
    dsimp only [Pt.U, Pt.locs, Pt.cells, Pt.slots] at X26 l26 y26 z26 st26 hQ26
    subst l26 y26 z26
    obtain ⟨rfl, N26q, eq26⟩ := hQ26
    have N26 := Fr.app N22 N26q
    refine own_up (fun _ k => st26.trans k) ?_
    show own_Go p.tables e below _ (T26.setTop (mkF m 157 #[.val (.int p0), .val (.int p1), .val (.int p2), .val (.int p3), .val (.int (1 : Int32)), .val (.ref b11), .val (.int (((0 : Int32) + p1) + (0 : Int32))), .val (.int p1), .val (.int (1 : Int32))] [(.int (((0 : Int32) + p1) + (0 : Int32)))]))
    refine own_up (fun _ k => XS.iloadN X26.here hx rfl (hb hby at_157) rfl k) ?_
    show own_Go p.tables e below _ (T26.setTop (mkF m 158 #[.val (.int p0), .val (.int p1), .val (.int p2), .val (.int p3), .val (.int (1 : Int32)), .val (.ref b11), .val (.int (((0 : Int32) + p1) + (0 : Int32))), .val (.int p1), .val (.int (1 : Int32))] [(.int p1), (.int (((0 : Int32) + p1) + (0 : Int32)))]))
    refine own_up (fun _ k => XS.icmpNo X26.here hx rfl (hb hby at_158) rfl (teq (own_s1 p1)).2 k) ?_
    show own_Go p.tables e below _ (T26.setTop (mkF m 161 #[.val (.int p0), .val (.int p1), .val (.int p2), .val (.int p3), .val (.int (1 : Int32)), .val (.ref b11), .val (.int (((0 : Int32) + p1) + (0 : Int32))), .val (.int p1), .val (.int (1 : Int32))] []))
    refine own_up (fun _ k => XS.iconst X26.here hx rfl (hb hby at_161) k) ?_
    show own_Go p.tables e below _ (T26.setTop (mkF m 162 #[.val (.int p0), .val (.int p1), .val (.int p2), .val (.int p3), .val (.int (1 : Int32)), .val (.ref b11), .val (.int (((0 : Int32) + p1) + (0 : Int32))), .val (.int p1), .val (.int (1 : Int32))] [(.int (1 : Int32))]))
    refine own_up (fun _ k => XS.goto X26.here hx rfl (pc0 := 162) (pc' := 166) rfl (hb hby at_162) (by decide) (by decide) k) ?_
    show own_Go p.tables e below _ (T26.setTop (mkF m 166 #[.val (.int p0), .val (.int p1), .val (.int p2), .val (.int p3), .val (.int (1 : Int32)), .val (.ref b11), .val (.int (((0 : Int32) + p1) + (0 : Int32))), .val (.int p1), .val (.int (1 : Int32))] [(.int (1 : Int32))]))
    refine own_up (fun _ k => XS.istore X26.here hx rfl (hb hby at_166) rfl (l' := #[.val (.int p0), .val (.int p1), .val (.int p2), .val (.int p3), .val (.int (1 : Int32)), .val (.ref b11), .val (.int (((0 : Int32) + p1) + (0 : Int32))), .val (.int p1), .val (.int (1 : Int32))]) rfl k) ?_
    show own_Go p.tables e below _ (T26.setTop (mkF m 168 #[.val (.int p0), .val (.int p1), .val (.int p2), .val (.int p3), .val (.int (1 : Int32)), .val (.ref b11), .val (.int (((0 : Int32) + p1) + (0 : Int32))), .val (.int p1), .val (.int (1 : Int32))] []))
    refine own_up (fun _ k => XS.iload X26.here hx rfl (hb hby at_168) rfl k) ?_
    show own_Go p.tables e below _ (T26.setTop (mkF m 170 #[.val (.int p0), .val (.int p1), .val (.int p2), .val (.int p3), .val (.int (1 : Int32)), .val (.ref b11), .val (.int (((0 : Int32) + p1) + (0 : Int32))), .val (.int p1), .val (.int (1 : Int32))] [(.int (1 : Int32))]))
    refine own_up (fun _ k => XS.iconst X26.here hx rfl (hb hby at_170) k) ?_
    show own_Go p.tables e below _ (T26.setTop (mkF m 171 #[.val (.int p0), .val (.int p1), .val (.int p2), .val (.int p3), .val (.int (1 : Int32)), .val (.ref b11), .val (.int (((0 : Int32) + p1) + (0 : Int32))), .val (.int p1), .val (.int (1 : Int32))] [(.int (2 : Int32)), (.int (1 : Int32))]))
    refine own_up (fun _ k => XS.icmpYes X26.here hx rfl (pc0 := 171) (pc' := 198) rfl (hb hby at_171) rfl (tlt (by decide)).1 (by decide) (by decide) k) ?_
    show own_Go p.tables e below _ (T26.setTop (mkF m 198 #[.val (.int p0), .val (.int p1), .val (.int p2), .val (.int p3), .val (.int (1 : Int32)), .val (.ref b11), .val (.int (((0 : Int32) + p1) + (0 : Int32))), .val (.int p1), .val (.int (1 : Int32))] []))
    refine own_up (fun _ k => XS.iload X26.here hx rfl (hb hby at_198) rfl k) ?_
    show own_Go p.tables e below _ (T26.setTop (mkF m 200 #[.val (.int p0), .val (.int p1), .val (.int p2), .val (.int p3), .val (.int (1 : Int32)), .val (.ref b11), .val (.int (((0 : Int32) + p1) + (0 : Int32))), .val (.int p1), .val (.int (1 : Int32))] [(.int (1 : Int32))]))
    refine own_up (fun _ k => XS.iconst X26.here hx rfl (hb hby at_200) k) ?_
    show own_Go p.tables e below _ (T26.setTop (mkF m 201 #[.val (.int p0), .val (.int p1), .val (.int p2), .val (.int p3), .val (.int (1 : Int32)), .val (.ref b11), .val (.int (((0 : Int32) + p1) + (0 : Int32))), .val (.int p1), .val (.int (1 : Int32))] [(.int (3 : Int32)), (.int (1 : Int32))]))
    refine own_up (fun _ k => XS.icmpYes X26.here hx rfl (pc0 := 201) (pc' := 230) rfl (hb hby at_201) rfl (tlt (by decide)).1 (by decide) (by decide) k) ?_
    show own_Go p.tables e below _ (T26.setTop (mkF m 230 #[.val (.int p0), .val (.int p1), .val (.int p2), .val (.int p3), .val (.int (1 : Int32)), .val (.ref b11), .val (.int (((0 : Int32) + p1) + (0 : Int32))), .val (.int p1), .val (.int (1 : Int32))] []))
    refine own_up (fun _ k => XS.iload X26.here hx rfl (hb hby at_230) rfl k) ?_
    show own_Go p.tables e below _ (T26.setTop (mkF m 232 #[.val (.int p0), .val (.int p1), .val (.int p2), .val (.int p3), .val (.int (1 : Int32)), .val (.ref b11), .val (.int (((0 : Int32) + p1) + (0 : Int32))), .val (.int p1), .val (.int (1 : Int32))] [(.int (1 : Int32))]))
    exact own_end X26 hlk (v := some (.int (1 : Int32))) (fun h => by rw [Bd.returns] at h; cases h) (fun fs hr => retN X26 hx (z := (1 : Int32)) (t := .boolean) Bd.returns (by simp) (hb hby at_232) hr) eq26 ⟨rfl, N26⟩ (by decide) (by decide)
  ·
    refine own_up (fun _ k => XS.iloadN X0.here hx rfl (hb hby at_0) rfl k) ?_
    show own_Go p.tables e below _ (s₁.setTop (mkF m 1 #[.val (.int p0), .val (.int p1), .val (.int p2), .val (.int p3), .unset, .unset, .unset, .unset, .unset] [(.int p0)]))
    refine own_up (fun _ k => XS.iconst X0.here hx rfl (hb hby at_1) k) ?_
    show own_Go p.tables e below _ (s₁.setTop (mkF m 2 #[.val (.int p0), .val (.int p1), .val (.int p2), .val (.int p3), .unset, .unset, .unset, .unset, .unset] [(.int (3 : Int32)), (.int p0)]))
    refine own_up (fun _ k => XS.iand X0.here hx rfl (hb hby at_2) rfl k) ?_
    show own_Go p.tables e below _ (s₁.setTop (mkF m 3 #[.val (.int p0), .val (.int p1), .val (.int p2), .val (.int p3), .unset, .unset, .unset, .unset, .unset] [(.int (p0 &&& (3 : Int32)))]))
    rw [hm]
    show own_Go p.tables e below _ (s₁.setTop (mkF m 3 #[.val (.int p0), .val (.int p1), .val (.int p2), .val (.int p3), .unset, .unset, .unset, .unset, .unset] [(.int (2 : Int32))]))
    refine own_up (fun _ k => XS.istore X0.here hx rfl (hb hby at_3) rfl (l' := #[.val (.int p0), .val (.int p1), .val (.int p2), .val (.int p3), .val (.int (2 : Int32)), .unset, .unset, .unset, .unset]) rfl k) ?_
    show own_Go p.tables e below _ (s₁.setTop (mkF m 5 #[.val (.int p0), .val (.int p1), .val (.int p2), .val (.int p3), .val (.int (2 : Int32)), .unset, .unset, .unset, .unset] []))
    obtain ⟨T27, h27, X27, e27, E27, A27, D27, -, st27⟩ := newO X0 hx hZ hown (hw _ (List.mem_of_getElem? (i := 0) rfl)) (hw _ (List.mem_of_getElem? (i := 1) rfl)) (hw _ (List.mem_of_getElem? (i := 2) rfl)) e0 (g := (mkF m 5 #[.val (.int p0), .val (.int p1), .val (.int p2), .val (.int p3), .val (.int (2 : Int32)), .unset, .unset, .unset, .unset] [])) rfl (hb hby at_5) (by decide) (by decide)
    obtain ⟨b27, g27⟩ : ∃ z, z = h0.size := ⟨_, rfl⟩
    rw [← g27] at A27 D27 st27
    have ge27 : n0 ≤ b27 := Nat.le_trans Z0 (Nat.le_of_eq g27.symm)
    refine own_up st27 ?_
    have F27_offsets : Fld Z h27 b27 "com/example/querygraft/querygraft/format/CompressedRows$Layout" "offsets" "[I" .null := D27 (Or.inr (hw _ (List.mem_of_getElem? (i := 11) rfl))) (ty := (.array .int)) (by decide)
    show own_Go p.tables e below _ (T27.setTop (mkF m 8 #[.val (.int p0), .val (.int p1), .val (.int p2), .val (.int p3), .val (.int (2 : Int32)), .unset, .unset, .unset, .unset] [(.ref b27)]))
    refine own_up (fun _ k => XS.dup X27.here hx rfl (hb hby at_8) rfl rfl k) ?_
    show own_Go p.tables e below _ (T27.setTop (mkF m 9 #[.val (.int p0), .val (.int p1), .val (.int p2), .val (.int p3), .val (.int (2 : Int32)), .unset, .unset, .unset, .unset] [(.ref b27), (.ref b27)]))
    refine own_up (fun _ k => XS.iload X27.here hx rfl (hb hby at_9) rfl k) ?_
    show own_Go p.tables e below _ (T27.setTop (mkF m 11 #[.val (.int p0), .val (.int p1), .val (.int p2), .val (.int p3), .val (.int (2 : Int32)), .unset, .unset, .unset, .unset] [(.int (2 : Int32)), (.ref b27), (.ref b27)]))
    have f29 : n0 ≤ h27.size := (Nat.le_trans Z0 E27.1)
    obtain ⟨_, _, ⟨T28, L28, k28, n28⟩, -, X28, ⟨Lc28, hQ28, l28, y28, z28⟩, st28⟩ := X27.specialBack hx (y := (⟨"com/example/querygraft/querygraft/format/CompressedRows$Layout", "<init>", "(I)V"⟩ : MethodName)) rfl hown (mvT hZ (hw _ (List.mem_of_getElem? (i := 3) rfl))) (mvT hZ (hw _ (List.mem_of_getElem? (i := 4) rfl))) (mvT hZ (hw _ (List.mem_of_getElem? (i := 5) rfl))) (by decide) (backOf (W := 1) (rm1 l Z a0 hw [] b27 (2 : Int32) h27 n0 f29 A27 F27_offsets ge27 (by decide) (by decide)) hZ (hw _ (List.mem_of_getElem? (i := 5) rfl)) (hw _ (List.mem_of_getElem? (i := 2) rfl)) (by decide) (by decide)) (g := (mkF m 11 #[.val (.int p0), .val (.int p1), .val (.int p2), .val (.int p3), .val (.int (2 : Int32)), .unset, .unset, .unset, .unset] [(.int (2 : Int32)), (.ref b27), (.ref b27)])) rfl (by rw [hml]; rfl) (Steps.refl _) (a := b27) (argsL := [(.int (2 : Int32))]) (rest := [(.ref b27)]) (lenOf own_pd0 rfl) rfl (by show 2 * 0 + _ ≤ _; exact Nat.le_of_eq rfl) (hb hby at_11) (fun _ _ => ⟨rfl, e27, (by decide : 1 + 1 ≤ _), (by decide : 2 + 4 ≤ _)⟩)
    dsimp only [Pt.U, Pt.locs, Pt.cells, Pt.slots] at X28 l28 y28 z28 st28 hQ28
    subst l28 y28 z28
    obtain ⟨bo_28, ko_28, rfl, N28q, K28, P28_0, P28_1, P28_2, P28_3, P28_4⟩ := hQ28
    have N28 := Fr.app N0 N28q
    refine own_up (fun _ k => st28.trans k) ?_
    show own_Go p.tables e below _ (T28.setTop (mkF m 14 #[.val (.int p0), .val (.int p1), .val (.int p2), .val (.int p3), .val (.int (2 : Int32)), .unset, .unset, .unset, .unset] [(.ref b27)]))
    have r30 : Arv Z T28.heap bo_28 ko_28 .int (3 : Int32) [(.int (0 : Int32)), (.int (0 : Int32)), (.int (0 : Int32))] (.int (0 : Int32)) := (P28_4.pad (pad_rep [] (.int (0 : Int32)) 3))
    refine own_up (fun _ k => XS.astore X28.here hx rfl (hb hby at_14) rfl rfl (l' := #[.val (.int p0), .val (.int p1), .val (.int p2), .val (.int p3), .val (.int (2 : Int32)), .val (.ref b27), .unset, .unset, .unset]) rfl k) ?_
    show own_Go p.tables e below _ (T28.setTop (mkF m 16 #[.val (.int p0), .val (.int p1), .val (.int p2), .val (.int p3), .val (.int (2 : Int32)), .val (.ref b27), .unset, .unset, .unset] []))
    refine own_up (fun _ k => XS.iload X28.here hx rfl (hb hby at_16) rfl k) ?_
    show own_Go p.tables e below _ (T28.setTop (mkF m 18 #[.val (.int p0), .val (.int p1), .val (.int p2), .val (.int p3), .val (.int (2 : Int32)), .val (.ref b27), .unset, .unset, .unset] [(.int (2 : Int32))]))
    refine own_up (fun _ k => XS.ifNo X28.here hx rfl (hb hby at_18) rfl ((if0 _ _).trans (tlt (by decide)).2.2.2) k) ?_
    show own_Go p.tables e below _ (T28.setTop (mkF m 21 #[.val (.int p0), .val (.int p1), .val (.int p2), .val (.int p3), .val (.int (2 : Int32)), .val (.ref b27), .unset, .unset, .unset] []))
    refine own_up (fun _ k => XS.aload X28.here hx rfl (hb hby at_21) rfl rfl k) ?_
    show own_Go p.tables e below _ (T28.setTop (mkF m 23 #[.val (.int p0), .val (.int p1), .val (.int p2), .val (.int p3), .val (.int (2 : Int32)), .val (.ref b27), .unset, .unset, .unset] [(.ref b27)]))
    refine own_up (fun _ k => XS.iconst X28.here hx rfl (hb hby at_23) k) ?_
    show own_Go p.tables e below _ (T28.setTop (mkF m 24 #[.val (.int p0), .val (.int p1), .val (.int p2), .val (.int p3), .val (.int (2 : Int32)), .val (.ref b27), .unset, .unset, .unset] [(.int (0 : Int32)), (.ref b27)]))
    refine own_up (fun _ k => XS.iloadN X28.here hx rfl (hb hby at_24) rfl k) ?_
    show own_Go p.tables e below _ (T28.setTop (mkF m 25 #[.val (.int p0), .val (.int p1), .val (.int p2), .val (.int p3), .val (.int (2 : Int32)), .val (.ref b27), .unset, .unset, .unset] [(.int p1), (.int (0 : Int32)), (.ref b27)]))
    have f32 : n0 ≤ T28.heap.size := (Nat.le_trans f29 K28.1)
    obtain ⟨cq31, kq31, q31a, q31b, q31c⟩ := isOf hZ rfl P28_2
    obtain ⟨_, _, ⟨T31, L31, k31, n31⟩, -, X31, ⟨Lc31, hQ31, l31, y31, z31⟩, st31⟩ := X28.virtualBack hx (y := (⟨"com/example/querygraft/querygraft/format/CompressedRows$Layout", "count", "(II)V"⟩ : MethodName)) (z := (⟨"com/example/querygraft/querygraft/format/CompressedRows$Layout", "count", "(II)V"⟩ : MethodName)) hown (mvT hZ (hw _ (List.mem_of_getElem? (i := 22) rfl))) (mvT hZ (hw _ (List.mem_of_getElem? (i := 23) rfl))) (notFace_of_selects (args := #[]) (mvT hZ (hw _ (List.mem_of_getElem? (i := 25) rfl)))) (mvT hZ (hw _ (List.mem_of_getElem? (i := 25) rfl))) (mvT hZ (hw _ (List.mem_of_getElem? (i := 24) rfl))) (by decide) (backOf (W := 0) (rm2 l Z a0 hw [] b27 (0 : Int32) p1 bo_28 ko_28 (3 : Int32) [(.int (0 : Int32)), (.int (0 : Int32)), (.int (0 : Int32))] (0 : Int32) T28.heap n0 f32 P28_3 r30 P28_0 ⟨by decide, by decide⟩ rfl (by show _ < (3 : Nat); decide)) hZ (hw _ (List.mem_of_getElem? (i := 26) rfl)) (hw _ (List.mem_of_getElem? (i := 2) rfl)) (by decide) (by decide)) q31a q31c (g := (mkF m 25 #[.val (.int p0), .val (.int p1), .val (.int p2), .val (.int p3), .val (.int (2 : Int32)), .val (.ref b27), .unset, .unset, .unset] [(.int p1), (.int (0 : Int32)), (.ref b27)])) rfl (by rw [hml]; rfl) (Steps.refl _) (argsL := [(.int (0 : Int32)), (.int p1)]) (rest := []) (lenOf own_pd3 rfl) rfl (by show 2 * 0 + _ ≤ _; exact Nat.le_of_eq rfl) (hb hby at_25) (fun _ _ => ⟨rfl, rfl, (by decide : 2 + 0 ≤ _), (by decide : 6 + 0 ≤ _)⟩)
    dsimp only [Pt.U, Pt.locs, Pt.cells, Pt.slots] at X31 l31 y31 z31 st31 hQ31
    subst l31 y31 z31
    obtain ⟨rfl, N31q, K31, P31_0⟩ := hQ31
    have N31 := Fr.app N28 N31q
    refine own_up (fun _ k => st31.trans k) ?_
    show own_Go p.tables e below _ (T31.setTop (mkF m 28 #[.val (.int p0), .val (.int p1), .val (.int p2), .val (.int p3), .val (.int (2 : Int32)), .val (.ref b27), .unset, .unset, .unset] []))
    have r33 : Arv Z T31.heap bo_28 ko_28 .int (3 : Int32) [(.int (0 : Int32)), (.int ((0 : Int32) + p1)), (.int (0 : Int32))] (.int (0 : Int32)) := P31_0
    refine own_up (fun _ k => XS.iload X31.here hx rfl (hb hby at_28) rfl k) ?_
    show own_Go p.tables e below _ (T31.setTop (mkF m 30 #[.val (.int p0), .val (.int p1), .val (.int p2), .val (.int p3), .val (.int (2 : Int32)), .val (.ref b27), .unset, .unset, .unset] [(.int (2 : Int32))]))
    refine own_up (fun _ k => XS.iconst X31.here hx rfl (hb hby at_30) k) ?_
    show own_Go p.tables e below _ (T31.setTop (mkF m 31 #[.val (.int p0), .val (.int p1), .val (.int p2), .val (.int p3), .val (.int (2 : Int32)), .val (.ref b27), .unset, .unset, .unset] [(.int (1 : Int32)), (.int (2 : Int32))]))
    refine own_up (fun _ k => XS.icmpNo X31.here hx rfl (hb hby at_31) rfl (tlt (by decide)).2.2.2 k) ?_
    show own_Go p.tables e below _ (T31.setTop (mkF m 34 #[.val (.int p0), .val (.int p1), .val (.int p2), .val (.int p3), .val (.int (2 : Int32)), .val (.ref b27), .unset, .unset, .unset] []))
    refine own_up (fun _ k => XS.aload X31.here hx rfl (hb hby at_34) rfl rfl k) ?_
    show own_Go p.tables e below _ (T31.setTop (mkF m 36 #[.val (.int p0), .val (.int p1), .val (.int p2), .val (.int p3), .val (.int (2 : Int32)), .val (.ref b27), .unset, .unset, .unset] [(.ref b27)]))
    refine own_up (fun _ k => XS.iconst X31.here hx rfl (hb hby at_36) k) ?_
    show own_Go p.tables e below _ (T31.setTop (mkF m 37 #[.val (.int p0), .val (.int p1), .val (.int p2), .val (.int p3), .val (.int (2 : Int32)), .val (.ref b27), .unset, .unset, .unset] [(.int (1 : Int32)), (.ref b27)]))
    refine own_up (fun _ k => XS.iloadN X31.here hx rfl (hb hby at_37) rfl k) ?_
    show own_Go p.tables e below _ (T31.setTop (mkF m 38 #[.val (.int p0), .val (.int p1), .val (.int p2), .val (.int p3), .val (.int (2 : Int32)), .val (.ref b27), .unset, .unset, .unset] [(.int p2), (.int (1 : Int32)), (.ref b27)]))
    have f35 : Fld Z T31.heap b27 "com/example/querygraft/querygraft/format/CompressedRows$Layout" "offsets" "[I" (.ref bo_28) := (P28_3.keep K31 (ninS P28_1 nin0))
    have f36 : n0 ≤ T31.heap.size := (Nat.le_trans f32 K31.1)
    have f37 : Exa Z T31.heap b27 "com/example/querygraft/querygraft/format/CompressedRows$Layout" := (P28_2.keep K31)
    obtain ⟨cq34, kq34, q34a, q34b, q34c⟩ := isOf hZ rfl f37
    obtain ⟨_, _, ⟨T34, L34, k34, n34⟩, -, X34, ⟨Lc34, hQ34, l34, y34, z34⟩, st34⟩ := X31.virtualBack hx (y := (⟨"com/example/querygraft/querygraft/format/CompressedRows$Layout", "count", "(II)V"⟩ : MethodName)) (z := (⟨"com/example/querygraft/querygraft/format/CompressedRows$Layout", "count", "(II)V"⟩ : MethodName)) hown (mvT hZ (hw _ (List.mem_of_getElem? (i := 22) rfl))) (mvT hZ (hw _ (List.mem_of_getElem? (i := 23) rfl))) (notFace_of_selects (args := #[]) (mvT hZ (hw _ (List.mem_of_getElem? (i := 25) rfl)))) (mvT hZ (hw _ (List.mem_of_getElem? (i := 25) rfl))) (mvT hZ (hw _ (List.mem_of_getElem? (i := 24) rfl))) (by decide) (backOf (W := 0) (rm2 l Z a0 hw [] b27 (1 : Int32) p2 bo_28 ko_28 (3 : Int32) [(.int (0 : Int32)), (.int ((0 : Int32) + p1)), (.int (0 : Int32))] (0 : Int32) T31.heap n0 f36 f35 r33 P28_0 ⟨by decide, by decide⟩ rfl (by show _ < (3 : Nat); decide)) hZ (hw _ (List.mem_of_getElem? (i := 26) rfl)) (hw _ (List.mem_of_getElem? (i := 2) rfl)) (by decide) (by decide)) q34a q34c (g := (mkF m 38 #[.val (.int p0), .val (.int p1), .val (.int p2), .val (.int p3), .val (.int (2 : Int32)), .val (.ref b27), .unset, .unset, .unset] [(.int p2), (.int (1 : Int32)), (.ref b27)])) rfl (by rw [hml]; rfl) (Steps.refl _) (argsL := [(.int (1 : Int32)), (.int p2)]) (rest := []) (lenOf own_pd3 rfl) rfl (by show 2 * 0 + _ ≤ _; exact Nat.le_of_eq rfl) (hb hby at_38) (fun _ _ => ⟨rfl, rfl, (by decide : 2 + 0 ≤ _), (by decide : 6 + 0 ≤ _)⟩)
    dsimp only [Pt.U, Pt.locs, Pt.cells, Pt.slots] at X34 l34 y34 z34 st34 hQ34
    subst l34 y34 z34
    obtain ⟨rfl, N34q, K34, P34_0⟩ := hQ34
    have N34 := Fr.app N31 N34q
    refine own_up (fun _ k => st34.trans k) ?_
    show own_Go p.tables e below _ (T34.setTop (mkF m 41 #[.val (.int p0), .val (.int p1), .val (.int p2), .val (.int p3), .val (.int (2 : Int32)), .val (.ref b27), .unset, .unset, .unset] []))
    have r38 : Arv Z T34.heap bo_28 ko_28 .int (3 : Int32) [(.int (0 : Int32)), (.int ((0 : Int32) + p1)), (.int ((0 : Int32) + p2))] (.int (0 : Int32)) := P34_0
    refine own_up (fun _ k => XS.iload X34.here hx rfl (hb hby at_41) rfl k) ?_
    show own_Go p.tables e below _ (T34.setTop (mkF m 43 #[.val (.int p0), .val (.int p1), .val (.int p2), .val (.int p3), .val (.int (2 : Int32)), .val (.ref b27), .unset, .unset, .unset] [(.int (2 : Int32))]))
    refine own_up (fun _ k => XS.iconst X34.here hx rfl (hb hby at_43) k) ?_
    show own_Go p.tables e below _ (T34.setTop (mkF m 44 #[.val (.int p0), .val (.int p1), .val (.int p2), .val (.int p3), .val (.int (2 : Int32)), .val (.ref b27), .unset, .unset, .unset] [(.int (2 : Int32)), (.int (2 : Int32))]))
    refine own_up (fun _ k => XS.icmpYes X34.here hx rfl (pc0 := 44) (pc' := 54) rfl (hb hby at_44) rfl (flt (by decide)).2.2.2 (by decide) (by decide) k) ?_
    show own_Go p.tables e below _ (T34.setTop (mkF m 54 #[.val (.int p0), .val (.int p1), .val (.int p2), .val (.int p3), .val (.int (2 : Int32)), .val (.ref b27), .unset, .unset, .unset] []))
    refine own_up (fun _ k => XS.aload X34.here hx rfl (hb hby at_54) rfl rfl k) ?_
    show own_Go p.tables e below _ (T34.setTop (mkF m 56 #[.val (.int p0), .val (.int p1), .val (.int p2), .val (.int p3), .val (.int (2 : Int32)), .val (.ref b27), .unset, .unset, .unset] [(.ref b27)]))
    have f40 : Fld Z T34.heap b27 "com/example/querygraft/querygraft/format/CompressedRows$Layout" "offsets" "[I" (.ref bo_28) := (f35.keep K34 (ninS P28_1 nin0))
    have f41 : n0 ≤ T34.heap.size := (Nat.le_trans f36 K34.1)
    have f42 : Exa Z T34.heap b27 "com/example/querygraft/querygraft/format/CompressedRows$Layout" := (f37.keep K34)
    obtain ⟨cq39, kq39, q39a, q39b, q39c⟩ := isOf hZ rfl f42
    obtain ⟨_, _, ⟨T39, L39, k39, n39⟩, -, X39, ⟨Lc39, hQ39, l39, y39, z39⟩, st39⟩ := X34.virtualBack hx (y := (⟨"com/example/querygraft/querygraft/format/CompressedRows$Layout", "layOut", "()I"⟩ : MethodName)) (z := (⟨"com/example/querygraft/querygraft/format/CompressedRows$Layout", "layOut", "()I"⟩ : MethodName)) hown (mvT hZ (hw _ (List.mem_of_getElem? (i := 12) rfl))) (mvT hZ (hw _ (List.mem_of_getElem? (i := 13) rfl))) (notFace_of_selects (args := #[]) (mvT hZ (hw _ (List.mem_of_getElem? (i := 15) rfl)))) (mvT hZ (hw _ (List.mem_of_getElem? (i := 15) rfl))) (mvT hZ (hw _ (List.mem_of_getElem? (i := 14) rfl))) (by decide) (backOf (W := 0) (rm4_2 l Z a0 hw [] b27 bo_28 ko_28 (0 : Int32) ((0 : Int32) + p1) ((0 : Int32) + p2) T34.heap n0 f41 f40 r38 P28_0 P28_1) hZ (hw _ (List.mem_of_getElem? (i := 16) rfl)) (hw _ (List.mem_of_getElem? (i := 2) rfl)) (by decide) (by decide)) q39a q39c (g := (mkF m 56 #[.val (.int p0), .val (.int p1), .val (.int p2), .val (.int p3), .val (.int (2 : Int32)), .val (.ref b27), .unset, .unset, .unset] [(.ref b27)])) rfl (by rw [hml]; rfl) (Steps.refl _) (argsL := []) (rest := []) (lenOf own_pd1 rfl) rfl (by show 2 * 0 + _ ≤ _; exact Nat.le_of_eq rfl) (hb hby at_56) (fun _ _ => ⟨rfl, rfl, (by decide : 2 + 0 ≤ _), (by decide : 6 + 0 ≤ _)⟩)
    dsimp only [Pt.U, Pt.locs, Pt.cells, Pt.slots] at X39 l39 y39 z39 st39 hQ39
    subst l39 y39 z39
    obtain ⟨rfl, N39q, K39, P39_0⟩ := hQ39
    have N39 := Fr.app N34 N39q
    refine own_up (fun _ k => st39.trans k) ?_
    show own_Go p.tables e below _ (T39.setTop (mkF m 59 #[.val (.int p0), .val (.int p1), .val (.int p2), .val (.int p3), .val (.int (2 : Int32)), .val (.ref b27), .unset, .unset, .unset] [(.int (((0 : Int32) + p2) + (((0 : Int32) + p1) + (0 : Int32))))]))
    refine own_up (fun _ k => XS.istore X39.here hx rfl (hb hby at_59) rfl (l' := #[.val (.int p0), .val (.int p1), .val (.int p2), .val (.int p3), .val (.int (2 : Int32)), .val (.ref b27), .val (.int (((0 : Int32) + p2) + (((0 : Int32) + p1) + (0 : Int32)))), .unset, .unset]) rfl k) ?_
    show own_Go p.tables e below _ (T39.setTop (mkF m 61 #[.val (.int p0), .val (.int p1), .val (.int p2), .val (.int p3), .val (.int (2 : Int32)), .val (.ref b27), .val (.int (((0 : Int32) + p2) + (((0 : Int32) + p1) + (0 : Int32)))), .unset, .unset] []))
    refine own_up (fun _ k => XS.iload X39.here hx rfl (hb hby at_61) rfl k) ?_
    show own_Go p.tables e below _ (T39.setTop (mkF m 63 #[.val (.int p0), .val (.int p1), .val (.int p2), .val (.int p3), .val (.int (2 : Int32)), .val (.ref b27), .val (.int (((0 : Int32) + p2) + (((0 : Int32) + p1) + (0 : Int32)))), .unset, .unset] [(.int (2 : Int32))]))
    refine own_up (fun _ k => XS.ifYes X39.here hx rfl (pc0 := 63) (pc' := 72) rfl (hb hby at_63) rfl ((if0 _ _).trans (feq (by decide)).2) (by decide) (by decide) k) ?_
    show own_Go p.tables e below _ (T39.setTop (mkF m 72 #[.val (.int p0), .val (.int p1), .val (.int p2), .val (.int p3), .val (.int (2 : Int32)), .val (.ref b27), .val (.int (((0 : Int32) + p2) + (((0 : Int32) + p1) + (0 : Int32)))), .unset, .unset] []))
    refine own_up (fun _ k => XS.iload X39.here hx rfl (hb hby at_72) rfl k) ?_
    show own_Go p.tables e below _ (T39.setTop (mkF m 74 #[.val (.int p0), .val (.int p1), .val (.int p2), .val (.int p3), .val (.int (2 : Int32)), .val (.ref b27), .val (.int (((0 : Int32) + p2) + (((0 : Int32) + p1) + (0 : Int32)))), .unset, .unset] [(.int (2 : Int32))]))
    refine own_up (fun _ k => XS.iconst X39.here hx rfl (hb hby at_74) k) ?_
    show own_Go p.tables e below _ (T39.setTop (mkF m 75 #[.val (.int p0), .val (.int p1), .val (.int p2), .val (.int p3), .val (.int (2 : Int32)), .val (.ref b27), .val (.int (((0 : Int32) + p2) + (((0 : Int32) + p1) + (0 : Int32)))), .unset, .unset] [(.int (1 : Int32)), (.int (2 : Int32))]))
    refine own_up (fun _ k => XS.icmpYes X39.here hx rfl (pc0 := 75) (pc' := 84) rfl (hb hby at_75) rfl (feq (by decide)).2 (by decide) (by decide) k) ?_
    show own_Go p.tables e below _ (T39.setTop (mkF m 84 #[.val (.int p0), .val (.int p1), .val (.int p2), .val (.int p3), .val (.int (2 : Int32)), .val (.ref b27), .val (.int (((0 : Int32) + p2) + (((0 : Int32) + p1) + (0 : Int32)))), .unset, .unset] []))
    refine own_up (fun _ k => XS.iload X39.here hx rfl (hb hby at_84) rfl k) ?_
    show own_Go p.tables e below _ (T39.setTop (mkF m 86 #[.val (.int p0), .val (.int p1), .val (.int p2), .val (.int p3), .val (.int (2 : Int32)), .val (.ref b27), .val (.int (((0 : Int32) + p2) + (((0 : Int32) + p1) + (0 : Int32)))), .unset, .unset] [(.int (2 : Int32))]))
    refine own_up (fun _ k => XS.iconst X39.here hx rfl (hb hby at_86) k) ?_
    show own_Go p.tables e below _ (T39.setTop (mkF m 87 #[.val (.int p0), .val (.int p1), .val (.int p2), .val (.int p3), .val (.int (2 : Int32)), .val (.ref b27), .val (.int (((0 : Int32) + p2) + (((0 : Int32) + p1) + (0 : Int32)))), .unset, .unset] [(.int (2 : Int32)), (.int (2 : Int32))]))
    refine own_up (fun _ k => XS.icmpNo X39.here hx rfl (hb hby at_87) rfl (teq (by decide)).2 k) ?_
    show own_Go p.tables e below _ (T39.setTop (mkF m 90 #[.val (.int p0), .val (.int p1), .val (.int p2), .val (.int p3), .val (.int (2 : Int32)), .val (.ref b27), .val (.int (((0 : Int32) + p2) + (((0 : Int32) + p1) + (0 : Int32)))), .unset, .unset] []))
    refine own_up (fun _ k => XS.iloadN X39.here hx rfl (hb hby at_90) rfl k) ?_
    show own_Go p.tables e below _ (T39.setTop (mkF m 91 #[.val (.int p0), .val (.int p1), .val (.int p2), .val (.int p3), .val (.int (2 : Int32)), .val (.ref b27), .val (.int (((0 : Int32) + p2) + (((0 : Int32) + p1) + (0 : Int32)))), .unset, .unset] [(.int p1)]))
    refine own_up (fun _ k => XS.iloadN X39.here hx rfl (hb hby at_91) rfl k) ?_
    show own_Go p.tables e below _ (T39.setTop (mkF m 92 #[.val (.int p0), .val (.int p1), .val (.int p2), .val (.int p3), .val (.int (2 : Int32)), .val (.ref b27), .val (.int (((0 : Int32) + p2) + (((0 : Int32) + p1) + (0 : Int32)))), .unset, .unset] [(.int p2), (.int p1)]))
    refine own_up (fun _ k => XS.iadd X39.here hx rfl (hb hby at_92) rfl k) ?_
    show own_Go p.tables e below _ (T39.setTop (mkF m 93 #[.val (.int p0), .val (.int p1), .val (.int p2), .val (.int p3), .val (.int (2 : Int32)), .val (.ref b27), .val (.int (((0 : Int32) + p2) + (((0 : Int32) + p1) + (0 : Int32)))), .unset, .unset] [(.int (p1 + p2))]))
    refine own_up (fun _ k => XS.istore X39.here hx rfl (hb hby at_93) rfl (l' := #[.val (.int p0), .val (.int p1), .val (.int p2), .val (.int p3), .val (.int (2 : Int32)), .val (.ref b27), .val (.int (((0 : Int32) + p2) + (((0 : Int32) + p1) + (0 : Int32)))), .val (.int (p1 + p2)), .unset]) rfl k) ?_
    show own_Go p.tables e below _ (T39.setTop (mkF m 95 #[.val (.int p0), .val (.int p1), .val (.int p2), .val (.int p3), .val (.int (2 : Int32)), .val (.ref b27), .val (.int (((0 : Int32) + p2) + (((0 : Int32) + p1) + (0 : Int32)))), .val (.int (p1 + p2)), .unset] []))
    refine own_up (fun _ k => XS.goto X39.here hx rfl (pc0 := 95) (pc' := 105) rfl (hb hby at_95) (by decide) (by decide) k) ?_
    show own_Go p.tables e below _ (T39.setTop (mkF m 105 #[.val (.int p0), .val (.int p1), .val (.int p2), .val (.int p3), .val (.int (2 : Int32)), .val (.ref b27), .val (.int (((0 : Int32) + p2) + (((0 : Int32) + p1) + (0 : Int32)))), .val (.int (p1 + p2)), .unset] []))
    refine own_up (fun _ k => XS.iload X39.here hx rfl (hb hby at_105) rfl k) ?_
    show own_Go p.tables e below _ (T39.setTop (mkF m 107 #[.val (.int p0), .val (.int p1), .val (.int p2), .val (.int p3), .val (.int (2 : Int32)), .val (.ref b27), .val (.int (((0 : Int32) + p2) + (((0 : Int32) + p1) + (0 : Int32)))), .val (.int (p1 + p2)), .unset] [(.int (((0 : Int32) + p2) + (((0 : Int32) + p1) + (0 : Int32))))]))
    refine own_up (fun _ k => XS.iload X39.here hx rfl (hb hby at_107) rfl k) ?_
    show own_Go p.tables e below _ (T39.setTop (mkF m 109 #[.val (.int p0), .val (.int p1), .val (.int p2), .val (.int p3), .val (.int (2 : Int32)), .val (.ref b27), .val (.int (((0 : Int32) + p2) + (((0 : Int32) + p1) + (0 : Int32)))), .val (.int (p1 + p2)), .unset] [(.int (p1 + p2)), (.int (((0 : Int32) + p2) + (((0 : Int32) + p1) + (0 : Int32))))]))
    refine own_up (fun _ k => XS.icmpNo X39.here hx rfl (hb hby at_109) rfl (teq (own_s2 p1 p2)).2 k) ?_
    show own_Go p.tables e below _ (T39.setTop (mkF m 112 #[.val (.int p0), .val (.int p1), .val (.int p2), .val (.int p3), .val (.int (2 : Int32)), .val (.ref b27), .val (.int (((0 : Int32) + p2) + (((0 : Int32) + p1) + (0 : Int32)))), .val (.int (p1 + p2)), .unset] []))
    refine own_up (fun _ k => XS.iconst X39.here hx rfl (hb hby at_112) k) ?_
    show own_Go p.tables e below _ (T39.setTop (mkF m 113 #[.val (.int p0), .val (.int p1), .val (.int p2), .val (.int p3), .val (.int (2 : Int32)), .val (.ref b27), .val (.int (((0 : Int32) + p2) + (((0 : Int32) + p1) + (0 : Int32)))), .val (.int (p1 + p2)), .unset] [(.int (1 : Int32))]))
    refine own_up (fun _ k => XS.goto X39.here hx rfl (pc0 := 113) (pc' := 117) rfl (hb hby at_113) (by decide) (by decide) k) ?_
    show own_Go p.tables e below _ (T39.setTop (mkF m 117 #[.val (.int p0), .val (.int p1), .val (.int p2), .val (.int p3), .val (.int (2 : Int32)), .val (.ref b27), .val (.int (((0 : Int32) + p2) + (((0 : Int32) + p1) + (0 : Int32)))), .val (.int (p1 + p2)), .unset] [(.int (1 : Int32))]))
    refine own_up (fun _ k => XS.istore X39.here hx rfl (hb hby at_117) rfl (l' := #[.val (.int p0), .val (.int p1), .val (.int p2), .val (.int p3), .val (.int (2 : Int32)), .val (.ref b27), .val (.int (((0 : Int32) + p2) + (((0 : Int32) + p1) + (0 : Int32)))), .val (.int (p1 + p2)), .val (.int (1 : Int32))]) rfl k) ?_
    show own_Go p.tables e below _ (T39.setTop (mkF m 119 #[.val (.int p0), .val (.int p1), .val (.int p2), .val (.int p3), .val (.int (2 : Int32)), .val (.ref b27), .val (.int (((0 : Int32) + p2) + (((0 : Int32) + p1) + (0 : Int32)))), .val (.int (p1 + p2)), .val (.int (1 : Int32))] []))
    refine own_up (fun _ k => XS.iload X39.here hx rfl (hb hby at_119) rfl k) ?_
    show own_Go p.tables e below _ (T39.setTop (mkF m 121 #[.val (.int p0), .val (.int p1), .val (.int p2), .val (.int p3), .val (.int (2 : Int32)), .val (.ref b27), .val (.int (((0 : Int32) + p2) + (((0 : Int32) + p1) + (0 : Int32)))), .val (.int (p1 + p2)), .val (.int (1 : Int32))] [(.int (1 : Int32))]))
    refine own_up (fun _ k => XS.ifNo X39.here hx rfl (hb hby at_121) rfl ((if0 _ _).trans (feq (by decide)).1) k) ?_
    show own_Go p.tables e below _ (T39.setTop (mkF m 124 #[.val (.int p0), .val (.int p1), .val (.int p2), .val (.int p3), .val (.int (2 : Int32)), .val (.ref b27), .val (.int (((0 : Int32) + p2) + (((0 : Int32) + p1) + (0 : Int32)))), .val (.int (p1 + p2)), .val (.int (1 : Int32))] []))
    refine own_up (fun _ k => XS.aload X39.here hx rfl (hb hby at_124) rfl rfl k) ?_
    show own_Go p.tables e below _ (T39.setTop (mkF m 126 #[.val (.int p0), .val (.int p1), .val (.int p2), .val (.int p3), .val (.int (2 : Int32)), .val (.ref b27), .val (.int (((0 : Int32) + p2) + (((0 : Int32) + p1) + (0 : Int32)))), .val (.int (p1 + p2)), .val (.int (1 : Int32))] [(.ref b27)]))
    refine own_up (fun _ k => XS.iconst X39.here hx rfl (hb hby at_126) k) ?_
    show own_Go p.tables e below _ (T39.setTop (mkF m 127 #[.val (.int p0), .val (.int p1), .val (.int p2), .val (.int p3), .val (.int (2 : Int32)), .val (.ref b27), .val (.int (((0 : Int32) + p2) + (((0 : Int32) + p1) + (0 : Int32)))), .val (.int (p1 + p2)), .val (.int (1 : Int32))] [(.int (0 : Int32)), (.ref b27)]))
    have f44 : Fld Z T39.heap b27 "com/example/querygraft/querygraft/format/CompressedRows$Layout" "offsets" "[I" (.ref bo_28) := (f40.keep K39 (ninS P28_1 nin0))
    have f45 : n0 ≤ T39.heap.size := (Nat.le_trans f41 K39.1)
    have f46 : Exa Z T39.heap b27 "com/example/querygraft/querygraft/format/CompressedRows$Layout" := (f42.keep K39)
    obtain ⟨cq43, kq43, q43a, q43b, q43c⟩ := isOf hZ rfl f46
    obtain ⟨_, _, ⟨T43, L43, k43, n43⟩, -, X43, ⟨Lc43, hQ43, l43, y43, z43⟩, st43⟩ := X39.virtualBack hx (y := (⟨"com/example/querygraft/querygraft/format/CompressedRows$Layout", "first", "(I)I"⟩ : MethodName)) (z := (⟨"com/example/querygraft/querygraft/format/CompressedRows$Layout", "first", "(I)I"⟩ : MethodName)) hown (mvT hZ (hw _ (List.mem_of_getElem? (i := 17) rfl))) (mvT hZ (hw _ (List.mem_of_getElem? (i := 18) rfl))) (notFace_of_selects (args := #[]) (mvT hZ (hw _ (List.mem_of_getElem? (i := 20) rfl)))) (mvT hZ (hw _ (List.mem_of_getElem? (i := 20) rfl))) (mvT hZ (hw _ (List.mem_of_getElem? (i := 19) rfl))) (by decide) (backOf (W := 0) (rm3 l Z a0 hw [] b27 (0 : Int32) bo_28 ko_28 (3 : Int32) [(.int (0 : Int32)), (.int (((0 : Int32) + p1) + (0 : Int32))), (.int (((0 : Int32) + p2) + (((0 : Int32) + p1) + (0 : Int32))))] (0 : Int32) T39.heap n0 f45 f44 P39_0 ⟨by decide, by decide⟩ rfl) hZ (hw _ (List.mem_of_getElem? (i := 21) rfl)) (hw _ (List.mem_of_getElem? (i := 2) rfl)) (by decide) (by decide)) q43a q43c (g := (mkF m 127 #[.val (.int p0), .val (.int p1), .val (.int p2), .val (.int p3), .val (.int (2 : Int32)), .val (.ref b27), .val (.int (((0 : Int32) + p2) + (((0 : Int32) + p1) + (0 : Int32)))), .val (.int (p1 + p2)), .val (.int (1 : Int32))] [(.int (0 : Int32)), (.ref b27)])) rfl (by rw [hml]; rfl) (Steps.refl _) (argsL := [(.int (0 : Int32))]) (rest := []) (lenOf own_pd2 rfl) rfl (by show 2 * 0 + _ ≤ _; exact Nat.le_of_eq rfl) (hb hby at_127) (fun _ _ => ⟨rfl, rfl, (by decide : 2 + 0 ≤ _), (by decide : 6 + 0 ≤ _)⟩)
    dsimp only [Pt.U, Pt.locs, Pt.cells, Pt.slots] at X43 l43 y43 z43 st43 hQ43
    subst l43 y43 z43
    obtain ⟨rfl, N43q, eq43⟩ := hQ43
    have N43 := Fr.app N39 N43q
    refine own_up (fun _ k => st43.trans k) ?_
    show own_Go p.tables e below _ (T43.setTop (mkF m 130 #[.val (.int p0), .val (.int p1), .val (.int p2), .val (.int p3), .val (.int (2 : Int32)), .val (.ref b27), .val (.int (((0 : Int32) + p2) + (((0 : Int32) + p1) + (0 : Int32)))), .val (.int (p1 + p2)), .val (.int (1 : Int32))] [(.int (0 : Int32))]))
    refine own_up (fun _ k => XS.ifNo X43.here hx rfl (hb hby at_130) rfl ((if0 _ _).trans (teq rfl).2) k) ?_
    show own_Go p.tables e below _ (T43.setTop (mkF m 133 #[.val (.int p0), .val (.int p1), .val (.int p2), .val (.int p3), .val (.int (2 : Int32)), .val (.ref b27), .val (.int (((0 : Int32) + p2) + (((0 : Int32) + p1) + (0 : Int32)))), .val (.int (p1 + p2)), .val (.int (1 : Int32))] []))
    refine own_up (fun _ k => XS.iconst X43.here hx rfl (hb hby at_133) k) ?_
    show own_Go p.tables e below _ (T43.setTop (mkF m 134 #[.val (.int p0), .val (.int p1), .val (.int p2), .val (.int p3), .val (.int (2 : Int32)), .val (.ref b27), .val (.int (((0 : Int32) + p2) + (((0 : Int32) + p1) + (0 : Int32)))), .val (.int (p1 + p2)), .val (.int (1 : Int32))] [(.int (1 : Int32))]))
    refine own_up (fun _ k => XS.goto X43.here hx rfl (pc0 := 134) (pc' := 138) rfl (hb hby at_134) (by decide) (by decide) k) ?_
    show own_Go p.tables e below _ (T43.setTop (mkF m 138 #[.val (.int p0), .val (.int p1), .val (.int p2), .val (.int p3), .val (.int (2 : Int32)), .val (.ref b27), .val (.int (((0 : Int32) + p2) + (((0 : Int32) + p1) + (0 : Int32)))), .val (.int (p1 + p2)), .val (.int (1 : Int32))] [(.int (1 : Int32))]))
    refine own_up (fun _ k => XS.istore X43.here hx rfl (hb hby at_138) rfl (l' := #[.val (.int p0), .val (.int p1), .val (.int p2), .val (.int p3), .val (.int (2 : Int32)), .val (.ref b27), .val (.int (((0 : Int32) + p2) + (((0 : Int32) + p1) + (0 : Int32)))), .val (.int (p1 + p2)), .val (.int (1 : Int32))]) rfl k) ?_
    show own_Go p.tables e below _ (T43.setTop (mkF m 140 #[.val (.int p0), .val (.int p1), .val (.int p2), .val (.int p3), .val (.int (2 : Int32)), .val (.ref b27), .val (.int (((0 : Int32) + p2) + (((0 : Int32) + p1) + (0 : Int32)))), .val (.int (p1 + p2)), .val (.int (1 : Int32))] []))
    refine own_up (fun _ k => XS.iload X43.here hx rfl (hb hby at_140) rfl k) ?_
    show own_Go p.tables e below _ (T43.setTop (mkF m 142 #[.val (.int p0), .val (.int p1), .val (.int p2), .val (.int p3), .val (.int (2 : Int32)), .val (.ref b27), .val (.int (((0 : Int32) + p2) + (((0 : Int32) + p1) + (0 : Int32)))), .val (.int (p1 + p2)), .val (.int (1 : Int32))] [(.int (2 : Int32))]))
    refine own_up (fun _ k => XS.iconst X43.here hx rfl (hb hby at_142) k) ?_
    show own_Go p.tables e below _ (T43.setTop (mkF m 143 #[.val (.int p0), .val (.int p1), .val (.int p2), .val (.int p3), .val (.int (2 : Int32)), .val (.ref b27), .val (.int (((0 : Int32) + p2) + (((0 : Int32) + p1) + (0 : Int32)))), .val (.int (p1 + p2)), .val (.int (1 : Int32))] [(.int (1 : Int32)), (.int (2 : Int32))]))
    refine own_up (fun _ k => XS.icmpNo X43.here hx rfl (hb hby at_143) rfl (flt (by decide)).1 k) ?_
    show own_Go p.tables e below _ (T43.setTop (mkF m 146 #[.val (.int p0), .val (.int p1), .val (.int p2), .val (.int p3), .val (.int (2 : Int32)), .val (.ref b27), .val (.int (((0 : Int32) + p2) + (((0 : Int32) + p1) + (0 : Int32)))), .val (.int (p1 + p2)), .val (.int (1 : Int32))] []))
    refine own_up (fun _ k => XS.iload X43.here hx rfl (hb hby at_146) rfl k) ?_
    show own_Go p.tables e below _ (T43.setTop (mkF m 148 #[.val (.int p0), .val (.int p1), .val (.int p2), .val (.int p3), .val (.int (2 : Int32)), .val (.ref b27), .val (.int (((0 : Int32) + p2) + (((0 : Int32) + p1) + (0 : Int32)))), .val (.int (p1 + p2)), .val (.int (1 : Int32))] [(.int (1 : Int32))]))
    refine own_up (fun _ k => XS.ifNo X43.here hx rfl (hb hby at_148) rfl ((if0 _ _).trans (feq (by decide)).1) k) ?_
    show own_Go p.tables e below _ (T43.setTop (mkF m 151 #[.val (.int p0), .val (.int p1), .val (.int p2), .val (.int p3), .val (.int (2 : Int32)), .val (.ref b27), .val (.int (((0 : Int32) + p2) + (((0 : Int32) + p1) + (0 : Int32)))), .val (.int (p1 + p2)), .val (.int (1 : Int32))] []))
    refine own_up (fun _ k => XS.aload X43.here hx rfl (hb hby at_151) rfl rfl k) ?_
    show own_Go p.tables e below _ (T43.setTop (mkF m 153 #[.val (.int p0), .val (.int p1), .val (.int p2), .val (.int p3), .val (.int (2 : Int32)), .val (.ref b27), .val (.int (((0 : Int32) + p2) + (((0 : Int32) + p1) + (0 : Int32)))), .val (.int (p1 + p2)), .val (.int (1 : Int32))] [(.ref b27)]))
    refine own_up (fun _ k => XS.iconst X43.here hx rfl (hb hby at_153) k) ?_
    show own_Go p.tables e below _ (T43.setTop (mkF m 154 #[.val (.int p0), .val (.int p1), .val (.int p2), .val (.int p3), .val (.int (2 : Int32)), .val (.ref b27), .val (.int (((0 : Int32) + p2) + (((0 : Int32) + p1) + (0 : Int32)))), .val (.int (p1 + p2)), .val (.int (1 : Int32))] [(.int (1 : Int32)), (.ref b27)]))
    obtain ⟨cq47, kq47, q47a, q47b, q47c⟩ := isOf hZ eq43 f46
    obtain ⟨_, _, ⟨T47, L47, k47, n47⟩, -, X47, ⟨Lc47, hQ47, l47, y47, z47⟩, st47⟩ := X43.virtualBack hx (y := (⟨"com/example/querygraft/querygraft/format/CompressedRows$Layout", "first", "(I)I"⟩ : MethodName)) (z := (⟨"com/example/querygraft/querygraft/format/CompressedRows$Layout", "first", "(I)I"⟩ : MethodName)) hown (mvT hZ (hw _ (List.mem_of_getElem? (i := 17) rfl))) (mvT hZ (hw _ (List.mem_of_getElem? (i := 18) rfl))) (notFace_of_selects (args := #[]) (mvT hZ (hw _ (List.mem_of_getElem? (i := 20) rfl)))) (mvT hZ (hw _ (List.mem_of_getElem? (i := 20) rfl))) (mvT hZ (hw _ (List.mem_of_getElem? (i := 19) rfl))) (by decide) (backOf (W := 0) (rm3 l Z a0 hw [] b27 (1 : Int32) bo_28 ko_28 (3 : Int32) [(.int (0 : Int32)), (.int (((0 : Int32) + p1) + (0 : Int32))), (.int (((0 : Int32) + p2) + (((0 : Int32) + p1) + (0 : Int32))))] (((0 : Int32) + p1) + (0 : Int32)) T39.heap n0 f45 f44 P39_0 ⟨by decide, by decide⟩ rfl) hZ (hw _ (List.mem_of_getElem? (i := 21) rfl)) (hw _ (List.mem_of_getElem? (i := 2) rfl)) (by decide) (by decide)) q47a q47c (g := (mkF m 154 #[.val (.int p0), .val (.int p1), .val (.int p2), .val (.int p3), .val (.int (2 : Int32)), .val (.ref b27), .val (.int (((0 : Int32) + p2) + (((0 : Int32) + p1) + (0 : Int32)))), .val (.int (p1 + p2)), .val (.int (1 : Int32))] [(.int (1 : Int32)), (.ref b27)])) rfl (by rw [hml]; rfl) (Steps.refl _) (argsL := [(.int (1 : Int32))]) (rest := []) (lenOf own_pd2 rfl) rfl (by show 2 * 0 + _ ≤ _; exact Nat.le_of_eq rfl) (hb hby at_154) (fun _ _ => ⟨rfl, eq43, (by decide : 2 + 0 ≤ _), (by decide : 6 + 0 ≤ _)⟩)
    dsimp only [Pt.U, Pt.locs, Pt.cells, Pt.slots] at X47 l47 y47 z47 st47 hQ47
    subst l47 y47 z47
    obtain ⟨rfl, N47q, eq47⟩ := hQ47
    have N47 := Fr.app N43 N47q
    refine own_up (fun _ k => st47.trans k) ?_
    show own_Go p.tables e below _ (T47.setTop (mkF m 157 #[.val (.int p0), .val (.int p1), .val (.int p2), .val (.int p3), .val (.int (2 : Int32)), .val (.ref b27), .val (.int (((0 : Int32) + p2) + (((0 : Int32) + p1) + (0 : Int32)))), .val (.int (p1 + p2)), .val (.int (1 : Int32))] [(.int (((0 : Int32) + p1) + (0 : Int32)))]))
    refine own_up (fun _ k => XS.iloadN X47.here hx rfl (hb hby at_157) rfl k) ?_
    show own_Go p.tables e below _ (T47.setTop (mkF m 158 #[.val (.int p0), .val (.int p1), .val (.int p2), .val (.int p3), .val (.int (2 : Int32)), .val (.ref b27), .val (.int (((0 : Int32) + p2) + (((0 : Int32) + p1) + (0 : Int32)))), .val (.int (p1 + p2)), .val (.int (1 : Int32))] [(.int p1), (.int (((0 : Int32) + p1) + (0 : Int32)))]))
    refine own_up (fun _ k => XS.icmpNo X47.here hx rfl (hb hby at_158) rfl (teq (own_s1 p1)).2 k) ?_
    show own_Go p.tables e below _ (T47.setTop (mkF m 161 #[.val (.int p0), .val (.int p1), .val (.int p2), .val (.int p3), .val (.int (2 : Int32)), .val (.ref b27), .val (.int (((0 : Int32) + p2) + (((0 : Int32) + p1) + (0 : Int32)))), .val (.int (p1 + p2)), .val (.int (1 : Int32))] []))
    refine own_up (fun _ k => XS.iconst X47.here hx rfl (hb hby at_161) k) ?_
    show own_Go p.tables e below _ (T47.setTop (mkF m 162 #[.val (.int p0), .val (.int p1), .val (.int p2), .val (.int p3), .val (.int (2 : Int32)), .val (.ref b27), .val (.int (((0 : Int32) + p2) + (((0 : Int32) + p1) + (0 : Int32)))), .val (.int (p1 + p2)), .val (.int (1 : Int32))] [(.int (1 : Int32))]))
    refine own_up (fun _ k => XS.goto X47.here hx rfl (pc0 := 162) (pc' := 166) rfl (hb hby at_162) (by decide) (by decide) k) ?_
    show own_Go p.tables e below _ (T47.setTop (mkF m 166 #[.val (.int p0), .val (.int p1), .val (.int p2), .val (.int p3), .val (.int (2 : Int32)), .val (.ref b27), .val (.int (((0 : Int32) + p2) + (((0 : Int32) + p1) + (0 : Int32)))), .val (.int (p1 + p2)), .val (.int (1 : Int32))] [(.int (1 : Int32))]))
    refine own_up (fun _ k => XS.istore X47.here hx rfl (hb hby at_166) rfl (l' := #[.val (.int p0), .val (.int p1), .val (.int p2), .val (.int p3), .val (.int (2 : Int32)), .val (.ref b27), .val (.int (((0 : Int32) + p2) + (((0 : Int32) + p1) + (0 : Int32)))), .val (.int (p1 + p2)), .val (.int (1 : Int32))]) rfl k) ?_
    show own_Go p.tables e below _ (T47.setTop (mkF m 168 #[.val (.int p0), .val (.int p1), .val (.int p2), .val (.int p3), .val (.int (2 : Int32)), .val (.ref b27), .val (.int (((0 : Int32) + p2) + (((0 : Int32) + p1) + (0 : Int32)))), .val (.int (p1 + p2)), .val (.int (1 : Int32))] []))
    refine own_up (fun _ k => XS.iload X47.here hx rfl (hb hby at_168) rfl k) ?_
    show own_Go p.tables e below _ (T47.setTop (mkF m 170 #[.val (.int p0), .val (.int p1), .val (.int p2), .val (.int p3), .val (.int (2 : Int32)), .val (.ref b27), .val (.int (((0 : Int32) + p2) + (((0 : Int32) + p1) + (0 : Int32)))), .val (.int (p1 + p2)), .val (.int (1 : Int32))] [(.int (2 : Int32))]))
    refine own_up (fun _ k => XS.iconst X47.here hx rfl (hb hby at_170) k) ?_
    show own_Go p.tables e below _ (T47.setTop (mkF m 171 #[.val (.int p0), .val (.int p1), .val (.int p2), .val (.int p3), .val (.int (2 : Int32)), .val (.ref b27), .val (.int (((0 : Int32) + p2) + (((0 : Int32) + p1) + (0 : Int32)))), .val (.int (p1 + p2)), .val (.int (1 : Int32))] [(.int (2 : Int32)), (.int (2 : Int32))]))
    refine own_up (fun _ k => XS.icmpNo X47.here hx rfl (hb hby at_171) rfl (flt (by decide)).1 k) ?_
    show own_Go p.tables e below _ (T47.setTop (mkF m 174 #[.val (.int p0), .val (.int p1), .val (.int p2), .val (.int p3), .val (.int (2 : Int32)), .val (.ref b27), .val (.int (((0 : Int32) + p2) + (((0 : Int32) + p1) + (0 : Int32)))), .val (.int (p1 + p2)), .val (.int (1 : Int32))] []))
    refine own_up (fun _ k => XS.iload X47.here hx rfl (hb hby at_174) rfl k) ?_
    show own_Go p.tables e below _ (T47.setTop (mkF m 176 #[.val (.int p0), .val (.int p1), .val (.int p2), .val (.int p3), .val (.int (2 : Int32)), .val (.ref b27), .val (.int (((0 : Int32) + p2) + (((0 : Int32) + p1) + (0 : Int32)))), .val (.int (p1 + p2)), .val (.int (1 : Int32))] [(.int (1 : Int32))]))
    refine own_up (fun _ k => XS.ifNo X47.here hx rfl (hb hby at_176) rfl ((if0 _ _).trans (feq (by decide)).1) k) ?_
    show own_Go p.tables e below _ (T47.setTop (mkF m 179 #[.val (.int p0), .val (.int p1), .val (.int p2), .val (.int p3), .val (.int (2 : Int32)), .val (.ref b27), .val (.int (((0 : Int32) + p2) + (((0 : Int32) + p1) + (0 : Int32)))), .val (.int (p1 + p2)), .val (.int (1 : Int32))] []))
    refine own_up (fun _ k => XS.aload X47.here hx rfl (hb hby at_179) rfl rfl k) ?_
    show own_Go p.tables e below _ (T47.setTop (mkF m 181 #[.val (.int p0), .val (.int p1), .val (.int p2), .val (.int p3), .val (.int (2 : Int32)), .val (.ref b27), .val (.int (((0 : Int32) + p2) + (((0 : Int32) + p1) + (0 : Int32)))), .val (.int (p1 + p2)), .val (.int (1 : Int32))] [(.ref b27)]))
    refine own_up (fun _ k => XS.iconst X47.here hx rfl (hb hby at_181) k) ?_
    show own_Go p.tables e below _ (T47.setTop (mkF m 182 #[.val (.int p0), .val (.int p1), .val (.int p2), .val (.int p3), .val (.int (2 : Int32)), .val (.ref b27), .val (.int (((0 : Int32) + p2) + (((0 : Int32) + p1) + (0 : Int32)))), .val (.int (p1 + p2)), .val (.int (1 : Int32))] [(.int (2 : Int32)), (.ref b27)]))
    obtain ⟨cq48, kq48, q48a, q48b, q48c⟩ := isOf hZ eq47 f46
    obtain ⟨_, _, ⟨T48, L48, k48, n48⟩, -, X48, ⟨Lc48, hQ48, l48, y48, z48⟩, st48⟩ := X47.virtualBack hx (y := (⟨"com/example/querygraft/querygraft/format/CompressedRows$Layout", "first", "(I)I"⟩ : MethodName)) (z := (⟨"com/example/querygraft/querygraft/format/CompressedRows$Layout", "first", "(I)I"⟩ : MethodName)) hown (mvT hZ (hw _ (List.mem_of_getElem? (i := 17) rfl))) (mvT hZ (hw _ (List.mem_of_getElem? (i := 18) rfl))) (notFace_of_selects (args := #[]) (mvT hZ (hw _ (List.mem_of_getElem? (i := 20) rfl)))) (mvT hZ (hw _ (List.mem_of_getElem? (i := 20) rfl))) (mvT hZ (hw _ (List.mem_of_getElem? (i := 19) rfl))) (by decide) (backOf (W := 0) (rm3 l Z a0 hw [] b27 (2 : Int32) bo_28 ko_28 (3 : Int32) [(.int (0 : Int32)), (.int (((0 : Int32) + p1) + (0 : Int32))), (.int (((0 : Int32) + p2) + (((0 : Int32) + p1) + (0 : Int32))))] (((0 : Int32) + p2) + (((0 : Int32) + p1) + (0 : Int32))) T39.heap n0 f45 f44 P39_0 ⟨by decide, by decide⟩ rfl) hZ (hw _ (List.mem_of_getElem? (i := 21) rfl)) (hw _ (List.mem_of_getElem? (i := 2) rfl)) (by decide) (by decide)) q48a q48c (g := (mkF m 182 #[.val (.int p0), .val (.int p1), .val (.int p2), .val (.int p3), .val (.int (2 : Int32)), .val (.ref b27), .val (.int (((0 : Int32) + p2) + (((0 : Int32) + p1) + (0 : Int32)))), .val (.int (p1 + p2)), .val (.int (1 : Int32))] [(.int (2 : Int32)), (.ref b27)])) rfl (by rw [hml]; rfl) (Steps.refl _) (argsL := [(.int (2 : Int32))]) (rest := []) (lenOf own_pd2 rfl) rfl (by show 2 * 0 + _ ≤ _; exact Nat.le_of_eq rfl) (hb hby at_182) (fun _ _ => ⟨rfl, eq47, (by decide : 2 + 0 ≤ _), (by decide : 6 + 0 ≤ _)⟩)
    dsimp only [Pt.U, Pt.locs, Pt.cells, Pt.slots] at X48 l48 y48 z48 st48 hQ48
    subst l48 y48 z48
    obtain ⟨rfl, N48q, eq48⟩ := hQ48
    have N48 := Fr.app N47 N48q
    refine own_up (fun _ k => st48.trans k) ?_
    show own_Go p.tables e below _ (T48.setTop (mkF m 185 #[.val (.int p0), .val (.int p1), .val (.int p2), .val (.int p3), .val (.int (2 : Int32)), .val (.ref b27), .val (.int (((0 : Int32) + p2) + (((0 : Int32) + p1) + (0 : Int32)))), .val (.int (p1 + p2)), .val (.int (1 : Int32))] [(.int (((0 : Int32) + p2) + (((0 : Int32) + p1) + (0 : Int32))))]))
    refine own_up (fun _ k => XS.iloadN X48.here hx rfl (hb hby at_185) rfl k) ?_
    show own_Go p.tables e below _ (T48.setTop (mkF m 186 #[.val (.int p0), .val (.int p1), .val (.int p2), .val (.int p3), .val (.int (2 : Int32)), .val (.ref b27), .val (.int (((0 : Int32) + p2) + (((0 : Int32) + p1) + (0 : Int32)))), .val (.int (p1 + p2)), .val (.int (1 : Int32))] [(.int p1), (.int (((0 : Int32) + p2) + (((0 : Int32) + p1) + (0 : Int32))))]))
    refine own_up (fun _ k => XS.iloadN X48.here hx rfl (hb hby at_186) rfl k) ?_
    show own_Go p.tables e below _ (T48.setTop (mkF m 187 #[.val (.int p0), .val (.int p1), .val (.int p2), .val (.int p3), .val (.int (2 : Int32)), .val (.ref b27), .val (.int (((0 : Int32) + p2) + (((0 : Int32) + p1) + (0 : Int32)))), .val (.int (p1 + p2)), .val (.int (1 : Int32))] [(.int p2), (.int p1), (.int (((0 : Int32) + p2) + (((0 : Int32) + p1) + (0 : Int32))))]))
    refine own_up (fun _ k => XS.iadd X48.here hx rfl (hb hby at_187) rfl k) ?_
    show own_Go p.tables e below _ (T48.setTop (mkF m 188 #[.val (.int p0), .val (.int p1), .val (.int p2), .val (.int p3), .val (.int (2 : Int32)), .val (.ref b27), .val (.int (((0 : Int32) + p2) + (((0 : Int32) + p1) + (0 : Int32)))), .val (.int (p1 + p2)), .val (.int (1 : Int32))] [(.int (p1 + p2)), (.int (((0 : Int32) + p2) + (((0 : Int32) + p1) + (0 : Int32))))]))
    refine own_up (fun _ k => XS.icmpNo X48.here hx rfl (hb hby at_188) rfl (teq (own_s2 p1 p2)).2 k) ?_
    show own_Go p.tables e below _ (T48.setTop (mkF m 191 #[.val (.int p0), .val (.int p1), .val (.int p2), .val (.int p3), .val (.int (2 : Int32)), .val (.ref b27), .val (.int (((0 : Int32) + p2) + (((0 : Int32) + p1) + (0 : Int32)))), .val (.int (p1 + p2)), .val (.int (1 : Int32))] []))
    refine own_up (fun _ k => XS.iconst X48.here hx rfl (hb hby at_191) k) ?_
    show own_Go p.tables e below _ (T48.setTop (mkF m 192 #[.val (.int p0), .val (.int p1), .val (.int p2), .val (.int p3), .val (.int (2 : Int32)), .val (.ref b27), .val (.int (((0 : Int32) + p2) + (((0 : Int32) + p1) + (0 : Int32)))), .val (.int (p1 + p2)), .val (.int (1 : Int32))] [(.int (1 : Int32))]))
    refine own_up (fun _ k => XS.goto X48.here hx rfl (pc0 := 192) (pc' := 196) rfl (hb hby at_192) (by decide) (by decide) k) ?_
    show own_Go p.tables e below _ (T48.setTop (mkF m 196 #[.val (.int p0), .val (.int p1), .val (.int p2), .val (.int p3), .val (.int (2 : Int32)), .val (.ref b27), .val (.int (((0 : Int32) + p2) + (((0 : Int32) + p1) + (0 : Int32)))), .val (.int (p1 + p2)), .val (.int (1 : Int32))] [(.int (1 : Int32))]))
    refine own_up (fun _ k => XS.istore X48.here hx rfl (hb hby at_196) rfl (l' := #[.val (.int p0), .val (.int p1), .val (.int p2), .val (.int p3), .val (.int (2 : Int32)), .val (.ref b27), .val (.int (((0 : Int32) + p2) + (((0 : Int32) + p1) + (0 : Int32)))), .val (.int (p1 + p2)), .val (.int (1 : Int32))]) rfl k) ?_
    show own_Go p.tables e below _ (T48.setTop (mkF m 198 #[.val (.int p0), .val (.int p1), .val (.int p2), .val (.int p3), .val (.int (2 : Int32)), .val (.ref b27), .val (.int (((0 : Int32) + p2) + (((0 : Int32) + p1) + (0 : Int32)))), .val (.int (p1 + p2)), .val (.int (1 : Int32))] []))
    refine own_up (fun _ k => XS.iload X48.here hx rfl (hb hby at_198) rfl k) ?_
    show own_Go p.tables e below _ (T48.setTop (mkF m 200 #[.val (.int p0), .val (.int p1), .val (.int p2), .val (.int p3), .val (.int (2 : Int32)), .val (.ref b27), .val (.int (((0 : Int32) + p2) + (((0 : Int32) + p1) + (0 : Int32)))), .val (.int (p1 + p2)), .val (.int (1 : Int32))] [(.int (2 : Int32))]))
    refine own_up (fun _ k => XS.iconst X48.here hx rfl (hb hby at_200) k) ?_
    show own_Go p.tables e below _ (T48.setTop (mkF m 201 #[.val (.int p0), .val (.int p1), .val (.int p2), .val (.int p3), .val (.int (2 : Int32)), .val (.ref b27), .val (.int (((0 : Int32) + p2) + (((0 : Int32) + p1) + (0 : Int32)))), .val (.int (p1 + p2)), .val (.int (1 : Int32))] [(.int (3 : Int32)), (.int (2 : Int32))]))
    refine own_up (fun _ k => XS.icmpYes X48.here hx rfl (pc0 := 201) (pc' := 230) rfl (hb hby at_201) rfl (tlt (by decide)).1 (by decide) (by decide) k) ?_
    show own_Go p.tables e below _ (T48.setTop (mkF m 230 #[.val (.int p0), .val (.int p1), .val (.int p2), .val (.int p3), .val (.int (2 : Int32)), .val (.ref b27), .val (.int (((0 : Int32) + p2) + (((0 : Int32) + p1) + (0 : Int32)))), .val (.int (p1 + p2)), .val (.int (1 : Int32))] []))
    refine own_up (fun _ k => XS.iload X48.here hx rfl (hb hby at_230) rfl k) ?_
    show own_Go p.tables e below _ (T48.setTop (mkF m 232 #[.val (.int p0), .val (.int p1), .val (.int p2), .val (.int p3), .val (.int (2 : Int32)), .val (.ref b27), .val (.int (((0 : Int32) + p2) + (((0 : Int32) + p1) + (0 : Int32)))), .val (.int (p1 + p2)), .val (.int (1 : Int32))] [(.int (1 : Int32))]))
    exact own_end X48 hlk (v := some (.int (1 : Int32))) (fun h => by rw [Bd.returns] at h; cases h) (fun fs hr => retN X48 hx (z := (1 : Int32)) (t := .boolean) Bd.returns (by simp) (hb hby at_232) hr) eq48 ⟨rfl, N48⟩ (by decide) (by decide)
  ·
    refine own_up (fun _ k => XS.iloadN X0.here hx rfl (hb hby at_0) rfl k) ?_
    show own_Go p.tables e below _ (s₁.setTop (mkF m 1 #[.val (.int p0), .val (.int p1), .val (.int p2), .val (.int p3), .unset, .unset, .unset, .unset, .unset] [(.int p0)]))
    refine own_up (fun _ k => XS.iconst X0.here hx rfl (hb hby at_1) k) ?_
    show own_Go p.tables e below _ (s₁.setTop (mkF m 2 #[.val (.int p0), .val (.int p1), .val (.int p2), .val (.int p3), .unset, .unset, .unset, .unset, .unset] [(.int (3 : Int32)), (.int p0)]))
    refine own_up (fun _ k => XS.iand X0.here hx rfl (hb hby at_2) rfl k) ?_
    show own_Go p.tables e below _ (s₁.setTop (mkF m 3 #[.val (.int p0), .val (.int p1), .val (.int p2), .val (.int p3), .unset, .unset, .unset, .unset, .unset] [(.int (p0 &&& (3 : Int32)))]))
    rw [hm]
    show own_Go p.tables e below _ (s₁.setTop (mkF m 3 #[.val (.int p0), .val (.int p1), .val (.int p2), .val (.int p3), .unset, .unset, .unset, .unset, .unset] [(.int (3 : Int32))]))
    refine own_up (fun _ k => XS.istore X0.here hx rfl (hb hby at_3) rfl (l' := #[.val (.int p0), .val (.int p1), .val (.int p2), .val (.int p3), .val (.int (3 : Int32)), .unset, .unset, .unset, .unset]) rfl k) ?_
    show own_Go p.tables e below _ (s₁.setTop (mkF m 5 #[.val (.int p0), .val (.int p1), .val (.int p2), .val (.int p3), .val (.int (3 : Int32)), .unset, .unset, .unset, .unset] []))
    obtain ⟨T49, h49, X49, e49, E49, A49, D49, -, st49⟩ := newO X0 hx hZ hown (hw _ (List.mem_of_getElem? (i := 0) rfl)) (hw _ (List.mem_of_getElem? (i := 1) rfl)) (hw _ (List.mem_of_getElem? (i := 2) rfl)) e0 (g := (mkF m 5 #[.val (.int p0), .val (.int p1), .val (.int p2), .val (.int p3), .val (.int (3 : Int32)), .unset, .unset, .unset, .unset] [])) rfl (hb hby at_5) (by decide) (by decide)
    obtain ⟨b49, g49⟩ : ∃ z, z = h0.size := ⟨_, rfl⟩
    rw [← g49] at A49 D49 st49
    have ge49 : n0 ≤ b49 := Nat.le_trans Z0 (Nat.le_of_eq g49.symm)
    refine own_up st49 ?_
    have F49_offsets : Fld Z h49 b49 "com/example/querygraft/querygraft/format/CompressedRows$Layout" "offsets" "[I" .null := D49 (Or.inr (hw _ (List.mem_of_getElem? (i := 11) rfl))) (ty := (.array .int)) (by decide)
    show own_Go p.tables e below _ (T49.setTop (mkF m 8 #[.val (.int p0), .val (.int p1), .val (.int p2), .val (.int p3), .val (.int (3 : Int32)), .unset, .unset, .unset, .unset] [(.ref b49)]))
    refine own_up (fun _ k => XS.dup X49.here hx rfl (hb hby at_8) rfl rfl k) ?_
    show own_Go p.tables e below _ (T49.setTop (mkF m 9 #[.val (.int p0), .val (.int p1), .val (.int p2), .val (.int p3), .val (.int (3 : Int32)), .unset, .unset, .unset, .unset] [(.ref b49), (.ref b49)]))
    refine own_up (fun _ k => XS.iload X49.here hx rfl (hb hby at_9) rfl k) ?_
    show own_Go p.tables e below _ (T49.setTop (mkF m 11 #[.val (.int p0), .val (.int p1), .val (.int p2), .val (.int p3), .val (.int (3 : Int32)), .unset, .unset, .unset, .unset] [(.int (3 : Int32)), (.ref b49), (.ref b49)]))
    have f51 : n0 ≤ h49.size := (Nat.le_trans Z0 E49.1)
    obtain ⟨_, _, ⟨T50, L50, k50, n50⟩, -, X50, ⟨Lc50, hQ50, l50, y50, z50⟩, st50⟩ := X49.specialBack hx (y := (⟨"com/example/querygraft/querygraft/format/CompressedRows$Layout", "<init>", "(I)V"⟩ : MethodName)) rfl hown (mvT hZ (hw _ (List.mem_of_getElem? (i := 3) rfl))) (mvT hZ (hw _ (List.mem_of_getElem? (i := 4) rfl))) (mvT hZ (hw _ (List.mem_of_getElem? (i := 5) rfl))) (by decide) (backOf (W := 1) (rm1 l Z a0 hw [] b49 (3 : Int32) h49 n0 f51 A49 F49_offsets ge49 (by decide) (by decide)) hZ (hw _ (List.mem_of_getElem? (i := 5) rfl)) (hw _ (List.mem_of_getElem? (i := 2) rfl)) (by decide) (by decide)) (g := (mkF m 11 #[.val (.int p0), .val (.int p1), .val (.int p2), .val (.int p3), .val (.int (3 : Int32)), .unset, .unset, .unset, .unset] [(.int (3 : Int32)), (.ref b49), (.ref b49)])) rfl (by rw [hml]; rfl) (Steps.refl _) (a := b49) (argsL := [(.int (3 : Int32))]) (rest := [(.ref b49)]) (lenOf own_pd0 rfl) rfl (by show 2 * 0 + _ ≤ _; exact Nat.le_of_eq rfl) (hb hby at_11) (fun _ _ => ⟨rfl, e49, (by decide : 1 + 1 ≤ _), (by decide : 2 + 4 ≤ _)⟩)
    dsimp only [Pt.U, Pt.locs, Pt.cells, Pt.slots] at X50 l50 y50 z50 st50 hQ50
    subst l50 y50 z50
    obtain ⟨bo_50, ko_50, rfl, N50q, K50, P50_0, P50_1, P50_2, P50_3, P50_4⟩ := hQ50
    have N50 := Fr.app N0 N50q
    refine own_up (fun _ k => st50.trans k) ?_
    show own_Go p.tables e below _ (T50.setTop (mkF m 14 #[.val (.int p0), .val (.int p1), .val (.int p2), .val (.int p3), .val (.int (3 : Int32)), .unset, .unset, .unset, .unset] [(.ref b49)]))
    have r52 : Arv Z T50.heap bo_50 ko_50 .int (4 : Int32) [(.int (0 : Int32)), (.int (0 : Int32)), (.int (0 : Int32)), (.int (0 : Int32))] (.int (0 : Int32)) := (P50_4.pad (pad_rep [] (.int (0 : Int32)) 4))
    refine own_up (fun _ k => XS.astore X50.here hx rfl (hb hby at_14) rfl rfl (l' := #[.val (.int p0), .val (.int p1), .val (.int p2), .val (.int p3), .val (.int (3 : Int32)), .val (.ref b49), .unset, .unset, .unset]) rfl k) ?_
    show own_Go p.tables e below _ (T50.setTop (mkF m 16 #[.val (.int p0), .val (.int p1), .val (.int p2), .val (.int p3), .val (.int (3 : Int32)), .val (.ref b49), .unset, .unset, .unset] []))
    refine own_up (fun _ k => XS.iload X50.here hx rfl (hb hby at_16) rfl k) ?_
    show own_Go p.tables e below _ (T50.setTop (mkF m 18 #[.val (.int p0), .val (.int p1), .val (.int p2), .val (.int p3), .val (.int (3 : Int32)), .val (.ref b49), .unset, .unset, .unset] [(.int (3 : Int32))]))
    refine own_up (fun _ k => XS.ifNo X50.here hx rfl (hb hby at_18) rfl ((if0 _ _).trans (tlt (by decide)).2.2.2) k) ?_
    show own_Go p.tables e below _ (T50.setTop (mkF m 21 #[.val (.int p0), .val (.int p1), .val (.int p2), .val (.int p3), .val (.int (3 : Int32)), .val (.ref b49), .unset, .unset, .unset] []))
    refine own_up (fun _ k => XS.aload X50.here hx rfl (hb hby at_21) rfl rfl k) ?_
    show own_Go p.tables e below _ (T50.setTop (mkF m 23 #[.val (.int p0), .val (.int p1), .val (.int p2), .val (.int p3), .val (.int (3 : Int32)), .val (.ref b49), .unset, .unset, .unset] [(.ref b49)]))
    refine own_up (fun _ k => XS.iconst X50.here hx rfl (hb hby at_23) k) ?_
    show own_Go p.tables e below _ (T50.setTop (mkF m 24 #[.val (.int p0), .val (.int p1), .val (.int p2), .val (.int p3), .val (.int (3 : Int32)), .val (.ref b49), .unset, .unset, .unset] [(.int (0 : Int32)), (.ref b49)]))
    refine own_up (fun _ k => XS.iloadN X50.here hx rfl (hb hby at_24) rfl k) ?_
    show own_Go p.tables e below _ (T50.setTop (mkF m 25 #[.val (.int p0), .val (.int p1), .val (.int p2), .val (.int p3), .val (.int (3 : Int32)), .val (.ref b49), .unset, .unset, .unset] [(.int p1), (.int (0 : Int32)), (.ref b49)]))
    have f54 : n0 ≤ T50.heap.size := (Nat.le_trans f51 K50.1)
    obtain ⟨cq53, kq53, q53a, q53b, q53c⟩ := isOf hZ rfl P50_2
    obtain ⟨_, _, ⟨T53, L53, k53, n53⟩, -, X53, ⟨Lc53, hQ53, l53, y53, z53⟩, st53⟩ := X50.virtualBack hx (y := (⟨"com/example/querygraft/querygraft/format/CompressedRows$Layout", "count", "(II)V"⟩ : MethodName)) (z := (⟨"com/example/querygraft/querygraft/format/CompressedRows$Layout", "count", "(II)V"⟩ : MethodName)) hown (mvT hZ (hw _ (List.mem_of_getElem? (i := 22) rfl))) (mvT hZ (hw _ (List.mem_of_getElem? (i := 23) rfl))) (notFace_of_selects (args := #[]) (mvT hZ (hw _ (List.mem_of_getElem? (i := 25) rfl)))) (mvT hZ (hw _ (List.mem_of_getElem? (i := 25) rfl))) (mvT hZ (hw _ (List.mem_of_getElem? (i := 24) rfl))) (by decide) (backOf (W := 0) (rm2 l Z a0 hw [] b49 (0 : Int32) p1 bo_50 ko_50 (4 : Int32) [(.int (0 : Int32)), (.int (0 : Int32)), (.int (0 : Int32)), (.int (0 : Int32))] (0 : Int32) T50.heap n0 f54 P50_3 r52 P50_0 ⟨by decide, by decide⟩ rfl (by show _ < (4 : Nat); decide)) hZ (hw _ (List.mem_of_getElem? (i := 26) rfl)) (hw _ (List.mem_of_getElem? (i := 2) rfl)) (by decide) (by decide)) q53a q53c (g := (mkF m 25 #[.val (.int p0), .val (.int p1), .val (.int p2), .val (.int p3), .val (.int (3 : Int32)), .val (.ref b49), .unset, .unset, .unset] [(.int p1), (.int (0 : Int32)), (.ref b49)])) rfl (by rw [hml]; rfl) (Steps.refl _) (argsL := [(.int (0 : Int32)), (.int p1)]) (rest := []) (lenOf own_pd3 rfl) rfl (by show 2 * 0 + _ ≤ _; exact Nat.le_of_eq rfl) (hb hby at_25) (fun _ _ => ⟨rfl, rfl, (by decide : 2 + 0 ≤ _), (by decide : 6 + 0 ≤ _)⟩)
    dsimp only [Pt.U, Pt.locs, Pt.cells, Pt.slots] at X53 l53 y53 z53 st53 hQ53
    subst l53 y53 z53
    obtain ⟨rfl, N53q, K53, P53_0⟩ := hQ53
    have N53 := Fr.app N50 N53q
    refine own_up (fun _ k => st53.trans k) ?_
    show own_Go p.tables e below _ (T53.setTop (mkF m 28 #[.val (.int p0), .val (.int p1), .val (.int p2), .val (.int p3), .val (.int (3 : Int32)), .val (.ref b49), .unset, .unset, .unset] []))
    have r55 : Arv Z T53.heap bo_50 ko_50 .int (4 : Int32) [(.int (0 : Int32)), (.int ((0 : Int32) + p1)), (.int (0 : Int32)), (.int (0 : Int32))] (.int (0 : Int32)) := P53_0
    refine own_up (fun _ k => XS.iload X53.here hx rfl (hb hby at_28) rfl k) ?_
    show own_Go p.tables e below _ (T53.setTop (mkF m 30 #[.val (.int p0), .val (.int p1), .val (.int p2), .val (.int p3), .val (.int (3 : Int32)), .val (.ref b49), .unset, .unset, .unset] [(.int (3 : Int32))]))
    refine own_up (fun _ k => XS.iconst X53.here hx rfl (hb hby at_30) k) ?_
    show own_Go p.tables e below _ (T53.setTop (mkF m 31 #[.val (.int p0), .val (.int p1), .val (.int p2), .val (.int p3), .val (.int (3 : Int32)), .val (.ref b49), .unset, .unset, .unset] [(.int (1 : Int32)), (.int (3 : Int32))]))
    refine own_up (fun _ k => XS.icmpNo X53.here hx rfl (hb hby at_31) rfl (tlt (by decide)).2.2.2 k) ?_
    show own_Go p.tables e below _ (T53.setTop (mkF m 34 #[.val (.int p0), .val (.int p1), .val (.int p2), .val (.int p3), .val (.int (3 : Int32)), .val (.ref b49), .unset, .unset, .unset] []))
    refine own_up (fun _ k => XS.aload X53.here hx rfl (hb hby at_34) rfl rfl k) ?_
    show own_Go p.tables e below _ (T53.setTop (mkF m 36 #[.val (.int p0), .val (.int p1), .val (.int p2), .val (.int p3), .val (.int (3 : Int32)), .val (.ref b49), .unset, .unset, .unset] [(.ref b49)]))
    refine own_up (fun _ k => XS.iconst X53.here hx rfl (hb hby at_36) k) ?_
    show own_Go p.tables e below _ (T53.setTop (mkF m 37 #[.val (.int p0), .val (.int p1), .val (.int p2), .val (.int p3), .val (.int (3 : Int32)), .val (.ref b49), .unset, .unset, .unset] [(.int (1 : Int32)), (.ref b49)]))
    refine own_up (fun _ k => XS.iloadN X53.here hx rfl (hb hby at_37) rfl k) ?_
    show own_Go p.tables e below _ (T53.setTop (mkF m 38 #[.val (.int p0), .val (.int p1), .val (.int p2), .val (.int p3), .val (.int (3 : Int32)), .val (.ref b49), .unset, .unset, .unset] [(.int p2), (.int (1 : Int32)), (.ref b49)]))
    have f57 : Fld Z T53.heap b49 "com/example/querygraft/querygraft/format/CompressedRows$Layout" "offsets" "[I" (.ref bo_50) := (P50_3.keep K53 (ninS P50_1 nin0))
    have f58 : n0 ≤ T53.heap.size := (Nat.le_trans f54 K53.1)
    have f59 : Exa Z T53.heap b49 "com/example/querygraft/querygraft/format/CompressedRows$Layout" := (P50_2.keep K53)
    obtain ⟨cq56, kq56, q56a, q56b, q56c⟩ := isOf hZ rfl f59
    obtain ⟨_, _, ⟨T56, L56, k56, n56⟩, -, X56, ⟨Lc56, hQ56, l56, y56, z56⟩, st56⟩ := X53.virtualBack hx (y := (⟨"com/example/querygraft/querygraft/format/CompressedRows$Layout", "count", "(II)V"⟩ : MethodName)) (z := (⟨"com/example/querygraft/querygraft/format/CompressedRows$Layout", "count", "(II)V"⟩ : MethodName)) hown (mvT hZ (hw _ (List.mem_of_getElem? (i := 22) rfl))) (mvT hZ (hw _ (List.mem_of_getElem? (i := 23) rfl))) (notFace_of_selects (args := #[]) (mvT hZ (hw _ (List.mem_of_getElem? (i := 25) rfl)))) (mvT hZ (hw _ (List.mem_of_getElem? (i := 25) rfl))) (mvT hZ (hw _ (List.mem_of_getElem? (i := 24) rfl))) (by decide) (backOf (W := 0) (rm2 l Z a0 hw [] b49 (1 : Int32) p2 bo_50 ko_50 (4 : Int32) [(.int (0 : Int32)), (.int ((0 : Int32) + p1)), (.int (0 : Int32)), (.int (0 : Int32))] (0 : Int32) T53.heap n0 f58 f57 r55 P50_0 ⟨by decide, by decide⟩ rfl (by show _ < (4 : Nat); decide)) hZ (hw _ (List.mem_of_getElem? (i := 26) rfl)) (hw _ (List.mem_of_getElem? (i := 2) rfl)) (by decide) (by decide)) q56a q56c (g := (mkF m 38 #[.val (.int p0), .val (.int p1), .val (.int p2), .val (.int p3), .val (.int (3 : Int32)), .val (.ref b49), .unset, .unset, .unset] [(.int p2), (.int (1 : Int32)), (.ref b49)])) rfl (by rw [hml]; rfl) (Steps.refl _) (argsL := [(.int (1 : Int32)), (.int p2)]) (rest := []) (lenOf own_pd3 rfl) rfl (by show 2 * 0 + _ ≤ _; exact Nat.le_of_eq rfl) (hb hby at_38) (fun _ _ => ⟨rfl, rfl, (by decide : 2 + 0 ≤ _), (by decide : 6 + 0 ≤ _)⟩)
    dsimp only [Pt.U, Pt.locs, Pt.cells, Pt.slots] at X56 l56 y56 z56 st56 hQ56
    subst l56 y56 z56
    obtain ⟨rfl, N56q, K56, P56_0⟩ := hQ56
    have N56 := Fr.app N53 N56q
    refine own_up (fun _ k => st56.trans k) ?_
    show own_Go p.tables e below _ (T56.setTop (mkF m 41 #[.val (.int p0), .val (.int p1), .val (.int p2), .val (.int p3), .val (.int (3 : Int32)), .val (.ref b49), .unset, .unset, .unset] []))
    have r60 : Arv Z T56.heap bo_50 ko_50 .int (4 : Int32) [(.int (0 : Int32)), (.int ((0 : Int32) + p1)), (.int ((0 : Int32) + p2)), (.int (0 : Int32))] (.int (0 : Int32)) := P56_0
    refine own_up (fun _ k => XS.iload X56.here hx rfl (hb hby at_41) rfl k) ?_
    show own_Go p.tables e below _ (T56.setTop (mkF m 43 #[.val (.int p0), .val (.int p1), .val (.int p2), .val (.int p3), .val (.int (3 : Int32)), .val (.ref b49), .unset, .unset, .unset] [(.int (3 : Int32))]))
    refine own_up (fun _ k => XS.iconst X56.here hx rfl (hb hby at_43) k) ?_
    show own_Go p.tables e below _ (T56.setTop (mkF m 44 #[.val (.int p0), .val (.int p1), .val (.int p2), .val (.int p3), .val (.int (3 : Int32)), .val (.ref b49), .unset, .unset, .unset] [(.int (2 : Int32)), (.int (3 : Int32))]))
    refine own_up (fun _ k => XS.icmpNo X56.here hx rfl (hb hby at_44) rfl (tlt (by decide)).2.2.2 k) ?_
    show own_Go p.tables e below _ (T56.setTop (mkF m 47 #[.val (.int p0), .val (.int p1), .val (.int p2), .val (.int p3), .val (.int (3 : Int32)), .val (.ref b49), .unset, .unset, .unset] []))
    refine own_up (fun _ k => XS.aload X56.here hx rfl (hb hby at_47) rfl rfl k) ?_
    show own_Go p.tables e below _ (T56.setTop (mkF m 49 #[.val (.int p0), .val (.int p1), .val (.int p2), .val (.int p3), .val (.int (3 : Int32)), .val (.ref b49), .unset, .unset, .unset] [(.ref b49)]))
    refine own_up (fun _ k => XS.iconst X56.here hx rfl (hb hby at_49) k) ?_
    show own_Go p.tables e below _ (T56.setTop (mkF m 50 #[.val (.int p0), .val (.int p1), .val (.int p2), .val (.int p3), .val (.int (3 : Int32)), .val (.ref b49), .unset, .unset, .unset] [(.int (2 : Int32)), (.ref b49)]))
    refine own_up (fun _ k => XS.iloadN X56.here hx rfl (hb hby at_50) rfl k) ?_
    show own_Go p.tables e below _ (T56.setTop (mkF m 51 #[.val (.int p0), .val (.int p1), .val (.int p2), .val (.int p3), .val (.int (3 : Int32)), .val (.ref b49), .unset, .unset, .unset] [(.int p3), (.int (2 : Int32)), (.ref b49)]))
    have f62 : Fld Z T56.heap b49 "com/example/querygraft/querygraft/format/CompressedRows$Layout" "offsets" "[I" (.ref bo_50) := (f57.keep K56 (ninS P50_1 nin0))
    have f63 : n0 ≤ T56.heap.size := (Nat.le_trans f58 K56.1)
    have f64 : Exa Z T56.heap b49 "com/example/querygraft/querygraft/format/CompressedRows$Layout" := (f59.keep K56)
    obtain ⟨cq61, kq61, q61a, q61b, q61c⟩ := isOf hZ rfl f64
    obtain ⟨_, _, ⟨T61, L61, k61, n61⟩, -, X61, ⟨Lc61, hQ61, l61, y61, z61⟩, st61⟩ := X56.virtualBack hx (y := (⟨"com/example/querygraft/querygraft/format/CompressedRows$Layout", "count", "(II)V"⟩ : MethodName)) (z := (⟨"com/example/querygraft/querygraft/format/CompressedRows$Layout", "count", "(II)V"⟩ : MethodName)) hown (mvT hZ (hw _ (List.mem_of_getElem? (i := 22) rfl))) (mvT hZ (hw _ (List.mem_of_getElem? (i := 23) rfl))) (notFace_of_selects (args := #[]) (mvT hZ (hw _ (List.mem_of_getElem? (i := 25) rfl)))) (mvT hZ (hw _ (List.mem_of_getElem? (i := 25) rfl))) (mvT hZ (hw _ (List.mem_of_getElem? (i := 24) rfl))) (by decide) (backOf (W := 0) (rm2 l Z a0 hw [] b49 (2 : Int32) p3 bo_50 ko_50 (4 : Int32) [(.int (0 : Int32)), (.int ((0 : Int32) + p1)), (.int ((0 : Int32) + p2)), (.int (0 : Int32))] (0 : Int32) T56.heap n0 f63 f62 r60 P50_0 ⟨by decide, by decide⟩ rfl (by show _ < (4 : Nat); decide)) hZ (hw _ (List.mem_of_getElem? (i := 26) rfl)) (hw _ (List.mem_of_getElem? (i := 2) rfl)) (by decide) (by decide)) q61a q61c (g := (mkF m 51 #[.val (.int p0), .val (.int p1), .val (.int p2), .val (.int p3), .val (.int (3 : Int32)), .val (.ref b49), .unset, .unset, .unset] [(.int p3), (.int (2 : Int32)), (.ref b49)])) rfl (by rw [hml]; rfl) (Steps.refl _) (argsL := [(.int (2 : Int32)), (.int p3)]) (rest := []) (lenOf own_pd3 rfl) rfl (by show 2 * 0 + _ ≤ _; exact Nat.le_of_eq rfl) (hb hby at_51) (fun _ _ => ⟨rfl, rfl, (by decide : 2 + 0 ≤ _), (by decide : 6 + 0 ≤ _)⟩)
    dsimp only [Pt.U, Pt.locs, Pt.cells, Pt.slots] at X61 l61 y61 z61 st61 hQ61
    subst l61 y61 z61
    obtain ⟨rfl, N61q, K61, P61_0⟩ := hQ61
    have N61 := Fr.app N56 N61q
    refine own_up (fun _ k => st61.trans k) ?_
    show own_Go p.tables e below _ (T61.setTop (mkF m 54 #[.val (.int p0), .val (.int p1), .val (.int p2), .val (.int p3), .val (.int (3 : Int32)), .val (.ref b49), .unset, .unset, .unset] []))
    have r65 : Arv Z T61.heap bo_50 ko_50 .int (4 : Int32) [(.int (0 : Int32)), (.int ((0 : Int32) + p1)), (.int ((0 : Int32) + p2)), (.int ((0 : Int32) + p3))] (.int (0 : Int32)) := P61_0
    refine own_up (fun _ k => XS.aload X61.here hx rfl (hb hby at_54) rfl rfl k) ?_
    show own_Go p.tables e below _ (T61.setTop (mkF m 56 #[.val (.int p0), .val (.int p1), .val (.int p2), .val (.int p3), .val (.int (3 : Int32)), .val (.ref b49), .unset, .unset, .unset] [(.ref b49)]))
    have f67 : Fld Z T61.heap b49 "com/example/querygraft/querygraft/format/CompressedRows$Layout" "offsets" "[I" (.ref bo_50) := (f62.keep K61 (ninS P50_1 nin0))
    have f68 : n0 ≤ T61.heap.size := (Nat.le_trans f63 K61.1)
    have f69 : Exa Z T61.heap b49 "com/example/querygraft/querygraft/format/CompressedRows$Layout" := (f64.keep K61)
    obtain ⟨cq66, kq66, q66a, q66b, q66c⟩ := isOf hZ rfl f69
    obtain ⟨_, _, ⟨T66, L66, k66, n66⟩, -, X66, ⟨Lc66, hQ66, l66, y66, z66⟩, st66⟩ := X61.virtualBack hx (y := (⟨"com/example/querygraft/querygraft/format/CompressedRows$Layout", "layOut", "()I"⟩ : MethodName)) (z := (⟨"com/example/querygraft/querygraft/format/CompressedRows$Layout", "layOut", "()I"⟩ : MethodName)) hown (mvT hZ (hw _ (List.mem_of_getElem? (i := 12) rfl))) (mvT hZ (hw _ (List.mem_of_getElem? (i := 13) rfl))) (notFace_of_selects (args := #[]) (mvT hZ (hw _ (List.mem_of_getElem? (i := 15) rfl)))) (mvT hZ (hw _ (List.mem_of_getElem? (i := 15) rfl))) (mvT hZ (hw _ (List.mem_of_getElem? (i := 14) rfl))) (by decide) (backOf (W := 0) (rm4_3 l Z a0 hw [] b49 bo_50 ko_50 (0 : Int32) ((0 : Int32) + p1) ((0 : Int32) + p2) ((0 : Int32) + p3) T61.heap n0 f68 f67 r65 P50_0 P50_1) hZ (hw _ (List.mem_of_getElem? (i := 16) rfl)) (hw _ (List.mem_of_getElem? (i := 2) rfl)) (by decide) (by decide)) q66a q66c (g := (mkF m 56 #[.val (.int p0), .val (.int p1), .val (.int p2), .val (.int p3), .val (.int (3 : Int32)), .val (.ref b49), .unset, .unset, .unset] [(.ref b49)])) rfl (by rw [hml]; rfl) (Steps.refl _) (argsL := []) (rest := []) (lenOf own_pd1 rfl) rfl (by show 2 * 0 + _ ≤ _; exact Nat.le_of_eq rfl) (hb hby at_56) (fun _ _ => ⟨rfl, rfl, (by decide : 2 + 0 ≤ _), (by decide : 6 + 0 ≤ _)⟩)
    dsimp only [Pt.U, Pt.locs, Pt.cells, Pt.slots] at X66 l66 y66 z66 st66 hQ66
    subst l66 y66 z66
    obtain ⟨rfl, N66q, K66, P66_0⟩ := hQ66
    have N66 := Fr.app N61 N66q
    refine own_up (fun _ k => st66.trans k) ?_
    show own_Go p.tables e below _ (T66.setTop (mkF m 59 #[.val (.int p0), .val (.int p1), .val (.int p2), .val (.int p3), .val (.int (3 : Int32)), .val (.ref b49), .unset, .unset, .unset] [(.int (((0 : Int32) + p3) + (((0 : Int32) + p2) + (((0 : Int32) + p1) + (0 : Int32)))))]))
    refine own_up (fun _ k => XS.istore X66.here hx rfl (hb hby at_59) rfl (l' := #[.val (.int p0), .val (.int p1), .val (.int p2), .val (.int p3), .val (.int (3 : Int32)), .val (.ref b49), .val (.int (((0 : Int32) + p3) + (((0 : Int32) + p2) + (((0 : Int32) + p1) + (0 : Int32))))), .unset, .unset]) rfl k) ?_
    show own_Go p.tables e below _ (T66.setTop (mkF m 61 #[.val (.int p0), .val (.int p1), .val (.int p2), .val (.int p3), .val (.int (3 : Int32)), .val (.ref b49), .val (.int (((0 : Int32) + p3) + (((0 : Int32) + p2) + (((0 : Int32) + p1) + (0 : Int32))))), .unset, .unset] []))
    refine own_up (fun _ k => XS.iload X66.here hx rfl (hb hby at_61) rfl k) ?_
    show own_Go p.tables e below _ (T66.setTop (mkF m 63 #[.val (.int p0), .val (.int p1), .val (.int p2), .val (.int p3), .val (.int (3 : Int32)), .val (.ref b49), .val (.int (((0 : Int32) + p3) + (((0 : Int32) + p2) + (((0 : Int32) + p1) + (0 : Int32))))), .unset, .unset] [(.int (3 : Int32))]))
    refine own_up (fun _ k => XS.ifYes X66.here hx rfl (pc0 := 63) (pc' := 72) rfl (hb hby at_63) rfl ((if0 _ _).trans (feq (by decide)).2) (by decide) (by decide) k) ?_
    show own_Go p.tables e below _ (T66.setTop (mkF m 72 #[.val (.int p0), .val (.int p1), .val (.int p2), .val (.int p3), .val (.int (3 : Int32)), .val (.ref b49), .val (.int (((0 : Int32) + p3) + (((0 : Int32) + p2) + (((0 : Int32) + p1) + (0 : Int32))))), .unset, .unset] []))
    refine own_up (fun _ k => XS.iload X66.here hx rfl (hb hby at_72) rfl k) ?_
    show own_Go p.tables e below _ (T66.setTop (mkF m 74 #[.val (.int p0), .val (.int p1), .val (.int p2), .val (.int p3), .val (.int (3 : Int32)), .val (.ref b49), .val (.int (((0 : Int32) + p3) + (((0 : Int32) + p2) + (((0 : Int32) + p1) + (0 : Int32))))), .unset, .unset] [(.int (3 : Int32))]))
    refine own_up (fun _ k => XS.iconst X66.here hx rfl (hb hby at_74) k) ?_
    show own_Go p.tables e below _ (T66.setTop (mkF m 75 #[.val (.int p0), .val (.int p1), .val (.int p2), .val (.int p3), .val (.int (3 : Int32)), .val (.ref b49), .val (.int (((0 : Int32) + p3) + (((0 : Int32) + p2) + (((0 : Int32) + p1) + (0 : Int32))))), .unset, .unset] [(.int (1 : Int32)), (.int (3 : Int32))]))
    refine own_up (fun _ k => XS.icmpYes X66.here hx rfl (pc0 := 75) (pc' := 84) rfl (hb hby at_75) rfl (feq (by decide)).2 (by decide) (by decide) k) ?_
    show own_Go p.tables e below _ (T66.setTop (mkF m 84 #[.val (.int p0), .val (.int p1), .val (.int p2), .val (.int p3), .val (.int (3 : Int32)), .val (.ref b49), .val (.int (((0 : Int32) + p3) + (((0 : Int32) + p2) + (((0 : Int32) + p1) + (0 : Int32))))), .unset, .unset] []))
    refine own_up (fun _ k => XS.iload X66.here hx rfl (hb hby at_84) rfl k) ?_
    show own_Go p.tables e below _ (T66.setTop (mkF m 86 #[.val (.int p0), .val (.int p1), .val (.int p2), .val (.int p3), .val (.int (3 : Int32)), .val (.ref b49), .val (.int (((0 : Int32) + p3) + (((0 : Int32) + p2) + (((0 : Int32) + p1) + (0 : Int32))))), .unset, .unset] [(.int (3 : Int32))]))
    refine own_up (fun _ k => XS.iconst X66.here hx rfl (hb hby at_86) k) ?_
    show own_Go p.tables e below _ (T66.setTop (mkF m 87 #[.val (.int p0), .val (.int p1), .val (.int p2), .val (.int p3), .val (.int (3 : Int32)), .val (.ref b49), .val (.int (((0 : Int32) + p3) + (((0 : Int32) + p2) + (((0 : Int32) + p1) + (0 : Int32))))), .unset, .unset] [(.int (2 : Int32)), (.int (3 : Int32))]))
    refine own_up (fun _ k => XS.icmpYes X66.here hx rfl (pc0 := 87) (pc' := 98) rfl (hb hby at_87) rfl (feq (by decide)).2 (by decide) (by decide) k) ?_
    show own_Go p.tables e below _ (T66.setTop (mkF m 98 #[.val (.int p0), .val (.int p1), .val (.int p2), .val (.int p3), .val (.int (3 : Int32)), .val (.ref b49), .val (.int (((0 : Int32) + p3) + (((0 : Int32) + p2) + (((0 : Int32) + p1) + (0 : Int32))))), .unset, .unset] []))
    refine own_up (fun _ k => XS.iloadN X66.here hx rfl (hb hby at_98) rfl k) ?_
    show own_Go p.tables e below _ (T66.setTop (mkF m 99 #[.val (.int p0), .val (.int p1), .val (.int p2), .val (.int p3), .val (.int (3 : Int32)), .val (.ref b49), .val (.int (((0 : Int32) + p3) + (((0 : Int32) + p2) + (((0 : Int32) + p1) + (0 : Int32))))), .unset, .unset] [(.int p1)]))
    refine own_up (fun _ k => XS.iloadN X66.here hx rfl (hb hby at_99) rfl k) ?_
    show own_Go p.tables e below _ (T66.setTop (mkF m 100 #[.val (.int p0), .val (.int p1), .val (.int p2), .val (.int p3), .val (.int (3 : Int32)), .val (.ref b49), .val (.int (((0 : Int32) + p3) + (((0 : Int32) + p2) + (((0 : Int32) + p1) + (0 : Int32))))), .unset, .unset] [(.int p2), (.int p1)]))
    refine own_up (fun _ k => XS.iadd X66.here hx rfl (hb hby at_100) rfl k) ?_
    show own_Go p.tables e below _ (T66.setTop (mkF m 101 #[.val (.int p0), .val (.int p1), .val (.int p2), .val (.int p3), .val (.int (3 : Int32)), .val (.ref b49), .val (.int (((0 : Int32) + p3) + (((0 : Int32) + p2) + (((0 : Int32) + p1) + (0 : Int32))))), .unset, .unset] [(.int (p1 + p2))]))
    refine own_up (fun _ k => XS.iloadN X66.here hx rfl (hb hby at_101) rfl k) ?_
    show own_Go p.tables e below _ (T66.setTop (mkF m 102 #[.val (.int p0), .val (.int p1), .val (.int p2), .val (.int p3), .val (.int (3 : Int32)), .val (.ref b49), .val (.int (((0 : Int32) + p3) + (((0 : Int32) + p2) + (((0 : Int32) + p1) + (0 : Int32))))), .unset, .unset] [(.int p3), (.int (p1 + p2))]))
    refine own_up (fun _ k => XS.iadd X66.here hx rfl (hb hby at_102) rfl k) ?_
    show own_Go p.tables e below _ (T66.setTop (mkF m 103 #[.val (.int p0), .val (.int p1), .val (.int p2), .val (.int p3), .val (.int (3 : Int32)), .val (.ref b49), .val (.int (((0 : Int32) + p3) + (((0 : Int32) + p2) + (((0 : Int32) + p1) + (0 : Int32))))), .unset, .unset] [(.int ((p1 + p2) + p3))]))
    refine own_up (fun _ k => XS.istore X66.here hx rfl (hb hby at_103) rfl (l' := #[.val (.int p0), .val (.int p1), .val (.int p2), .val (.int p3), .val (.int (3 : Int32)), .val (.ref b49), .val (.int (((0 : Int32) + p3) + (((0 : Int32) + p2) + (((0 : Int32) + p1) + (0 : Int32))))), .val (.int ((p1 + p2) + p3)), .unset]) rfl k) ?_
    show own_Go p.tables e below _ (T66.setTop (mkF m 105 #[.val (.int p0), .val (.int p1), .val (.int p2), .val (.int p3), .val (.int (3 : Int32)), .val (.ref b49), .val (.int (((0 : Int32) + p3) + (((0 : Int32) + p2) + (((0 : Int32) + p1) + (0 : Int32))))), .val (.int ((p1 + p2) + p3)), .unset] []))
    refine own_up (fun _ k => XS.iload X66.here hx rfl (hb hby at_105) rfl k) ?_
    show own_Go p.tables e below _ (T66.setTop (mkF m 107 #[.val (.int p0), .val (.int p1), .val (.int p2), .val (.int p3), .val (.int (3 : Int32)), .val (.ref b49), .val (.int (((0 : Int32) + p3) + (((0 : Int32) + p2) + (((0 : Int32) + p1) + (0 : Int32))))), .val (.int ((p1 + p2) + p3)), .unset] [(.int (((0 : Int32) + p3) + (((0 : Int32) + p2) + (((0 : Int32) + p1) + (0 : Int32)))))]))
    refine own_up (fun _ k => XS.iload X66.here hx rfl (hb hby at_107) rfl k) ?_
    show own_Go p.tables e below _ (T66.setTop (mkF m 109 #[.val (.int p0), .val (.int p1), .val (.int p2), .val (.int p3), .val (.int (3 : Int32)), .val (.ref b49), .val (.int (((0 : Int32) + p3) + (((0 : Int32) + p2) + (((0 : Int32) + p1) + (0 : Int32))))), .val (.int ((p1 + p2) + p3)), .unset] [(.int ((p1 + p2) + p3)), (.int (((0 : Int32) + p3) + (((0 : Int32) + p2) + (((0 : Int32) + p1) + (0 : Int32)))))]))
    refine own_up (fun _ k => XS.icmpNo X66.here hx rfl (hb hby at_109) rfl (teq (own_s3 p1 p2 p3)).2 k) ?_
    show own_Go p.tables e below _ (T66.setTop (mkF m 112 #[.val (.int p0), .val (.int p1), .val (.int p2), .val (.int p3), .val (.int (3 : Int32)), .val (.ref b49), .val (.int (((0 : Int32) + p3) + (((0 : Int32) + p2) + (((0 : Int32) + p1) + (0 : Int32))))), .val (.int ((p1 + p2) + p3)), .unset] []))
    refine own_up (fun _ k => XS.iconst X66.here hx rfl (hb hby at_112) k) ?_
    show own_Go p.tables e below _ (T66.setTop (mkF m 113 #[.val (.int p0), .val (.int p1), .val (.int p2), .val (.int p3), .val (.int (3 : Int32)), .val (.ref b49), .val (.int (((0 : Int32) + p3) + (((0 : Int32) + p2) + (((0 : Int32) + p1) + (0 : Int32))))), .val (.int ((p1 + p2) + p3)), .unset] [(.int (1 : Int32))]))
    refine own_up (fun _ k => XS.goto X66.here hx rfl (pc0 := 113) (pc' := 117) rfl (hb hby at_113) (by decide) (by decide) k) ?_
    show own_Go p.tables e below _ (T66.setTop (mkF m 117 #[.val (.int p0), .val (.int p1), .val (.int p2), .val (.int p3), .val (.int (3 : Int32)), .val (.ref b49), .val (.int (((0 : Int32) + p3) + (((0 : Int32) + p2) + (((0 : Int32) + p1) + (0 : Int32))))), .val (.int ((p1 + p2) + p3)), .unset] [(.int (1 : Int32))]))
    refine own_up (fun _ k => XS.istore X66.here hx rfl (hb hby at_117) rfl (l' := #[.val (.int p0), .val (.int p1), .val (.int p2), .val (.int p3), .val (.int (3 : Int32)), .val (.ref b49), .val (.int (((0 : Int32) + p3) + (((0 : Int32) + p2) + (((0 : Int32) + p1) + (0 : Int32))))), .val (.int ((p1 + p2) + p3)), .val (.int (1 : Int32))]) rfl k) ?_
    show own_Go p.tables e below _ (T66.setTop (mkF m 119 #[.val (.int p0), .val (.int p1), .val (.int p2), .val (.int p3), .val (.int (3 : Int32)), .val (.ref b49), .val (.int (((0 : Int32) + p3) + (((0 : Int32) + p2) + (((0 : Int32) + p1) + (0 : Int32))))), .val (.int ((p1 + p2) + p3)), .val (.int (1 : Int32))] []))
    refine own_up (fun _ k => XS.iload X66.here hx rfl (hb hby at_119) rfl k) ?_
    show own_Go p.tables e below _ (T66.setTop (mkF m 121 #[.val (.int p0), .val (.int p1), .val (.int p2), .val (.int p3), .val (.int (3 : Int32)), .val (.ref b49), .val (.int (((0 : Int32) + p3) + (((0 : Int32) + p2) + (((0 : Int32) + p1) + (0 : Int32))))), .val (.int ((p1 + p2) + p3)), .val (.int (1 : Int32))] [(.int (1 : Int32))]))
    refine own_up (fun _ k => XS.ifNo X66.here hx rfl (hb hby at_121) rfl ((if0 _ _).trans (feq (by decide)).1) k) ?_
    show own_Go p.tables e below _ (T66.setTop (mkF m 124 #[.val (.int p0), .val (.int p1), .val (.int p2), .val (.int p3), .val (.int (3 : Int32)), .val (.ref b49), .val (.int (((0 : Int32) + p3) + (((0 : Int32) + p2) + (((0 : Int32) + p1) + (0 : Int32))))), .val (.int ((p1 + p2) + p3)), .val (.int (1 : Int32))] []))
    refine own_up (fun _ k => XS.aload X66.here hx rfl (hb hby at_124) rfl rfl k) ?_
    show own_Go p.tables e below _ (T66.setTop (mkF m 126 #[.val (.int p0), .val (.int p1), .val (.int p2), .val (.int p3), .val (.int (3 : Int32)), .val (.ref b49), .val (.int (((0 : Int32) + p3) + (((0 : Int32) + p2) + (((0 : Int32) + p1) + (0 : Int32))))), .val (.int ((p1 + p2) + p3)), .val (.int (1 : Int32))] [(.ref b49)]))
    refine own_up (fun _ k => XS.iconst X66.here hx rfl (hb hby at_126) k) ?_
    show own_Go p.tables e below _ (T66.setTop (mkF m 127 #[.val (.int p0), .val (.int p1), .val (.int p2), .val (.int p3), .val (.int (3 : Int32)), .val (.ref b49), .val (.int (((0 : Int32) + p3) + (((0 : Int32) + p2) + (((0 : Int32) + p1) + (0 : Int32))))), .val (.int ((p1 + p2) + p3)), .val (.int (1 : Int32))] [(.int (0 : Int32)), (.ref b49)]))
    have f71 : Fld Z T66.heap b49 "com/example/querygraft/querygraft/format/CompressedRows$Layout" "offsets" "[I" (.ref bo_50) := (f67.keep K66 (ninS P50_1 nin0))
    have f72 : n0 ≤ T66.heap.size := (Nat.le_trans f68 K66.1)
    have f73 : Exa Z T66.heap b49 "com/example/querygraft/querygraft/format/CompressedRows$Layout" := (f69.keep K66)
    obtain ⟨cq70, kq70, q70a, q70b, q70c⟩ := isOf hZ rfl f73
    obtain ⟨_, _, ⟨T70, L70, k70, n70⟩, -, X70, ⟨Lc70, hQ70, l70, y70, z70⟩, st70⟩ := X66.virtualBack hx (y := (⟨"com/example/querygraft/querygraft/format/CompressedRows$Layout", "first", "(I)I"⟩ : MethodName)) (z := (⟨"com/example/querygraft/querygraft/format/CompressedRows$Layout", "first", "(I)I"⟩ : MethodName)) hown (mvT hZ (hw _ (List.mem_of_getElem? (i := 17) rfl))) (mvT hZ (hw _ (List.mem_of_getElem? (i := 18) rfl))) (notFace_of_selects (args := #[]) (mvT hZ (hw _ (List.mem_of_getElem? (i := 20) rfl)))) (mvT hZ (hw _ (List.mem_of_getElem? (i := 20) rfl))) (mvT hZ (hw _ (List.mem_of_getElem? (i := 19) rfl))) (by decide) (backOf (W := 0) (rm3 l Z a0 hw [] b49 (0 : Int32) bo_50 ko_50 (4 : Int32) [(.int (0 : Int32)), (.int (((0 : Int32) + p1) + (0 : Int32))), (.int (((0 : Int32) + p2) + (((0 : Int32) + p1) + (0 : Int32)))), (.int (((0 : Int32) + p3) + (((0 : Int32) + p2) + (((0 : Int32) + p1) + (0 : Int32)))))] (0 : Int32) T66.heap n0 f72 f71 P66_0 ⟨by decide, by decide⟩ rfl) hZ (hw _ (List.mem_of_getElem? (i := 21) rfl)) (hw _ (List.mem_of_getElem? (i := 2) rfl)) (by decide) (by decide)) q70a q70c (g := (mkF m 127 #[.val (.int p0), .val (.int p1), .val (.int p2), .val (.int p3), .val (.int (3 : Int32)), .val (.ref b49), .val (.int (((0 : Int32) + p3) + (((0 : Int32) + p2) + (((0 : Int32) + p1) + (0 : Int32))))), .val (.int ((p1 + p2) + p3)), .val (.int (1 : Int32))] [(.int (0 : Int32)), (.ref b49)])) rfl (by rw [hml]; rfl) (Steps.refl _) (argsL := [(.int (0 : Int32))]) (rest := []) (lenOf own_pd2 rfl) rfl (by show 2 * 0 + _ ≤ _; exact Nat.le_of_eq rfl) (hb hby at_127) (fun _ _ => ⟨rfl, rfl, (by decide : 2 + 0 ≤ _), (by decide : 6 + 0 ≤ _)⟩)
    dsimp only [Pt.U, Pt.locs, Pt.cells, Pt.slots] at X70 l70 y70 z70 st70 hQ70
    subst l70 y70 z70
    obtain ⟨rfl, N70q, eq70⟩ := hQ70
    have N70 := Fr.app N66 N70q
    refine own_up (fun _ k => st70.trans k) ?_
    show own_Go p.tables e below _ (T70.setTop (mkF m 130 #[.val (.int p0), .val (.int p1), .val (.int p2), .val (.int p3), .val (.int (3 : Int32)), .val (.ref b49), .val (.int (((0 : Int32) + p3) + (((0 : Int32) + p2) + (((0 : Int32) + p1) + (0 : Int32))))), .val (.int ((p1 + p2) + p3)), .val (.int (1 : Int32))] [(.int (0 : Int32))]))
    refine own_up (fun _ k => XS.ifNo X70.here hx rfl (hb hby at_130) rfl ((if0 _ _).trans (teq rfl).2) k) ?_
    show own_Go p.tables e below _ (T70.setTop (mkF m 133 #[.val (.int p0), .val (.int p1), .val (.int p2), .val (.int p3), .val (.int (3 : Int32)), .val (.ref b49), .val (.int (((0 : Int32) + p3) + (((0 : Int32) + p2) + (((0 : Int32) + p1) + (0 : Int32))))), .val (.int ((p1 + p2) + p3)), .val (.int (1 : Int32))] []))
    refine own_up (fun _ k => XS.iconst X70.here hx rfl (hb hby at_133) k) ?_
    show own_Go p.tables e below _ (T70.setTop (mkF m 134 #[.val (.int p0), .val (.int p1), .val (.int p2), .val (.int p3), .val (.int (3 : Int32)), .val (.ref b49), .val (.int (((0 : Int32) + p3) + (((0 : Int32) + p2) + (((0 : Int32) + p1) + (0 : Int32))))), .val (.int ((p1 + p2) + p3)), .val (.int (1 : Int32))] [(.int (1 : Int32))]))
    refine own_up (fun _ k => XS.goto X70.here hx rfl (pc0 := 134) (pc' := 138) rfl (hb hby at_134) (by decide) (by decide) k) ?_
    show own_Go p.tables e below _ (T70.setTop (mkF m 138 #[.val (.int p0), .val (.int p1), .val (.int p2), .val (.int p3), .val (.int (3 : Int32)), .val (.ref b49), .val (.int (((0 : Int32) + p3) + (((0 : Int32) + p2) + (((0 : Int32) + p1) + (0 : Int32))))), .val (.int ((p1 + p2) + p3)), .val (.int (1 : Int32))] [(.int (1 : Int32))]))
    refine own_up (fun _ k => XS.istore X70.here hx rfl (hb hby at_138) rfl (l' := #[.val (.int p0), .val (.int p1), .val (.int p2), .val (.int p3), .val (.int (3 : Int32)), .val (.ref b49), .val (.int (((0 : Int32) + p3) + (((0 : Int32) + p2) + (((0 : Int32) + p1) + (0 : Int32))))), .val (.int ((p1 + p2) + p3)), .val (.int (1 : Int32))]) rfl k) ?_
    show own_Go p.tables e below _ (T70.setTop (mkF m 140 #[.val (.int p0), .val (.int p1), .val (.int p2), .val (.int p3), .val (.int (3 : Int32)), .val (.ref b49), .val (.int (((0 : Int32) + p3) + (((0 : Int32) + p2) + (((0 : Int32) + p1) + (0 : Int32))))), .val (.int ((p1 + p2) + p3)), .val (.int (1 : Int32))] []))
    refine own_up (fun _ k => XS.iload X70.here hx rfl (hb hby at_140) rfl k) ?_
    show own_Go p.tables e below _ (T70.setTop (mkF m 142 #[.val (.int p0), .val (.int p1), .val (.int p2), .val (.int p3), .val (.int (3 : Int32)), .val (.ref b49), .val (.int (((0 : Int32) + p3) + (((0 : Int32) + p2) + (((0 : Int32) + p1) + (0 : Int32))))), .val (.int ((p1 + p2) + p3)), .val (.int (1 : Int32))] [(.int (3 : Int32))]))
    refine own_up (fun _ k => XS.iconst X70.here hx rfl (hb hby at_142) k) ?_
    show own_Go p.tables e below _ (T70.setTop (mkF m 143 #[.val (.int p0), .val (.int p1), .val (.int p2), .val (.int p3), .val (.int (3 : Int32)), .val (.ref b49), .val (.int (((0 : Int32) + p3) + (((0 : Int32) + p2) + (((0 : Int32) + p1) + (0 : Int32))))), .val (.int ((p1 + p2) + p3)), .val (.int (1 : Int32))] [(.int (1 : Int32)), (.int (3 : Int32))]))
    refine own_up (fun _ k => XS.icmpNo X70.here hx rfl (hb hby at_143) rfl (flt (by decide)).1 k) ?_
    show own_Go p.tables e below _ (T70.setTop (mkF m 146 #[.val (.int p0), .val (.int p1), .val (.int p2), .val (.int p3), .val (.int (3 : Int32)), .val (.ref b49), .val (.int (((0 : Int32) + p3) + (((0 : Int32) + p2) + (((0 : Int32) + p1) + (0 : Int32))))), .val (.int ((p1 + p2) + p3)), .val (.int (1 : Int32))] []))
    refine own_up (fun _ k => XS.iload X70.here hx rfl (hb hby at_146) rfl k) ?_
    show own_Go p.tables e below _ (T70.setTop (mkF m 148 #[.val (.int p0), .val (.int p1), .val (.int p2), .val (.int p3), .val (.int (3 : Int32)), .val (.ref b49), .val (.int (((0 : Int32) + p3) + (((0 : Int32) + p2) + (((0 : Int32) + p1) + (0 : Int32))))), .val (.int ((p1 + p2) + p3)), .val (.int (1 : Int32))] [(.int (1 : Int32))]))
    refine own_up (fun _ k => XS.ifNo X70.here hx rfl (hb hby at_148) rfl ((if0 _ _).trans (feq (by decide)).1) k) ?_
    show own_Go p.tables e below _ (T70.setTop (mkF m 151 #[.val (.int p0), .val (.int p1), .val (.int p2), .val (.int p3), .val (.int (3 : Int32)), .val (.ref b49), .val (.int (((0 : Int32) + p3) + (((0 : Int32) + p2) + (((0 : Int32) + p1) + (0 : Int32))))), .val (.int ((p1 + p2) + p3)), .val (.int (1 : Int32))] []))
    refine own_up (fun _ k => XS.aload X70.here hx rfl (hb hby at_151) rfl rfl k) ?_
    show own_Go p.tables e below _ (T70.setTop (mkF m 153 #[.val (.int p0), .val (.int p1), .val (.int p2), .val (.int p3), .val (.int (3 : Int32)), .val (.ref b49), .val (.int (((0 : Int32) + p3) + (((0 : Int32) + p2) + (((0 : Int32) + p1) + (0 : Int32))))), .val (.int ((p1 + p2) + p3)), .val (.int (1 : Int32))] [(.ref b49)]))
    refine own_up (fun _ k => XS.iconst X70.here hx rfl (hb hby at_153) k) ?_
    show own_Go p.tables e below _ (T70.setTop (mkF m 154 #[.val (.int p0), .val (.int p1), .val (.int p2), .val (.int p3), .val (.int (3 : Int32)), .val (.ref b49), .val (.int (((0 : Int32) + p3) + (((0 : Int32) + p2) + (((0 : Int32) + p1) + (0 : Int32))))), .val (.int ((p1 + p2) + p3)), .val (.int (1 : Int32))] [(.int (1 : Int32)), (.ref b49)]))
    obtain ⟨cq74, kq74, q74a, q74b, q74c⟩ := isOf hZ eq70 f73
    obtain ⟨_, _, ⟨T74, L74, k74, n74⟩, -, X74, ⟨Lc74, hQ74, l74, y74, z74⟩, st74⟩ := X70.virtualBack hx (y := (⟨"com/example/querygraft/querygraft/format/CompressedRows$Layout", "first", "(I)I"⟩ : MethodName)) (z := (⟨"com/example/querygraft/querygraft/format/CompressedRows$Layout", "first", "(I)I"⟩ : MethodName)) hown (mvT hZ (hw _ (List.mem_of_getElem? (i := 17) rfl))) (mvT hZ (hw _ (List.mem_of_getElem? (i := 18) rfl))) (notFace_of_selects (args := #[]) (mvT hZ (hw _ (List.mem_of_getElem? (i := 20) rfl)))) (mvT hZ (hw _ (List.mem_of_getElem? (i := 20) rfl))) (mvT hZ (hw _ (List.mem_of_getElem? (i := 19) rfl))) (by decide) (backOf (W := 0) (rm3 l Z a0 hw [] b49 (1 : Int32) bo_50 ko_50 (4 : Int32) [(.int (0 : Int32)), (.int (((0 : Int32) + p1) + (0 : Int32))), (.int (((0 : Int32) + p2) + (((0 : Int32) + p1) + (0 : Int32)))), (.int (((0 : Int32) + p3) + (((0 : Int32) + p2) + (((0 : Int32) + p1) + (0 : Int32)))))] (((0 : Int32) + p1) + (0 : Int32)) T66.heap n0 f72 f71 P66_0 ⟨by decide, by decide⟩ rfl) hZ (hw _ (List.mem_of_getElem? (i := 21) rfl)) (hw _ (List.mem_of_getElem? (i := 2) rfl)) (by decide) (by decide)) q74a q74c (g := (mkF m 154 #[.val (.int p0), .val (.int p1), .val (.int p2), .val (.int p3), .val (.int (3 : Int32)), .val (.ref b49), .val (.int (((0 : Int32) + p3) + (((0 : Int32) + p2) + (((0 : Int32) + p1) + (0 : Int32))))), .val (.int ((p1 + p2) + p3)), .val (.int (1 : Int32))] [(.int (1 : Int32)), (.ref b49)])) rfl (by rw [hml]; rfl) (Steps.refl _) (argsL := [(.int (1 : Int32))]) (rest := []) (lenOf own_pd2 rfl) rfl (by show 2 * 0 + _ ≤ _; exact Nat.le_of_eq rfl) (hb hby at_154) (fun _ _ => ⟨rfl, eq70, (by decide : 2 + 0 ≤ _), (by decide : 6 + 0 ≤ _)⟩)
    dsimp only [Pt.U, Pt.locs, Pt.cells, Pt.slots] at X74 l74 y74 z74 st74 hQ74
    subst l74 y74 z74
    obtain ⟨rfl, N74q, eq74⟩ := hQ74
    have N74 := Fr.app N70 N74q
    refine own_up (fun _ k => st74.trans k) ?_
    show own_Go p.tables e below _ (T74.setTop (mkF m 157 #[.val (.int p0), .val (.int p1), .val (.int p2), .val (.int p3), .val (.int (3 : Int32)), .val (.ref b49), .val (.int (((0 : Int32) + p3) + (((0 : Int32) + p2) + (((0 : Int32) + p1) + (0 : Int32))))), .val (.int ((p1 + p2) + p3)), .val (.int (1 : Int32))] [(.int (((0 : Int32) + p1) + (0 : Int32)))]))
    refine own_up (fun _ k => XS.iloadN X74.here hx rfl (hb hby at_157) rfl k) ?_
    show own_Go p.tables e below _ (T74.setTop (mkF m 158 #[.val (.int p0), .val (.int p1), .val (.int p2), .val (.int p3), .val (.int (3 : Int32)), .val (.ref b49), .val (.int (((0 : Int32) + p3) + (((0 : Int32) + p2) + (((0 : Int32) + p1) + (0 : Int32))))), .val (.int ((p1 + p2) + p3)), .val (.int (1 : Int32))] [(.int p1), (.int (((0 : Int32) + p1) + (0 : Int32)))]))
    refine own_up (fun _ k => XS.icmpNo X74.here hx rfl (hb hby at_158) rfl (teq (own_s1 p1)).2 k) ?_
    show own_Go p.tables e below _ (T74.setTop (mkF m 161 #[.val (.int p0), .val (.int p1), .val (.int p2), .val (.int p3), .val (.int (3 : Int32)), .val (.ref b49), .val (.int (((0 : Int32) + p3) + (((0 : Int32) + p2) + (((0 : Int32) + p1) + (0 : Int32))))), .val (.int ((p1 + p2) + p3)), .val (.int (1 : Int32))] []))
    refine own_up (fun _ k => XS.iconst X74.here hx rfl (hb hby at_161) k) ?_
    show own_Go p.tables e below _ (T74.setTop (mkF m 162 #[.val (.int p0), .val (.int p1), .val (.int p2), .val (.int p3), .val (.int (3 : Int32)), .val (.ref b49), .val (.int (((0 : Int32) + p3) + (((0 : Int32) + p2) + (((0 : Int32) + p1) + (0 : Int32))))), .val (.int ((p1 + p2) + p3)), .val (.int (1 : Int32))] [(.int (1 : Int32))]))
    refine own_up (fun _ k => XS.goto X74.here hx rfl (pc0 := 162) (pc' := 166) rfl (hb hby at_162) (by decide) (by decide) k) ?_
    show own_Go p.tables e below _ (T74.setTop (mkF m 166 #[.val (.int p0), .val (.int p1), .val (.int p2), .val (.int p3), .val (.int (3 : Int32)), .val (.ref b49), .val (.int (((0 : Int32) + p3) + (((0 : Int32) + p2) + (((0 : Int32) + p1) + (0 : Int32))))), .val (.int ((p1 + p2) + p3)), .val (.int (1 : Int32))] [(.int (1 : Int32))]))
    refine own_up (fun _ k => XS.istore X74.here hx rfl (hb hby at_166) rfl (l' := #[.val (.int p0), .val (.int p1), .val (.int p2), .val (.int p3), .val (.int (3 : Int32)), .val (.ref b49), .val (.int (((0 : Int32) + p3) + (((0 : Int32) + p2) + (((0 : Int32) + p1) + (0 : Int32))))), .val (.int ((p1 + p2) + p3)), .val (.int (1 : Int32))]) rfl k) ?_
    show own_Go p.tables e below _ (T74.setTop (mkF m 168 #[.val (.int p0), .val (.int p1), .val (.int p2), .val (.int p3), .val (.int (3 : Int32)), .val (.ref b49), .val (.int (((0 : Int32) + p3) + (((0 : Int32) + p2) + (((0 : Int32) + p1) + (0 : Int32))))), .val (.int ((p1 + p2) + p3)), .val (.int (1 : Int32))] []))
    refine own_up (fun _ k => XS.iload X74.here hx rfl (hb hby at_168) rfl k) ?_
    show own_Go p.tables e below _ (T74.setTop (mkF m 170 #[.val (.int p0), .val (.int p1), .val (.int p2), .val (.int p3), .val (.int (3 : Int32)), .val (.ref b49), .val (.int (((0 : Int32) + p3) + (((0 : Int32) + p2) + (((0 : Int32) + p1) + (0 : Int32))))), .val (.int ((p1 + p2) + p3)), .val (.int (1 : Int32))] [(.int (3 : Int32))]))
    refine own_up (fun _ k => XS.iconst X74.here hx rfl (hb hby at_170) k) ?_
    show own_Go p.tables e below _ (T74.setTop (mkF m 171 #[.val (.int p0), .val (.int p1), .val (.int p2), .val (.int p3), .val (.int (3 : Int32)), .val (.ref b49), .val (.int (((0 : Int32) + p3) + (((0 : Int32) + p2) + (((0 : Int32) + p1) + (0 : Int32))))), .val (.int ((p1 + p2) + p3)), .val (.int (1 : Int32))] [(.int (2 : Int32)), (.int (3 : Int32))]))
    refine own_up (fun _ k => XS.icmpNo X74.here hx rfl (hb hby at_171) rfl (flt (by decide)).1 k) ?_
    show own_Go p.tables e below _ (T74.setTop (mkF m 174 #[.val (.int p0), .val (.int p1), .val (.int p2), .val (.int p3), .val (.int (3 : Int32)), .val (.ref b49), .val (.int (((0 : Int32) + p3) + (((0 : Int32) + p2) + (((0 : Int32) + p1) + (0 : Int32))))), .val (.int ((p1 + p2) + p3)), .val (.int (1 : Int32))] []))
    refine own_up (fun _ k => XS.iload X74.here hx rfl (hb hby at_174) rfl k) ?_
    show own_Go p.tables e below _ (T74.setTop (mkF m 176 #[.val (.int p0), .val (.int p1), .val (.int p2), .val (.int p3), .val (.int (3 : Int32)), .val (.ref b49), .val (.int (((0 : Int32) + p3) + (((0 : Int32) + p2) + (((0 : Int32) + p1) + (0 : Int32))))), .val (.int ((p1 + p2) + p3)), .val (.int (1 : Int32))] [(.int (1 : Int32))]))
    refine own_up (fun _ k => XS.ifNo X74.here hx rfl (hb hby at_176) rfl ((if0 _ _).trans (feq (by decide)).1) k) ?_
    show own_Go p.tables e below _ (T74.setTop (mkF m 179 #[.val (.int p0), .val (.int p1), .val (.int p2), .val (.int p3), .val (.int (3 : Int32)), .val (.ref b49), .val (.int (((0 : Int32) + p3) + (((0 : Int32) + p2) + (((0 : Int32) + p1) + (0 : Int32))))), .val (.int ((p1 + p2) + p3)), .val (.int (1 : Int32))] []))
    refine own_up (fun _ k => XS.aload X74.here hx rfl (hb hby at_179) rfl rfl k) ?_
    show own_Go p.tables e below _ (T74.setTop (mkF m 181 #[.val (.int p0), .val (.int p1), .val (.int p2), .val (.int p3), .val (.int (3 : Int32)), .val (.ref b49), .val (.int (((0 : Int32) + p3) + (((0 : Int32) + p2) + (((0 : Int32) + p1) + (0 : Int32))))), .val (.int ((p1 + p2) + p3)), .val (.int (1 : Int32))] [(.ref b49)]))
    refine own_up (fun _ k => XS.iconst X74.here hx rfl (hb hby at_181) k) ?_
    show own_Go p.tables e below _ (T74.setTop (mkF m 182 #[.val (.int p0), .val (.int p1), .val (.int p2), .val (.int p3), .val (.int (3 : Int32)), .val (.ref b49), .val (.int (((0 : Int32) + p3) + (((0 : Int32) + p2) + (((0 : Int32) + p1) + (0 : Int32))))), .val (.int ((p1 + p2) + p3)), .val (.int (1 : Int32))] [(.int (2 : Int32)), (.ref b49)]))
    obtain ⟨cq75, kq75, q75a, q75b, q75c⟩ := isOf hZ eq74 f73
    obtain ⟨_, _, ⟨T75, L75, k75, n75⟩, -, X75, ⟨Lc75, hQ75, l75, y75, z75⟩, st75⟩ := X74.virtualBack hx (y := (⟨"com/example/querygraft/querygraft/format/CompressedRows$Layout", "first", "(I)I"⟩ : MethodName)) (z := (⟨"com/example/querygraft/querygraft/format/CompressedRows$Layout", "first", "(I)I"⟩ : MethodName)) hown (mvT hZ (hw _ (List.mem_of_getElem? (i := 17) rfl))) (mvT hZ (hw _ (List.mem_of_getElem? (i := 18) rfl))) (notFace_of_selects (args := #[]) (mvT hZ (hw _ (List.mem_of_getElem? (i := 20) rfl)))) (mvT hZ (hw _ (List.mem_of_getElem? (i := 20) rfl))) (mvT hZ (hw _ (List.mem_of_getElem? (i := 19) rfl))) (by decide) (backOf (W := 0) (rm3 l Z a0 hw [] b49 (2 : Int32) bo_50 ko_50 (4 : Int32) [(.int (0 : Int32)), (.int (((0 : Int32) + p1) + (0 : Int32))), (.int (((0 : Int32) + p2) + (((0 : Int32) + p1) + (0 : Int32)))), (.int (((0 : Int32) + p3) + (((0 : Int32) + p2) + (((0 : Int32) + p1) + (0 : Int32)))))] (((0 : Int32) + p2) + (((0 : Int32) + p1) + (0 : Int32))) T66.heap n0 f72 f71 P66_0 ⟨by decide, by decide⟩ rfl) hZ (hw _ (List.mem_of_getElem? (i := 21) rfl)) (hw _ (List.mem_of_getElem? (i := 2) rfl)) (by decide) (by decide)) q75a q75c (g := (mkF m 182 #[.val (.int p0), .val (.int p1), .val (.int p2), .val (.int p3), .val (.int (3 : Int32)), .val (.ref b49), .val (.int (((0 : Int32) + p3) + (((0 : Int32) + p2) + (((0 : Int32) + p1) + (0 : Int32))))), .val (.int ((p1 + p2) + p3)), .val (.int (1 : Int32))] [(.int (2 : Int32)), (.ref b49)])) rfl (by rw [hml]; rfl) (Steps.refl _) (argsL := [(.int (2 : Int32))]) (rest := []) (lenOf own_pd2 rfl) rfl (by show 2 * 0 + _ ≤ _; exact Nat.le_of_eq rfl) (hb hby at_182) (fun _ _ => ⟨rfl, eq74, (by decide : 2 + 0 ≤ _), (by decide : 6 + 0 ≤ _)⟩)
    dsimp only [Pt.U, Pt.locs, Pt.cells, Pt.slots] at X75 l75 y75 z75 st75 hQ75
    subst l75 y75 z75
    obtain ⟨rfl, N75q, eq75⟩ := hQ75
    have N75 := Fr.app N74 N75q
    refine own_up (fun _ k => st75.trans k) ?_
    show own_Go p.tables e below _ (T75.setTop (mkF m 185 #[.val (.int p0), .val (.int p1), .val (.int p2), .val (.int p3), .val (.int (3 : Int32)), .val (.ref b49), .val (.int (((0 : Int32) + p3) + (((0 : Int32) + p2) + (((0 : Int32) + p1) + (0 : Int32))))), .val (.int ((p1 + p2) + p3)), .val (.int (1 : Int32))] [(.int (((0 : Int32) + p2) + (((0 : Int32) + p1) + (0 : Int32))))]))
    refine own_up (fun _ k => XS.iloadN X75.here hx rfl (hb hby at_185) rfl k) ?_
    show own_Go p.tables e below _ (T75.setTop (mkF m 186 #[.val (.int p0), .val (.int p1), .val (.int p2), .val (.int p3), .val (.int (3 : Int32)), .val (.ref b49), .val (.int (((0 : Int32) + p3) + (((0 : Int32) + p2) + (((0 : Int32) + p1) + (0 : Int32))))), .val (.int ((p1 + p2) + p3)), .val (.int (1 : Int32))] [(.int p1), (.int (((0 : Int32) + p2) + (((0 : Int32) + p1) + (0 : Int32))))]))
    refine own_up (fun _ k => XS.iloadN X75.here hx rfl (hb hby at_186) rfl k) ?_
    show own_Go p.tables e below _ (T75.setTop (mkF m 187 #[.val (.int p0), .val (.int p1), .val (.int p2), .val (.int p3), .val (.int (3 : Int32)), .val (.ref b49), .val (.int (((0 : Int32) + p3) + (((0 : Int32) + p2) + (((0 : Int32) + p1) + (0 : Int32))))), .val (.int ((p1 + p2) + p3)), .val (.int (1 : Int32))] [(.int p2), (.int p1), (.int (((0 : Int32) + p2) + (((0 : Int32) + p1) + (0 : Int32))))]))
    refine own_up (fun _ k => XS.iadd X75.here hx rfl (hb hby at_187) rfl k) ?_
    show own_Go p.tables e below _ (T75.setTop (mkF m 188 #[.val (.int p0), .val (.int p1), .val (.int p2), .val (.int p3), .val (.int (3 : Int32)), .val (.ref b49), .val (.int (((0 : Int32) + p3) + (((0 : Int32) + p2) + (((0 : Int32) + p1) + (0 : Int32))))), .val (.int ((p1 + p2) + p3)), .val (.int (1 : Int32))] [(.int (p1 + p2)), (.int (((0 : Int32) + p2) + (((0 : Int32) + p1) + (0 : Int32))))]))
    refine own_up (fun _ k => XS.icmpNo X75.here hx rfl (hb hby at_188) rfl (teq (own_s2 p1 p2)).2 k) ?_
    show own_Go p.tables e below _ (T75.setTop (mkF m 191 #[.val (.int p0), .val (.int p1), .val (.int p2), .val (.int p3), .val (.int (3 : Int32)), .val (.ref b49), .val (.int (((0 : Int32) + p3) + (((0 : Int32) + p2) + (((0 : Int32) + p1) + (0 : Int32))))), .val (.int ((p1 + p2) + p3)), .val (.int (1 : Int32))] []))
    refine own_up (fun _ k => XS.iconst X75.here hx rfl (hb hby at_191) k) ?_
    show own_Go p.tables e below _ (T75.setTop (mkF m 192 #[.val (.int p0), .val (.int p1), .val (.int p2), .val (.int p3), .val (.int (3 : Int32)), .val (.ref b49), .val (.int (((0 : Int32) + p3) + (((0 : Int32) + p2) + (((0 : Int32) + p1) + (0 : Int32))))), .val (.int ((p1 + p2) + p3)), .val (.int (1 : Int32))] [(.int (1 : Int32))]))
    refine own_up (fun _ k => XS.goto X75.here hx rfl (pc0 := 192) (pc' := 196) rfl (hb hby at_192) (by decide) (by decide) k) ?_
    show own_Go p.tables e below _ (T75.setTop (mkF m 196 #[.val (.int p0), .val (.int p1), .val (.int p2), .val (.int p3), .val (.int (3 : Int32)), .val (.ref b49), .val (.int (((0 : Int32) + p3) + (((0 : Int32) + p2) + (((0 : Int32) + p1) + (0 : Int32))))), .val (.int ((p1 + p2) + p3)), .val (.int (1 : Int32))] [(.int (1 : Int32))]))
    refine own_up (fun _ k => XS.istore X75.here hx rfl (hb hby at_196) rfl (l' := #[.val (.int p0), .val (.int p1), .val (.int p2), .val (.int p3), .val (.int (3 : Int32)), .val (.ref b49), .val (.int (((0 : Int32) + p3) + (((0 : Int32) + p2) + (((0 : Int32) + p1) + (0 : Int32))))), .val (.int ((p1 + p2) + p3)), .val (.int (1 : Int32))]) rfl k) ?_
    show own_Go p.tables e below _ (T75.setTop (mkF m 198 #[.val (.int p0), .val (.int p1), .val (.int p2), .val (.int p3), .val (.int (3 : Int32)), .val (.ref b49), .val (.int (((0 : Int32) + p3) + (((0 : Int32) + p2) + (((0 : Int32) + p1) + (0 : Int32))))), .val (.int ((p1 + p2) + p3)), .val (.int (1 : Int32))] []))
    refine own_up (fun _ k => XS.iload X75.here hx rfl (hb hby at_198) rfl k) ?_
    show own_Go p.tables e below _ (T75.setTop (mkF m 200 #[.val (.int p0), .val (.int p1), .val (.int p2), .val (.int p3), .val (.int (3 : Int32)), .val (.ref b49), .val (.int (((0 : Int32) + p3) + (((0 : Int32) + p2) + (((0 : Int32) + p1) + (0 : Int32))))), .val (.int ((p1 + p2) + p3)), .val (.int (1 : Int32))] [(.int (3 : Int32))]))
    refine own_up (fun _ k => XS.iconst X75.here hx rfl (hb hby at_200) k) ?_
    show own_Go p.tables e below _ (T75.setTop (mkF m 201 #[.val (.int p0), .val (.int p1), .val (.int p2), .val (.int p3), .val (.int (3 : Int32)), .val (.ref b49), .val (.int (((0 : Int32) + p3) + (((0 : Int32) + p2) + (((0 : Int32) + p1) + (0 : Int32))))), .val (.int ((p1 + p2) + p3)), .val (.int (1 : Int32))] [(.int (3 : Int32)), (.int (3 : Int32))]))
    refine own_up (fun _ k => XS.icmpNo X75.here hx rfl (hb hby at_201) rfl (flt (by decide)).1 k) ?_
    show own_Go p.tables e below _ (T75.setTop (mkF m 204 #[.val (.int p0), .val (.int p1), .val (.int p2), .val (.int p3), .val (.int (3 : Int32)), .val (.ref b49), .val (.int (((0 : Int32) + p3) + (((0 : Int32) + p2) + (((0 : Int32) + p1) + (0 : Int32))))), .val (.int ((p1 + p2) + p3)), .val (.int (1 : Int32))] []))
    refine own_up (fun _ k => XS.iload X75.here hx rfl (hb hby at_204) rfl k) ?_
    show own_Go p.tables e below _ (T75.setTop (mkF m 206 #[.val (.int p0), .val (.int p1), .val (.int p2), .val (.int p3), .val (.int (3 : Int32)), .val (.ref b49), .val (.int (((0 : Int32) + p3) + (((0 : Int32) + p2) + (((0 : Int32) + p1) + (0 : Int32))))), .val (.int ((p1 + p2) + p3)), .val (.int (1 : Int32))] [(.int (1 : Int32))]))
    refine own_up (fun _ k => XS.ifNo X75.here hx rfl (hb hby at_206) rfl ((if0 _ _).trans (feq (by decide)).1) k) ?_
    show own_Go p.tables e below _ (T75.setTop (mkF m 209 #[.val (.int p0), .val (.int p1), .val (.int p2), .val (.int p3), .val (.int (3 : Int32)), .val (.ref b49), .val (.int (((0 : Int32) + p3) + (((0 : Int32) + p2) + (((0 : Int32) + p1) + (0 : Int32))))), .val (.int ((p1 + p2) + p3)), .val (.int (1 : Int32))] []))
    refine own_up (fun _ k => XS.aload X75.here hx rfl (hb hby at_209) rfl rfl k) ?_
    show own_Go p.tables e below _ (T75.setTop (mkF m 211 #[.val (.int p0), .val (.int p1), .val (.int p2), .val (.int p3), .val (.int (3 : Int32)), .val (.ref b49), .val (.int (((0 : Int32) + p3) + (((0 : Int32) + p2) + (((0 : Int32) + p1) + (0 : Int32))))), .val (.int ((p1 + p2) + p3)), .val (.int (1 : Int32))] [(.ref b49)]))
    refine own_up (fun _ k => XS.iconst X75.here hx rfl (hb hby at_211) k) ?_
    show own_Go p.tables e below _ (T75.setTop (mkF m 212 #[.val (.int p0), .val (.int p1), .val (.int p2), .val (.int p3), .val (.int (3 : Int32)), .val (.ref b49), .val (.int (((0 : Int32) + p3) + (((0 : Int32) + p2) + (((0 : Int32) + p1) + (0 : Int32))))), .val (.int ((p1 + p2) + p3)), .val (.int (1 : Int32))] [(.int (3 : Int32)), (.ref b49)]))
    obtain ⟨cq76, kq76, q76a, q76b, q76c⟩ := isOf hZ eq75 f73
    obtain ⟨_, _, ⟨T76, L76, k76, n76⟩, -, X76, ⟨Lc76, hQ76, l76, y76, z76⟩, st76⟩ := X75.virtualBack hx (y := (⟨"com/example/querygraft/querygraft/format/CompressedRows$Layout", "first", "(I)I"⟩ : MethodName)) (z := (⟨"com/example/querygraft/querygraft/format/CompressedRows$Layout", "first", "(I)I"⟩ : MethodName)) hown (mvT hZ (hw _ (List.mem_of_getElem? (i := 17) rfl))) (mvT hZ (hw _ (List.mem_of_getElem? (i := 18) rfl))) (notFace_of_selects (args := #[]) (mvT hZ (hw _ (List.mem_of_getElem? (i := 20) rfl)))) (mvT hZ (hw _ (List.mem_of_getElem? (i := 20) rfl))) (mvT hZ (hw _ (List.mem_of_getElem? (i := 19) rfl))) (by decide) (backOf (W := 0) (rm3 l Z a0 hw [] b49 (3 : Int32) bo_50 ko_50 (4 : Int32) [(.int (0 : Int32)), (.int (((0 : Int32) + p1) + (0 : Int32))), (.int (((0 : Int32) + p2) + (((0 : Int32) + p1) + (0 : Int32)))), (.int (((0 : Int32) + p3) + (((0 : Int32) + p2) + (((0 : Int32) + p1) + (0 : Int32)))))] (((0 : Int32) + p3) + (((0 : Int32) + p2) + (((0 : Int32) + p1) + (0 : Int32)))) T66.heap n0 f72 f71 P66_0 ⟨by decide, by decide⟩ rfl) hZ (hw _ (List.mem_of_getElem? (i := 21) rfl)) (hw _ (List.mem_of_getElem? (i := 2) rfl)) (by decide) (by decide)) q76a q76c (g := (mkF m 212 #[.val (.int p0), .val (.int p1), .val (.int p2), .val (.int p3), .val (.int (3 : Int32)), .val (.ref b49), .val (.int (((0 : Int32) + p3) + (((0 : Int32) + p2) + (((0 : Int32) + p1) + (0 : Int32))))), .val (.int ((p1 + p2) + p3)), .val (.int (1 : Int32))] [(.int (3 : Int32)), (.ref b49)])) rfl (by rw [hml]; rfl) (Steps.refl _) (argsL := [(.int (3 : Int32))]) (rest := []) (lenOf own_pd2 rfl) rfl (by show 2 * 0 + _ ≤ _; exact Nat.le_of_eq rfl) (hb hby at_212) (fun _ _ => ⟨rfl, eq75, (by decide : 2 + 0 ≤ _), (by decide : 6 + 0 ≤ _)⟩)
    dsimp only [Pt.U, Pt.locs, Pt.cells, Pt.slots] at X76 l76 y76 z76 st76 hQ76
    subst l76 y76 z76
    obtain ⟨rfl, N76q, eq76⟩ := hQ76
    have N76 := Fr.app N75 N76q
    refine own_up (fun _ k => st76.trans k) ?_
    show own_Go p.tables e below _ (T76.setTop (mkF m 215 #[.val (.int p0), .val (.int p1), .val (.int p2), .val (.int p3), .val (.int (3 : Int32)), .val (.ref b49), .val (.int (((0 : Int32) + p3) + (((0 : Int32) + p2) + (((0 : Int32) + p1) + (0 : Int32))))), .val (.int ((p1 + p2) + p3)), .val (.int (1 : Int32))] [(.int (((0 : Int32) + p3) + (((0 : Int32) + p2) + (((0 : Int32) + p1) + (0 : Int32)))))]))
    refine own_up (fun _ k => XS.iloadN X76.here hx rfl (hb hby at_215) rfl k) ?_
    show own_Go p.tables e below _ (T76.setTop (mkF m 216 #[.val (.int p0), .val (.int p1), .val (.int p2), .val (.int p3), .val (.int (3 : Int32)), .val (.ref b49), .val (.int (((0 : Int32) + p3) + (((0 : Int32) + p2) + (((0 : Int32) + p1) + (0 : Int32))))), .val (.int ((p1 + p2) + p3)), .val (.int (1 : Int32))] [(.int p1), (.int (((0 : Int32) + p3) + (((0 : Int32) + p2) + (((0 : Int32) + p1) + (0 : Int32)))))]))
    refine own_up (fun _ k => XS.iloadN X76.here hx rfl (hb hby at_216) rfl k) ?_
    show own_Go p.tables e below _ (T76.setTop (mkF m 217 #[.val (.int p0), .val (.int p1), .val (.int p2), .val (.int p3), .val (.int (3 : Int32)), .val (.ref b49), .val (.int (((0 : Int32) + p3) + (((0 : Int32) + p2) + (((0 : Int32) + p1) + (0 : Int32))))), .val (.int ((p1 + p2) + p3)), .val (.int (1 : Int32))] [(.int p2), (.int p1), (.int (((0 : Int32) + p3) + (((0 : Int32) + p2) + (((0 : Int32) + p1) + (0 : Int32)))))]))
    refine own_up (fun _ k => XS.iadd X76.here hx rfl (hb hby at_217) rfl k) ?_
    show own_Go p.tables e below _ (T76.setTop (mkF m 218 #[.val (.int p0), .val (.int p1), .val (.int p2), .val (.int p3), .val (.int (3 : Int32)), .val (.ref b49), .val (.int (((0 : Int32) + p3) + (((0 : Int32) + p2) + (((0 : Int32) + p1) + (0 : Int32))))), .val (.int ((p1 + p2) + p3)), .val (.int (1 : Int32))] [(.int (p1 + p2)), (.int (((0 : Int32) + p3) + (((0 : Int32) + p2) + (((0 : Int32) + p1) + (0 : Int32)))))]))
    refine own_up (fun _ k => XS.iloadN X76.here hx rfl (hb hby at_218) rfl k) ?_
    show own_Go p.tables e below _ (T76.setTop (mkF m 219 #[.val (.int p0), .val (.int p1), .val (.int p2), .val (.int p3), .val (.int (3 : Int32)), .val (.ref b49), .val (.int (((0 : Int32) + p3) + (((0 : Int32) + p2) + (((0 : Int32) + p1) + (0 : Int32))))), .val (.int ((p1 + p2) + p3)), .val (.int (1 : Int32))] [(.int p3), (.int (p1 + p2)), (.int (((0 : Int32) + p3) + (((0 : Int32) + p2) + (((0 : Int32) + p1) + (0 : Int32)))))]))
    refine own_up (fun _ k => XS.iadd X76.here hx rfl (hb hby at_219) rfl k) ?_
    show own_Go p.tables e below _ (T76.setTop (mkF m 220 #[.val (.int p0), .val (.int p1), .val (.int p2), .val (.int p3), .val (.int (3 : Int32)), .val (.ref b49), .val (.int (((0 : Int32) + p3) + (((0 : Int32) + p2) + (((0 : Int32) + p1) + (0 : Int32))))), .val (.int ((p1 + p2) + p3)), .val (.int (1 : Int32))] [(.int ((p1 + p2) + p3)), (.int (((0 : Int32) + p3) + (((0 : Int32) + p2) + (((0 : Int32) + p1) + (0 : Int32)))))]))
    refine own_up (fun _ k => XS.icmpNo X76.here hx rfl (hb hby at_220) rfl (teq (own_s3 p1 p2 p3)).2 k) ?_
    show own_Go p.tables e below _ (T76.setTop (mkF m 223 #[.val (.int p0), .val (.int p1), .val (.int p2), .val (.int p3), .val (.int (3 : Int32)), .val (.ref b49), .val (.int (((0 : Int32) + p3) + (((0 : Int32) + p2) + (((0 : Int32) + p1) + (0 : Int32))))), .val (.int ((p1 + p2) + p3)), .val (.int (1 : Int32))] []))
    refine own_up (fun _ k => XS.iconst X76.here hx rfl (hb hby at_223) k) ?_
    show own_Go p.tables e below _ (T76.setTop (mkF m 224 #[.val (.int p0), .val (.int p1), .val (.int p2), .val (.int p3), .val (.int (3 : Int32)), .val (.ref b49), .val (.int (((0 : Int32) + p3) + (((0 : Int32) + p2) + (((0 : Int32) + p1) + (0 : Int32))))), .val (.int ((p1 + p2) + p3)), .val (.int (1 : Int32))] [(.int (1 : Int32))]))
    refine own_up (fun _ k => XS.goto X76.here hx rfl (pc0 := 224) (pc' := 228) rfl (hb hby at_224) (by decide) (by decide) k) ?_
    show own_Go p.tables e below _ (T76.setTop (mkF m 228 #[.val (.int p0), .val (.int p1), .val (.int p2), .val (.int p3), .val (.int (3 : Int32)), .val (.ref b49), .val (.int (((0 : Int32) + p3) + (((0 : Int32) + p2) + (((0 : Int32) + p1) + (0 : Int32))))), .val (.int ((p1 + p2) + p3)), .val (.int (1 : Int32))] [(.int (1 : Int32))]))
    refine own_up (fun _ k => XS.istore X76.here hx rfl (hb hby at_228) rfl (l' := #[.val (.int p0), .val (.int p1), .val (.int p2), .val (.int p3), .val (.int (3 : Int32)), .val (.ref b49), .val (.int (((0 : Int32) + p3) + (((0 : Int32) + p2) + (((0 : Int32) + p1) + (0 : Int32))))), .val (.int ((p1 + p2) + p3)), .val (.int (1 : Int32))]) rfl k) ?_
    show own_Go p.tables e below _ (T76.setTop (mkF m 230 #[.val (.int p0), .val (.int p1), .val (.int p2), .val (.int p3), .val (.int (3 : Int32)), .val (.ref b49), .val (.int (((0 : Int32) + p3) + (((0 : Int32) + p2) + (((0 : Int32) + p1) + (0 : Int32))))), .val (.int ((p1 + p2) + p3)), .val (.int (1 : Int32))] []))
    refine own_up (fun _ k => XS.iload X76.here hx rfl (hb hby at_230) rfl k) ?_
    show own_Go p.tables e below _ (T76.setTop (mkF m 232 #[.val (.int p0), .val (.int p1), .val (.int p2), .val (.int p3), .val (.int (3 : Int32)), .val (.ref b49), .val (.int (((0 : Int32) + p3) + (((0 : Int32) + p2) + (((0 : Int32) + p1) + (0 : Int32))))), .val (.int ((p1 + p2) + p3)), .val (.int (1 : Int32))] [(.int (1 : Int32))]))
    exact own_end X76 hlk (v := some (.int (1 : Int32))) (fun h => by rw [Bd.returns] at h; cases h) (fun fs hr => retN X76 hx (z := (1 : Int32)) (t := .boolean) Bd.returns (by simp) (hb hby at_232) hr) eq76 ⟨rfl, N76⟩ (by decide) (by decide)
set_option maxRecDepth 65536 in
set_option maxHeartbeats 40000000 in
theorem comes_1 {Post : Tables → Env → Array Value → State → Outcome → State → Prop} (hpost : ∀ tb e args s v u, (limb_1_1.after args s (.returned v) u = true ∧ limb_1_2.after args s (.returned v) u = true ∧ True) → FrameEnd s (.returned v) u (Jvm.fieldLocs frame_1_writes args s ++ Jvm.arrayLocs frame_1_arrays args s ++ Jvm.staticLocs frame_1_statics s) 16 128 → Post tb e args s (.returned v) u) :
    ArmFor flags0 classFile x code maxLocals ret World_1 tables_1 room_1 Calls_1 rest_1 Pre_1 Post := by
  intro l hfl _ _ p e ha hc hk s m args below hf hA hF happ hP
  obtain ⟨hcalls, hrest, hpre⟩ := hP
  obtain ⟨-, -, -, hnamed, -, -, -, hat⟩ := (Spec.applies_iff hf).mp happ
  obtain ⟨hg, hn⟩ := and_e (Cond.before_iff.mp (show (Jvm.Cond.and given_1 narrow_1).before args s = true from hpre))
  obtain ⟨hcnt, hgr0⟩ := and_e hg
  obtain ⟨ga0, hgr1⟩ := and_e hgr0
  obtain ⟨ga1, hgr2⟩ := and_e hgr1
  obtain ⟨ga2, hgr3⟩ := and_e hgr2
  obtain ⟨w0, w1, w2, w3, rfl⟩ : ∃ w0 w1 w2 w3 : Value, args = #[w0, w1, w2, w3] := by
    have hs : args.size = 4 := by simpa [Cond.value, given_1] using hcnt
    obtain ⟨L⟩ := args
    match L, hs with
    | [w0, w1, w2, w3], _ => exact ⟨w0, w1, w2, w3, rfl⟩
  have hw := fun d (hd : d ∈ tables_1) => atoms_spec (ws := Jvm.Cond.code x code maxLocals ret :: tables_1) hat d (List.mem_cons_of_mem _ hd)
  have hfit : Fit s := fun {y c} hc i hi => by
    obtain ⟨ha, rfl⟩ := Array.getElem?_eq_some_iff.mp hc
    have q := List.all_eq_true.mp ((Array.all_eq_true_iff_forall_mem.mp hF) _ (Array.getElem_mem ha)) i (List.mem_range.mpr hi)
    simpa [Array.getElem?_eq_getElem hi] using q
  obtain ⟨i0, ei0⟩ := is_v ga0
  obtain rfl : w0 = (.int i0) := Option.some.inj ei0
  obtain ⟨i1, ei1⟩ := is_v ga1
  obtain rfl : w1 = (.int i1) := Option.some.inj ei1
  obtain ⟨i2, ei2⟩ := is_v ga2
  obtain rfl : w2 = (.int i2) := Option.some.inj ei2
  obtain ⟨i3, ei3⟩ := is_v hgr3
  obtain rfl : w3 = (.int i3) := Option.some.inj ei3
  obtain ⟨n, o, h1, h2, h3, _, L, rfl, ⟨rfl, N⟩, hq⟩ := rm0 l s _ hw tables_1 i0 i1 i2 i3 s.heap s.heap.size (Nat.le_refl _)  p e ha hc hk s m _ below hf ((Spec.applies_iff_loose hf).mp happ).1 ⟨rfl, State.Warmed39.refl s, rfl⟩ trivial
  refine ⟨n, _, h1, h2, h3, hpost _ _ _ _ _ _ ⟨Cond.after_iff.mpr rfl, Cond.after_iff.mpr (eq_i res_at (Term.int_eval (1)) rfl), trivial⟩ ⟨hq.1, hq.2.1, (hq.2.2.sift fun y hy => Or.inr (N y hy)).mono (by decide) (by decide)⟩⟩
theorem main_1_1 : Claimed_1_1 := comes_1 fun _ _ _ _ _ _ h hF => ⟨h.1, hF⟩
theorem main_1_2 : Claimed_1_2 := comes_1 fun _ _ _ _ _ _ h hF => ⟨h.2.1, hF⟩
end Jvm.Pilot.@@N@@
namespace Jvm.Pilot.@@N@@
open Jvm Jvm.ClassFile Sem Op Lib Jvm.Free Jvm.Stand Jvm.Pilot.@@N@@.Jvm.D
/-! MADE BY PROGRAM (witnessworld.py) out of the Statement's table words and the real class files: 9 classes; the members and pool entries that the words name. The judged class is class 1, her method 1. -/
namespace start1
open Jvm.ClassFile
def u (s : String) : CpInfo := .utf8 (stringToUtf16 s)
/-- a pool by its gaps: so many unusable entries, then the entry; so many at the end -/
def gap : Nat → List CpInfo → List CpInfo
  | 0, r => r
  | n + 1, r => .unusable :: gap n r
def poolList (es : List (Nat × CpInfo)) (last : Nat) : List CpInfo := es.foldr (fun e r => gap e.1 (e.2 :: r)) (gap last [])
def pool (es : List (Nat × CpInfo)) (last : Nat) : Array CpInfo := ⟨poolList es last⟩
def fileOf (pool : Array CpInfo) (this : Nat) (attrs : Array Attribute := #[]) (ms : Array MethodInfo := #[]) (fl : Nat := 33) (sup : Nat := 0) (ifs : Array Nat := #[]) (fds : Array FieldInfo := #[]) : ClassFile where
  minorVersion := 0
  majorVersion := 65
  constantPool := pool
  accessFlags := fl
  thisClass := this
  superClass := sup
  interfaces := ifs
  fields := fds
  methods := ms
  attributes := attrs
def plain (name : String) (sup : Option ClassId) : Class where
  name := name
  kind := .ordinary
  loader := none
  accessFlags := 33
  super := sup
  interfaces := #[]
  cf := none
  fields := #[]
  methods := #[]
  instanceTypes := #[]
  staticTypes := #[]
  resolved := #[]
  callSites := []
  init := .initialized
  statics := none
  mirror := none

def pool0 : Array CpInfo := pool [(5, u "<init>"), (0, u "()V"), (1, .class_ 10), (1, u "java/lang/Object")] 113

def k0c0 : Code := { maxStack := 0, maxLocals := 1, code := object_method_1_code, exceptionTable := #[], attributes := #[] }
def k0m0 : Method := { name := "<init>", desc := "()V", sig := { parameters := [], returnType := none }, accessFlags := 1, code := some k0c0 }
/-- java/lang/Object -/
def k0 : Class := { plain "java/lang/Object" none with
  accessFlags := 33
  interfaces := #[]
  cf := some (fileOf pool0 8 #[] #[{ accessFlags := 1, nameIndex := 5, descriptorIndex := 6, attributes := #[] }] 33 0 #[] #[])
  fields := #[]
  methods := #[k0m0]
  instanceTypes := #[]
  staticTypes := #[]
  resolved := Array.replicate 124 none
  statics := none }

def pool1 : Array CpInfo := pool [(2, .class_ 4), (1, u "java/lang/Object"), (0, u "<init>"), (0, u "()V"), (0, .class_ 8), (0, u "com/example/querygraft/querygraft/format/CompressedRows$Layout"), (0, .methodref 7 10), (0, .nameAndType 5 11), (0, u "(I)V"), (0, .methodref 7 13), (0, .nameAndType 14 15), (0, u "count"), (0, u "(II)V"), (0, .methodref 7 17), (0, .nameAndType 18 19), (0, u "layOut"), (0, u "()I"), (0, .methodref 7 21), (0, .nameAndType 22 23), (0, u "first"), (0, u "(I)I"), (0, .class_ 25), (0, u "com/example/querygraft/querygraft/format/LayoutLayOutPinLaw"), (2, u "law"), (0, u "(IIII)Z")] 7

def k1m0 : Method := { name := "<init>", desc := "()V", sig := { parameters := [], returnType := none }, accessFlags := 2, code := none }
def k1c1 : Code := { maxStack := 3, maxLocals := 9, code := code, exceptionTable := #[], attributes := #[] }
def k1m1 : Method := { name := "law", desc := "(IIII)Z", sig := { parameters := [.int, .int, .int, .int], returnType := some .boolean }, accessFlags := 9, code := some k1c1 }
/-- com/example/querygraft/querygraft/format/LayoutLayOutPinLaw -/
def k1 : Class := { plain "com/example/querygraft/querygraft/format/LayoutLayOutPinLaw" (some 0) with
  accessFlags := 49
  interfaces := #[]
  cf := some (fileOf pool1 24 #[] #[{ accessFlags := 2, nameIndex := 5, descriptorIndex := 6, attributes := #[] }, { accessFlags := 9, nameIndex := 28, descriptorIndex := 29, attributes := #[] }] 49 2 #[] #[])
  fields := #[]
  methods := #[k1m0, k1m1]
  instanceTypes := #[]
  staticTypes := #[]
  resolved := Array.replicate 37 none
  statics := none }

def pool2 : Array CpInfo := pool [(1, .methodref 2 3), (0, .class_ 4), (0, .nameAndType 5 6), (0, u "java/lang/Object"), (0, u "<init>"), (0, u "()V"), (0, .fieldref 8 9), (0, .class_ 10), (0, .nameAndType 11 12), (0, u "com/example/querygraft/querygraft/format/CompressedRows$Layout"), (0, u "offsets"), (0, u "[I"), (2, u "next"), (19, .class_ 36), (0, u "com/example/querygraft/querygraft/format/CompressedRows"), (3, u "(I)V"), (2, u "count"), (0, u "(II)V"), (0, u "layOut"), (0, u "()I"), (1, u "first"), (0, u "(I)I")] 21

def k2c0 : Code := { maxStack := 3, maxLocals := 2, code := prog_32_method_1_code, exceptionTable := #[], attributes := #[] }
def k2m0 : Method := { name := "<init>", desc := "(I)V", sig := { parameters := [.int], returnType := none }, accessFlags := 1, code := some k2c0 }
def k2c1 : Code := { maxStack := 4, maxLocals := 3, code := prog_32_method_3_code, exceptionTable := #[], attributes := #[] }
def k2m1 : Method := { name := "count", desc := "(II)V", sig := { parameters := [.int, .int], returnType := none }, accessFlags := 1, code := some k2c1 }
def k2c2 : Code := { maxStack := 5, maxLocals := 3, code := prog_32_method_4_code, exceptionTable := #[], attributes := #[] }
def k2m2 : Method := { name := "layOut", desc := "()I", sig := { parameters := [], returnType := some .int }, accessFlags := 1, code := some k2c2 }
def k2c3 : Code := { maxStack := 2, maxLocals := 2, code := prog_32_method_5_code, exceptionTable := #[], attributes := #[] }
def k2m3 : Method := { name := "first", desc := "(I)I", sig := { parameters := [.int], returnType := some .int }, accessFlags := 1, code := some k2c3 }
/-- com/example/querygraft/querygraft/format/CompressedRows$Layout -/
def k2 : Class := { plain "com/example/querygraft/querygraft/format/CompressedRows$Layout" (some 0) with
  accessFlags := 49
  interfaces := #[]
  cf := some (fileOf pool2 8 #[.nestHost 35] #[{ accessFlags := 1, nameIndex := 5, descriptorIndex := 40, attributes := #[] }, { accessFlags := 1, nameIndex := 43, descriptorIndex := 44, attributes := #[] }, { accessFlags := 1, nameIndex := 45, descriptorIndex := 46, attributes := #[] }, { accessFlags := 1, nameIndex := 48, descriptorIndex := 49, attributes := #[] }] 49 2 #[] #[{ accessFlags := 18, nameIndex := 11, descriptorIndex := 12, attributes := #[] }, { accessFlags := 2, nameIndex := 15, descriptorIndex := 12, attributes := #[] }])
  fields := #[{ name := "offsets", type := (.array .int), accessFlags := 18, slot := 0, constantValue := 0 }, { name := "next", type := (.array .int), accessFlags := 2, slot := 1, constantValue := 0 }]
  methods := #[k2m0, k2m1, k2m2, k2m3]
  instanceTypes := #[(.array .int), (.array .int)]
  staticTypes := #[]
  resolved := Array.replicate 71 none
  statics := none }

def pool3 : Array CpInfo := pool [(1, u "java/lang/Cloneable"), (0, .class_ 1), (0, u "java/lang/Object"), (0, .class_ 3)] 3

/-- java/lang/Cloneable -/
def k3 : Class := { plain "java/lang/Cloneable" (some 0) with
  accessFlags := 1537
  interfaces := #[]
  cf := some (fileOf pool3 2 #[] #[] 1537 4 #[] #[])
  fields := #[]
  methods := #[]
  instanceTypes := #[]
  staticTypes := #[]
  resolved := Array.replicate 8 none
  statics := none }

def pool4 : Array CpInfo := pool [(1, u "java/io/Serializable"), (0, .class_ 1), (0, u "java/lang/Object"), (0, .class_ 3)] 3

/-- java/io/Serializable -/
def k4 : Class := { plain "java/io/Serializable" (some 0) with
  accessFlags := 1537
  interfaces := #[]
  cf := some (fileOf pool4 2 #[] #[] 1537 4 #[] #[])
  fields := #[]
  methods := #[]
  instanceTypes := #[]
  staticTypes := #[]
  resolved := Array.replicate 8 none
  statics := none }

/-- the primitive byte -/
def k5 : Class := { plain "byte" none with kind := .primitive 'B', accessFlags := 0x411 }
/-- [B -/
def k6 : Class := { plain "[B" (some 0) with kind := .array 5 .byte, interfaces := #[3, 4], accessFlags := 1041 }

/-- the primitive int -/
def k7 : Class := { plain "int" none with kind := .primitive 'I', accessFlags := 0x411 }
/-- [I -/
def k8 : Class := { plain "[I" (some 0) with kind := .array 7 .int, interfaces := #[3, 4], accessFlags := 1041 }

def heap : Heap := #[]
def classes : Array Class := #[k0, k1, k2, k3, k4, k5, k6, k7, k8]
def interned : List (Array UInt16 × Addr) := []
def slotsUsed : Nat := 0
def theMethod : MethodId := ⟨1, 1⟩
def args0 : Array Value := #[.int 5, .int 6, .int 7, .int 8]
def aboutOver (below : List Frame) : State where
  vm := { classes := classes, interned := interned.toArray }
  heap := heap
  slotsUsed := slotsUsed
  threads := #[{ frames := .invoking theMethod args0 :: below }]
def below0 : List Frame := [.native { method := ⟨0, 0⟩, args := #[] }]
def about1 : State := aboutOver below0
def p0 : Program := .bare "" "" ""
def e0 : Env := launch0.env 0 0 0
theorem w_frames : about1.frames = Frame.invoking theMethod args0 :: below0 := rfl
set_option maxRecDepth 65536 in
theorem w_args : argsFit about1.vm theMethod args0 = true := by decide +kernel
set_option maxRecDepth 65536 in
theorem w_heap : heapFits about1 = true := by decide +kernel
set_option maxRecDepth 65536 in
theorem w_runnable : about1.curStatus? = some .runnable := by decide +kernel
set_option maxRecDepth 65536 in
theorem w_alone : about1.alone = true := by decide +kernel
set_option maxRecDepth 65536 in
theorem w_named : about1.methodNamed? x = some theMethod := by decide +kernel
set_option maxRecDepth 65536 in
theorem w_hears : about1.hears theMethod below0 = true := by decide +kernel
set_option maxRecDepth 65536 in
theorem w_ripe : about1.ripe theMethod args0 below0 = true := by decide +kernel
theorem w_running : about1.status = .running := rfl
set_option maxRecDepth 65536 in
theorem w_room : about1.hasRoom e0.platform room_1 = true :=
  launch0.hasRoom_least _ room_1 (by decide +kernel) (by decide +kernel) (by decide +kernel) (by decide +kernel) (by decide +kernel) (by decide +kernel)
theorem allAtoms_all (ts : List Jvm.Cond) (a : Array Jvm.Value) (st : Jvm.State) : (allAtoms ts).before a st = ts.all (fun c => c.before a st) := by
  induction ts with
  | nil => rfl
  | cons c t ih =>
    show (Jvm.Cond.and c (allAtoms t)).before a st = _
    rw [Jvm.Cond.before_and, ih, List.all_cons]
def words1 : List Jvm.Cond := Jvm.Cond.code x code maxLocals ret :: tables_1
/-- a 'code' word, met by the world's own term for the bytes: nothing is compared byte by byte -/
theorem code_word {y : MethodName} {bytes : ByteArray} {mx : Nat} {rt : Option FieldType} {a : Array Value} {s : State} {m : MethodId} {meth : Method} {c : Code} (h1 : s.methodNamed? y = some m) (h2 : s.vm.method? m = some meth) (h3 : meth.code = some c) (h4 : c.code = bytes)
    (h5 : (c.maxLocals == mx && c.exceptionTable.isEmpty && decide (c.maxStack ≤ mostOperands) && decide (meth.sig.returnType = rt) && !meth.locks && decide (parseMethodDescriptor y.desc = some meth.sig)) = true) : (Jvm.Cond.code y bytes mx rt).before a s = true := by
  simp only [Bool.and_eq_true, beq_iff_eq, Bool.not_eq_true', decide_eq_true_eq] at h5
  obtain ⟨⟨⟨⟨⟨g1, g2⟩, g3⟩, g4⟩, g5⟩, g6⟩ := h5
  simp [Cond.before, Cond.holds, Cond.value, h1, h2, h3, h4, g1, g2, g3, g4, g5, g6]
def isCode : Jvm.Cond → Bool
  | .code _ _ _ _ => true
  | _ => false
theorem all_split {L : List Jvm.Cond} {P : Jvm.Cond → Bool} (h1 : L.all (fun c => isCode c || P c) = true) (h2 : ∀ c ∈ L.filter isCode, P c = true) : L.all P = true := by
  refine List.all_eq_true.mpr fun c hc => ?_
  have h := List.all_eq_true.mp h1 c hc
  rcases Bool.eq_false_or_eq_true (isCode c) with hi | hi
  · exact h2 c (List.mem_filter.mpr ⟨hc, hi⟩)
  · simpa [hi] using h
set_option maxRecDepth 65536 in
theorem w_c0 : (Jvm.Cond.code x code maxLocals ret).before args0 about1 = true := code_word (m := ⟨1, 1⟩) (meth := k1m1) (c := k1c1) (by decide +kernel) rfl rfl rfl (by decide +kernel)
set_option maxRecDepth 65536 in
theorem w_c1 : (Jvm.Cond.code ({ cls := "com/example/querygraft/querygraft/format/CompressedRows$Layout", name := "<init>", desc := "(I)V" } : Jvm.MethodName) prog_32_method_1_code (2 : Nat) (Option.none : Option Jvm.ClassFile.FieldType)).before args0 about1 = true := code_word (m := ⟨2, 0⟩) (meth := k2m0) (c := k2c0) (by decide +kernel) rfl rfl rfl (by decide +kernel)
set_option maxRecDepth 65536 in
theorem w_c2 : (Jvm.Cond.code ({ cls := "java/lang/Object", name := "<init>", desc := "()V" } : Jvm.MethodName) object_method_1_code (1 : Nat) (Option.none : Option Jvm.ClassFile.FieldType)).before args0 about1 = true := code_word (m := ⟨0, 0⟩) (meth := k0m0) (c := k0c0) (by decide +kernel) rfl rfl rfl (by decide +kernel)
set_option maxRecDepth 65536 in
theorem w_c3 : (Jvm.Cond.code ({ cls := "com/example/querygraft/querygraft/format/CompressedRows$Layout", name := "layOut", desc := "()I" } : Jvm.MethodName) prog_32_method_4_code (3 : Nat) (Option.some Jvm.ClassFile.FieldType.int)).before args0 about1 = true := code_word (m := ⟨2, 2⟩) (meth := k2m2) (c := k2c2) (by decide +kernel) rfl rfl rfl (by decide +kernel)
set_option maxRecDepth 65536 in
theorem w_c4 : (Jvm.Cond.code ({ cls := "com/example/querygraft/querygraft/format/CompressedRows$Layout", name := "first", desc := "(I)I" } : Jvm.MethodName) prog_32_method_5_code (2 : Nat) (Option.some Jvm.ClassFile.FieldType.int)).before args0 about1 = true := code_word (m := ⟨2, 3⟩) (meth := k2m3) (c := k2c3) (by decide +kernel) rfl rfl rfl (by decide +kernel)
set_option maxRecDepth 65536 in
theorem w_c5 : (Jvm.Cond.code ({ cls := "com/example/querygraft/querygraft/format/CompressedRows$Layout", name := "count", desc := "(II)V" } : Jvm.MethodName) prog_32_method_3_code (3 : Nat) (Option.none : Option Jvm.ClassFile.FieldType)).before args0 about1 = true := code_word (m := ⟨2, 1⟩) (meth := k2m1) (c := k2c1) (by decide +kernel) rfl rfl rfl (by decide +kernel)
def codes1 : List Jvm.Cond := [Jvm.Cond.code x code maxLocals ret, Jvm.Cond.code ({ cls := "com/example/querygraft/querygraft/format/CompressedRows$Layout", name := "<init>", desc := "(I)V" } : Jvm.MethodName) prog_32_method_1_code (2 : Nat) (Option.none : Option Jvm.ClassFile.FieldType), Jvm.Cond.code ({ cls := "java/lang/Object", name := "<init>", desc := "()V" } : Jvm.MethodName) object_method_1_code (1 : Nat) (Option.none : Option Jvm.ClassFile.FieldType), Jvm.Cond.code ({ cls := "com/example/querygraft/querygraft/format/CompressedRows$Layout", name := "layOut", desc := "()I" } : Jvm.MethodName) prog_32_method_4_code (3 : Nat) (Option.some Jvm.ClassFile.FieldType.int), Jvm.Cond.code ({ cls := "com/example/querygraft/querygraft/format/CompressedRows$Layout", name := "first", desc := "(I)I" } : Jvm.MethodName) prog_32_method_5_code (2 : Nat) (Option.some Jvm.ClassFile.FieldType.int), Jvm.Cond.code ({ cls := "com/example/querygraft/querygraft/format/CompressedRows$Layout", name := "count", desc := "(II)V" } : Jvm.MethodName) prog_32_method_3_code (3 : Nat) (Option.none : Option Jvm.ClassFile.FieldType)]
set_option maxRecDepth 65536 in
theorem codes_eq : words1.filter isCode = codes1 := rfl
theorem w_codes : ∀ c ∈ words1.filter isCode, c.before args0 about1 = true := by
  rw [codes_eq]
  intro c hc
  simp only [codes1, List.mem_cons, List.not_mem_nil, or_false] at hc
  rcases hc with rfl | rfl | rfl | rfl | rfl | rfl
  · exact w_c0
  · exact w_c1
  · exact w_c2
  · exact w_c3
  · exact w_c4
  · exact w_c5
set_option maxRecDepth 65536 in
theorem w_t1 : (words1.take 24).all (fun c => isCode c || c.before args0 about1) = true := by decide +kernel
set_option maxRecDepth 65536 in
theorem w_t2 : (words1.drop 24).all (fun c => isCode c || c.before args0 about1) = true := by decide +kernel
theorem w_tables : (allAtoms (Jvm.Cond.code x code maxLocals ret :: tables_1)).before args0 about1 = true := by
  rw [allAtoms_all]
  show words1.all (fun c => c.before args0 about1) = true
  refine all_split ?_ w_codes
  rw [← List.take_append_drop 24 words1, List.all_append, w_t1, w_t2]
  rfl
set_option maxRecDepth 65536 in
theorem w_case : (Jvm.Cond.and given_1 narrow_1).before args0 about1 = true := by decide +kernel
theorem w_applies : (headSpec (Jvm.Cond.code x code maxLocals ret :: tables_1) room_1).applies x e0.platform about1 = true :=
  (Spec.applies_iff w_frames).mpr ⟨w_running, w_runnable, w_alone, w_named, w_hears, w_ripe, w_room, w_tables⟩
theorem atStart : AtStart classFile x code maxLocals ret World_1 tables_1 room_1 Calls_1 rest_1 Pre_1 launch0 p0 e0 about1 theMethod args0 below0 :=
  ⟨lists_1, trivial, launch0.admits_env _ _ _, launch0.least_env, fairChoices_fair.cas, fairChoices_fair.clock, w_frames, w_args, w_heap, w_applies, trivial, trivial, w_case⟩
end start1
theorem witness_1 : WitnessClaimed_1 := ⟨start1.p0, start1.e0, start1.about1, start1.theMethod, start1.args0, start1.below0, start1.atStart⟩
end Jvm.Pilot.@@N@@
