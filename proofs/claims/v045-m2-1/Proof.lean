import JvmDerived
import JvmDerived.Pilot.@@N@@Statement
import JvmDerived.Pilot.@@N@@Code
set_option linter.unusedVariables false
set_option linter.unusedSimpArgs false
namespace Jvm.Pilot.@@N@@
open Jvm Jvm.ClassFile Sem Op Lib Jvm.Free Jvm.Stand Jvm.LawKit Jvm.RoadKit Bundle Jvm.Pilot.@@N@@.Jvm.D
def own_Go (tb : Tables) (e : Env) (below : List Frame) (G : State → Outcome → Prop) (s : State) : Prop := ∃ s₂ o, Steps tb e below s s₂ ∧ s₂.status = .running ∧ Ended s₂ below o ∧ G s₂ o
theorem own_up {tb : Tables} {e : Env} {below : List Frame} {G : State → Outcome → Prop} {s s' : State} (f : ∀ t, Steps tb e below s' t → Steps tb e below s t) (h : own_Go tb e below G s') : own_Go tb e below G s := by
  obtain ⟨s₂, o, h1, h2⟩ := h
  exact ⟨s₂, o, f _ h1, h2⟩
theorem own_selp {s : State} {args : Array Value} {y : MethodName} {n : Nat} (hi : (Cond.instantiable y.cls n).before args s = true) (hp : s.PrivateAt y) (hinst : (Cond.instanceMethod y).before args s = true) (hy : y.cls ≠ "java/lang/invoke/MethodHandle" ∧ y.cls ≠ "java/lang/invoke/VarHandle") : (Cond.selects y.cls y y).before args s = true := by
  obtain ⟨c, k, h1, h2, -, h4, -, -⟩ := Cond.instantiable_spec hi
  rw [Bool.or_eq_false_iff] at h4
  exact selects_self_of_private h1 h2 h4.1 hp hinst hy
theorem own_end {p : Program} {l : Launch} {e : Env} {R : Room} {s : State} {m : MethodId} {args : Array Value} {below : List Frame} {meth : Method} {c : Code} {T : State} {locs : List Loc} {cells slots : Nat} (X : Stand p l e R s m args below meth c T locs cells slots) (hlocks : meth.locks = false) {v : Option Value} (hv : meth.sig.returnType = none → v = none) {g : JFrame}
    (step : ∀ fs, (∀ (f : JFrame) (acts : List Action), f.method = m → f.locked = none → f.entered = [] → (doReturn e (T.setTop f) acts v).1 = T.setFrames fs) → Steps p.tables e below (T.setTop g) (T.setFrames fs)) {h : Heap} (eT : T.heap = h) {Q : Option Value → Heap → List Loc → Prop} {kc ks : Nat} (hQ : Q v h locs) (hc : cells ≤ kc) (hs : slots ≤ ks) :
    own_Go p.tables e below (fun u o => ∃ v L, o = .returned v ∧ Q v u.heap L ∧ FrameEnd s o u L kc ks) (T.setTop g) := by
  obtain ⟨fs, hr, hrun, hended, hW, hsame⟩ := X.leave (v := v) hv hlocks
  subst eT
  exact ⟨_, _, step fs hr, hrun, hended, _, _, rfl, hQ, ⟨_, rfl⟩, hW, hsame.mono hc hs⟩
theorem own_nar8 (y : Int32) : nar .byte (y.toInt8.toInt32) = y.toInt8.toInt32 := by
  show y.toInt8.toInt32.toInt8.toInt32 = y.toInt8.toInt32
  simp
theorem own_eqv {s : State} {args : Array Value} {t : Term} {z : Int32} (h : (Cond.eq t (.int z)).value args s none s [] = some true) : t.eval args s none [] s = some (.int z) := by
  simp only [Cond.value] at h
  cases hv : t.eval args s none [] s with
  | none => simp [hv] at h
  | some v =>
    rw [hv, Term.int_eval] at h
    cases v <;> simp at h
    rw [h]
theorem own_len {s : State} {args : Array Value} {t : Term} {a : Addr} {cl : Cell} {ty : FieldType} {z : Int32} (ev : t.eval args s none [] s = some (.ref a)) (A : Arr s s.heap a cl ty) (h : (Cond.eq (.length t) (.int z)).value args s none s [] = some true) : cl.slots.size < 2 ^ 31 ∧ cl.slots.size.toInt32 = z := by
  have e4 := eqv_i (Term.int_eval z) h
  simp only [Term.eval, ev, Option.bind_eq_bind, Option.bind_some, A.fin (Vm.Alike.refl _)] at e4
  by_cases q : cl.slots.size < 2 ^ 31
  · rw [if_pos q] at e4
    exact ⟨q, Value.int.inj (Option.some.inj e4)⟩
  · rw [if_neg q] at e4
    cases e4
theorem own_arr3 {s : State} {args : Array Value} {t : Term} {a : Addr} {x y z : Int32} (hf : Fit s) (ev : t.eval args s none [] s = some (.ref a)) (h0 : (Cond.arrayOf t .byte).value args s none s [] = some true) (h1 : (Cond.eq (.length t) (.int 3)).value args s none s [] = some true) (hx : (Cond.eq (.elem t (.int 0)) (.int x)).value args s none s [] = some true) (hy : (Cond.eq (.elem t (.int 1)) (.int y)).value args s none s [] = some true) (hz : (Cond.eq (.elem t (.int 2)) (.int z)).value args s none s [] = some true) :
    ∃ k, Arv s s.heap a k .byte (3 : Int32) [(.int x), (.int y), (.int z)] (.int (0 : Int32)) := by
  obtain ⟨cl, A⟩ := Arr.start ev h0
  obtain ⟨q, e⟩ := own_len ev A h1
  have hc := (elem_in (own_eqv hx) ev (Term.int_eval 0) A.1).2
  have hd := (elem_in (own_eqv hy) ev (Term.int_eval 1) A.1).2
  have he := (elem_in (own_eqv hz) ev (Term.int_eval 2) A.1).2
  exact ⟨cl.cls, Arv.start hf A q e (by decide) (by show (3 : Int32).toNatClampNeg = 3; decide) ⟨hc, hd, he, trivial⟩⟩
theorem d_prog_10_m_3_0 : decode prog_10_method_3_code 0 = .ok (.iload_n 1, 1) := by decide +kernel
theorem d_prog_10_m_3_1 : decode prog_10_method_3_code 1 = .ok (.getstatic 13, 3) := by decide +kernel
theorem d_prog_10_m_3_4 : decode prog_10_method_3_code 4 = .ok (.arraylength, 1) := by decide +kernel
theorem d_prog_10_m_3_5 : decode prog_10_method_3_code 5 = .ok (.if_icmp .ge 5, 3) := by decide +kernel
theorem d_prog_10_m_3_8 : decode prog_10_method_3_code 8 = .ok (.iconst 0, 1) := by decide +kernel
theorem d_prog_10_m_3_9 : decode prog_10_method_3_code 9 = .ok (.ireturn, 1) := by decide +kernel
theorem d_prog_10_m_3_10 : decode prog_10_method_3_code 10 = .ok (.iconst 0, 1) := by decide +kernel
theorem d_prog_10_m_3_11 : decode prog_10_method_3_code 11 = .ok (.istore_n 2, 1) := by decide +kernel
theorem d_prog_10_m_3_12 : decode prog_10_method_3_code 12 = .ok (.iload_n 2, 1) := by decide +kernel
theorem d_prog_10_m_3_13 : decode prog_10_method_3_code 13 = .ok (.getstatic 13, 3) := by decide +kernel
theorem d_prog_10_m_3_16 : decode prog_10_method_3_code 16 = .ok (.arraylength, 1) := by decide +kernel
theorem d_prog_10_m_3_17 : decode prog_10_method_3_code 17 = .ok (.if_icmp .ge 22, 3) := by decide +kernel
theorem d_prog_10_m_3_20 : decode prog_10_method_3_code 20 = .ok (.aload_n 0, 1) := by decide +kernel
theorem d_prog_10_m_3_21 : decode prog_10_method_3_code 21 = .ok (.iload_n 2, 1) := by decide +kernel
theorem d_prog_10_m_3_22 : decode prog_10_method_3_code 22 = .ok (.baload, 1) := by decide +kernel
theorem d_prog_10_m_3_23 : decode prog_10_method_3_code 23 = .ok (.getstatic 13, 3) := by decide +kernel
theorem d_prog_10_m_3_26 : decode prog_10_method_3_code 26 = .ok (.iload_n 2, 1) := by decide +kernel
theorem d_prog_10_m_3_27 : decode prog_10_method_3_code 27 = .ok (.baload, 1) := by decide +kernel
theorem d_prog_10_m_3_28 : decode prog_10_method_3_code 28 = .ok (.if_icmp .eq 5, 3) := by decide +kernel
theorem d_prog_10_m_3_33 : decode prog_10_method_3_code 33 = .ok (.iinc 2 1, 3) := by decide +kernel
theorem d_prog_10_m_3_36 : decode prog_10_method_3_code 36 = .ok (.goto (-24), 3) := by decide +kernel
theorem d_prog_10_m_3_39 : decode prog_10_method_3_code 39 = .ok (.getstatic 13, 3) := by decide +kernel
theorem d_prog_10_m_3_42 : decode prog_10_method_3_code 42 = .ok (.arraylength, 1) := by decide +kernel
theorem d_prog_10_m_3_43 : decode prog_10_method_3_code 43 = .ok (.ireturn, 1) := by decide +kernel
theorem d_prog_10_m_3_31 : decode prog_10_method_3_code 31 = .ok (.iconst 0, 1) := by decide +kernel
theorem d_prog_10_m_3_32 : decode prog_10_method_3_code 32 = .ok (.ireturn, 1) := by decide +kernel
theorem own_pn0 : plainName "com/example/hoptrail/hoptrail/io/Utf8" = true := by first | (simp [plainName, overriddenIn]; done) | decide +kernel
theorem ef_rm1 (m : MethodId) (y0 : Addr) (y1 : Int32) : entryFrame m #[(.ref y0), (.int y1)] 3 = mkF m 0 #[.val (.ref y0), .val (.int y1), .unset] [] := by first | (simp [entryFrame, mkF, argsToLocals, Value.category]; done) | rfl
def Q_rm1 (Z : State) (ab : Addr) (pn : Int32) (kb : ClassId) (km : ClassId) (bm : Addr) (x0 : Int32) (x1 : Int32) (x2 : Int32) (x3 : Int32) (h0 : Heap) (n0 : Nat) (v : Option Value) (h : Heap) (L : List Loc) : Prop := v = some (.int (if ¬ pn < (3 : Int32) ∧ x0 = (-17 : Int32) ∧ x1 = (-69 : Int32) ∧ x2 = (-65 : Int32) then (3 : Int32) else 0)) ∧ Fr n0 L ∧ h = h0
set_option maxRecDepth 65536 in
set_option maxHeartbeats 40000000 in
theorem rm1 (l : Launch) (Z : State) (a0 : Array Value) (hw : ∀ d ∈ tables_1, d.before a0 Z = true) (ws : List Jvm.Cond) (ab : Addr) (pn : Int32) (kb : ClassId) (km : ClassId) (bm : Addr) (x0 : Int32) (x1 : Int32) (x2 : Int32) (x3 : Int32) (h0 : Heap) (n0 : Nat) (Z0 : n0 ≤ h0.size) (O : Old Z n0 h0) (V : Arv Z h0 ab kb .byte (4 : Int32) [(.int x0), (.int x1), (.int x2), (.int x3)] (.int (0 : Int32))) (SB : Sta Z Z.heap "com/example/hoptrail/hoptrail/io/Utf8" "BYTE_ORDER_MARK" "[B" (.ref bm)) (AB : Arv Z Z.heap bm km .byte (3 : Int32) [(.int (-17 : Int32)), (.int (-69 : Int32)), (.int (-65 : Int32))] (.int (0 : Int32))) :
    MetFree l (⟨"com/example/hoptrail/hoptrail/io/Utf8", "byteOrderMarkLength", "([BI)I"⟩ : MethodName) (head1 (Jvm.Cond.code (⟨"com/example/hoptrail/hoptrail/io/Utf8", "byteOrderMarkLength", "([BI)I"⟩ : MethodName) prog_10_method_3_code 3 (some .int) :: ws) ({ frames := 0, cells := 0, slots := 0, locals := 0 } : Room)) (fun ar U => ar = #[(.ref ab), (.int pn)] ∧ Z.Warmed39 U.vm ∧ U.heap = h0) (fun _ _ _ _ _ => True) (fun _ U o U' => ∃ v L, o = .returned v ∧ Q_rm1 Z ab pn kb km bm x0 x1 x2 x3 h0 n0 v U'.heap L ∧ FrameEnd U o U' L ({ frames := 0, cells := 0, slots := 0, locals := 0 } : Room).cells ({ frames := 0, cells := 0, slots := 0, locals := 0 } : Room).slots) := by
  refine MetFree.of_bodySF (plainFor_of_name own_pn0) hisR ?_
  intro p e s m args below meth c s₁ Bd hml0 hP hK
  obtain ⟨rfl, hZ, hh⟩ := hP
  have hx := Bd.exec
  have hby := Bd.bytes
  have hlk : meth.locks = false := BodyLoose.notSynchronized Bd
  have hml : c.maxLocals = 3 := hml0
  have hown : s.vm.findClass "com/example/hoptrail/hoptrail/io/Utf8" = some m.cls := findClass_of_methodNamed Bd.named
  have hnm := (name_of_methodNamed Bd.named Bd.method).1
  have X0 : Stand p l e ({ frames := 0, cells := 0, slots := 0, locals := 0 } : Room) s m #[(.ref ab), (.int pn)] below meth c s₁ [] 0 0 := Stand.of_body Bd
  have e0 : s₁.heap = h0 := by rw [← hh, Bd.state]; rfl
  have N0 := Fr.nil n0
  show own_Go p.tables e below (fun u o => ∃ v L, o = .returned v ∧ Q_rm1 Z ab pn kb km bm x0 x1 x2 x3 h0 n0 v u.heap L ∧ FrameEnd s o u L ({ frames := 0, cells := 0, slots := 0, locals := 0 } : Room).cells ({ frames := 0, cells := 0, slots := 0, locals := 0 } : Room).slots) (s₁.setTop (entryFrame m #[(.ref ab), (.int pn)] 3))
  refine own_up (fun _ k => castTop (ef_rm1 m ab pn) k) ?_
  show own_Go p.tables e below _ (s₁.setTop (mkF m 0 #[.val (.ref ab), .val (.int pn), .unset] []))
  refine own_up (fun _ k => XS.iloadN X0.here hx rfl (hb hby d_prog_10_m_3_0) rfl k) ?_
  show own_Go p.tables e below _ (s₁.setTop (mkF m 1 #[.val (.ref ab), .val (.int pn), .unset] [(.int pn)]))
  obtain ⟨T1, X1, e1, st1⟩ := getS2 X0 hx hZ hown (host := "") (Or.inl (hw _ (List.mem_of_getElem? (i := 6) rfl))) Via.refl e0 (SB.ext O.2) (g := (mkF m 1 #[.val (.ref ab), .val (.int pn), .unset] [(.int pn)])) rfl (hb hby d_prog_10_m_3_1)
  refine own_up st1 ?_
  show own_Go p.tables e below _ (T1.setTop (mkF m 4 #[.val (.ref ab), .val (.int pn), .unset] [(.ref bm), (.int pn)]))
  obtain ⟨cl2_, Ar2, q2, S2, M2, Hs2, G2⟩ := id ((AB.ext O.2))
  refine own_up (fun _ k => X1.arraylength hx (by rw [e1]; exact Ar2.1) (State.isArrayOf_alike hZ.alike Ar2.2.1) (g := (mkF m 4 #[.val (.ref ab), .val (.int pn), .unset] [(.ref bm), (.int pn)])) rfl rfl (hb hby d_prog_10_m_3_4) _ k) ?_
  rw [len_of S2 M2]
  show own_Go p.tables e below _ (T1.setTop (mkF m 5 #[.val (.ref ab), .val (.int pn), .unset] [(.int (3 : Int32)), (.int pn)]))
  by_cases c0 : pn < (3 : Int32)
  ·
    refine own_up (fun _ k => XS.icmpNo X1.here hx rfl (hb hby d_prog_10_m_3_5) rfl (tlt c0).2.1 k) ?_
    show own_Go p.tables e below _ (T1.setTop (mkF m 8 #[.val (.ref ab), .val (.int pn), .unset] []))
    refine own_up (fun _ k => XS.iconst X1.here hx rfl (hb hby d_prog_10_m_3_8) k) ?_
    show own_Go p.tables e below _ (T1.setTop (mkF m 9 #[.val (.ref ab), .val (.int pn), .unset] [(.int (0 : Int32))]))
    exact own_end X1 hlk (v := some (.int (0 : Int32))) (fun h => by rw [Bd.returns] at h; cases h) (fun fs hr => retOut X1 hx Bd.returns rfl (Or.inl ⟨rfl, Or.inl rfl, _, rfl⟩) (hb hby d_prog_10_m_3_9) hr) e1 ⟨by rw [if_neg (fun q => q.1 c0)], N0, rfl⟩ (by decide) (by decide)
  ·
    refine own_up (fun _ k => XS.icmpYes X1.here hx rfl (pc0 := 5) (pc' := 10) rfl (hb hby d_prog_10_m_3_5) rfl (flt c0).2.1 (by decide) (by decide) k) ?_
    show own_Go p.tables e below _ (T1.setTop (mkF m 10 #[.val (.ref ab), .val (.int pn), .unset] []))
    refine own_up (fun _ k => XS.iconst X1.here hx rfl (hb hby d_prog_10_m_3_10) k) ?_
    show own_Go p.tables e below _ (T1.setTop (mkF m 11 #[.val (.ref ab), .val (.int pn), .unset] [(.int (0 : Int32))]))
    refine own_up (fun _ k => XS.istoreN X1.here hx rfl (hb hby d_prog_10_m_3_11) rfl (l' := #[.val (.ref ab), .val (.int pn), .val (.int (0 : Int32))]) rfl k) ?_
    show own_Go p.tables e below _ (T1.setTop (mkF m 12 #[.val (.ref ab), .val (.int pn), .val (.int (0 : Int32))] []))
    refine own_up (fun _ k => XS.iloadN X1.here hx rfl (hb hby d_prog_10_m_3_12) rfl k) ?_
    show own_Go p.tables e below _ (T1.setTop (mkF m 13 #[.val (.ref ab), .val (.int pn), .val (.int (0 : Int32))] [(.int (0 : Int32))]))
    obtain ⟨T3, X3, e3, st3⟩ := getS2 X1 hx hZ hown (host := "") (Or.inl (hw _ (List.mem_of_getElem? (i := 6) rfl))) Via.refl e1 (SB.ext O.2) (g := (mkF m 13 #[.val (.ref ab), .val (.int pn), .val (.int (0 : Int32))] [(.int (0 : Int32))])) rfl (hb hby d_prog_10_m_3_13)
    refine own_up st3 ?_
    show own_Go p.tables e below _ (T3.setTop (mkF m 16 #[.val (.ref ab), .val (.int pn), .val (.int (0 : Int32))] [(.ref bm), (.int (0 : Int32))]))
    refine own_up (fun _ k => X3.arraylength hx (by rw [e3]; exact Ar2.1) (State.isArrayOf_alike hZ.alike Ar2.2.1) (g := (mkF m 16 #[.val (.ref ab), .val (.int pn), .val (.int (0 : Int32))] [(.ref bm), (.int (0 : Int32))])) rfl rfl (hb hby d_prog_10_m_3_16) _ k) ?_
    rw [len_of S2 M2]
    show own_Go p.tables e below _ (T3.setTop (mkF m 17 #[.val (.ref ab), .val (.int pn), .val (.int (0 : Int32))] [(.int (3 : Int32)), (.int (0 : Int32))]))
    refine own_up (fun _ k => XS.icmpNo X3.here hx rfl (hb hby d_prog_10_m_3_17) rfl (tlt (by decide)).2.1 k) ?_
    show own_Go p.tables e below _ (T3.setTop (mkF m 20 #[.val (.ref ab), .val (.int pn), .val (.int (0 : Int32))] []))
    refine own_up (fun _ k => XS.aloadN X3.here hx rfl (hb hby d_prog_10_m_3_20) rfl rfl k) ?_
    show own_Go p.tables e below _ (T3.setTop (mkF m 21 #[.val (.ref ab), .val (.int pn), .val (.int (0 : Int32))] [(.ref ab)]))
    refine own_up (fun _ k => XS.iloadN X3.here hx rfl (hb hby d_prog_10_m_3_21) rfl k) ?_
    show own_Go p.tables e below _ (T3.setTop (mkF m 22 #[.val (.ref ab), .val (.int pn), .val (.int (0 : Int32))] [(.int (0 : Int32)), (.ref ab)]))
    obtain ⟨cl4_, Ar4, q4, S4, M4, Hs4, G4⟩ := id (V)
    have hin5 : ¬ ((0 : Int32) < 0 ∨ cl4_.slots.size ≤ ((0 : Int32)).toNatClampNeg) := inb_of S4 ⟨by decide, by decide⟩
    have hat5 : cl4_.slots[((0 : Int32)).toNatClampNeg]? = some (.int x0) := Has.at Hs4 hin5 rfl
    refine own_up (fun _ k => X3.baloadBytes hx (j := (0 : Int32)) (v := (.int x0)) (by rw [e3]; exact Ar4.1) (State.isArrayOf_alike hZ.alike Ar4.2.1) Ar4.2.2 hin5 hat5 (g := (mkF m 22 #[.val (.ref ab), .val (.int pn), .val (.int (0 : Int32))] [(.int (0 : Int32)), (.ref ab)])) rfl rfl (hb hby d_prog_10_m_3_22) _ k) ?_
    show own_Go p.tables e below _ (T3.setTop (mkF m 23 #[.val (.ref ab), .val (.int pn), .val (.int (0 : Int32))] [(.int x0)]))
    obtain ⟨T6, X6, e6, st6⟩ := getS2 X3 hx hZ hown (host := "") (Or.inl (hw _ (List.mem_of_getElem? (i := 6) rfl))) Via.refl e3 (SB.ext O.2) (g := (mkF m 23 #[.val (.ref ab), .val (.int pn), .val (.int (0 : Int32))] [(.int x0)])) rfl (hb hby d_prog_10_m_3_23)
    refine own_up st6 ?_
    show own_Go p.tables e below _ (T6.setTop (mkF m 26 #[.val (.ref ab), .val (.int pn), .val (.int (0 : Int32))] [(.ref bm), (.int x0)]))
    refine own_up (fun _ k => XS.iloadN X6.here hx rfl (hb hby d_prog_10_m_3_26) rfl k) ?_
    show own_Go p.tables e below _ (T6.setTop (mkF m 27 #[.val (.ref ab), .val (.int pn), .val (.int (0 : Int32))] [(.int (0 : Int32)), (.ref bm), (.int x0)]))
    have hin7 : ¬ ((0 : Int32) < 0 ∨ cl2_.slots.size ≤ ((0 : Int32)).toNatClampNeg) := inb_of S2 ⟨by decide, by decide⟩
    have hat7 : cl2_.slots[((0 : Int32)).toNatClampNeg]? = some (.int (-17 : Int32)) := Has.at Hs2 hin7 rfl
    refine own_up (fun _ k => X6.baloadBytes hx (j := (0 : Int32)) (v := (.int (-17 : Int32))) (by rw [e6]; exact Ar2.1) (State.isArrayOf_alike hZ.alike Ar2.2.1) Ar2.2.2 hin7 hat7 (g := (mkF m 27 #[.val (.ref ab), .val (.int pn), .val (.int (0 : Int32))] [(.int (0 : Int32)), (.ref bm), (.int x0)])) rfl rfl (hb hby d_prog_10_m_3_27) _ k) ?_
    show own_Go p.tables e below _ (T6.setTop (mkF m 28 #[.val (.ref ab), .val (.int pn), .val (.int (0 : Int32))] [(.int (-17 : Int32)), (.int x0)]))
    by_cases d0 : x0 = (-17 : Int32)
    ·
      refine own_up (fun _ k => XS.icmpYes X6.here hx rfl (pc0 := 28) (pc' := 33) rfl (hb hby d_prog_10_m_3_28) rfl (teq d0).1 (by decide) (by decide) k) ?_
      show own_Go p.tables e below _ (T6.setTop (mkF m 33 #[.val (.ref ab), .val (.int pn), .val (.int (0 : Int32))] []))
      refine own_up (fun _ k => XS.iinc X6.here hx rfl (hb hby d_prog_10_m_3_33) rfl (l' := #[.val (.ref ab), .val (.int pn), .val (.int (1 : Int32))]) rfl k) ?_
      show own_Go p.tables e below _ (T6.setTop (mkF m 36 #[.val (.ref ab), .val (.int pn), .val (.int (1 : Int32))] []))
      refine own_up (fun _ k => XS.goto X6.here hx rfl (pc0 := 36) (pc' := 12) rfl (hb hby d_prog_10_m_3_36) (by decide) (by decide) k) ?_
      show own_Go p.tables e below _ (T6.setTop (mkF m 12 #[.val (.ref ab), .val (.int pn), .val (.int (1 : Int32))] []))
      refine own_up (fun _ k => XS.iloadN X6.here hx rfl (hb hby d_prog_10_m_3_12) rfl k) ?_
      show own_Go p.tables e below _ (T6.setTop (mkF m 13 #[.val (.ref ab), .val (.int pn), .val (.int (1 : Int32))] [(.int (1 : Int32))]))
      obtain ⟨T8, X8, e8, st8⟩ := getS2 X6 hx hZ hown (host := "") (Or.inl (hw _ (List.mem_of_getElem? (i := 6) rfl))) Via.refl e6 (SB.ext O.2) (g := (mkF m 13 #[.val (.ref ab), .val (.int pn), .val (.int (1 : Int32))] [(.int (1 : Int32))])) rfl (hb hby d_prog_10_m_3_13)
      refine own_up st8 ?_
      show own_Go p.tables e below _ (T8.setTop (mkF m 16 #[.val (.ref ab), .val (.int pn), .val (.int (1 : Int32))] [(.ref bm), (.int (1 : Int32))]))
      refine own_up (fun _ k => X8.arraylength hx (by rw [e8]; exact Ar2.1) (State.isArrayOf_alike hZ.alike Ar2.2.1) (g := (mkF m 16 #[.val (.ref ab), .val (.int pn), .val (.int (1 : Int32))] [(.ref bm), (.int (1 : Int32))])) rfl rfl (hb hby d_prog_10_m_3_16) _ k) ?_
      rw [len_of S2 M2]
      show own_Go p.tables e below _ (T8.setTop (mkF m 17 #[.val (.ref ab), .val (.int pn), .val (.int (1 : Int32))] [(.int (3 : Int32)), (.int (1 : Int32))]))
      refine own_up (fun _ k => XS.icmpNo X8.here hx rfl (hb hby d_prog_10_m_3_17) rfl (tlt (by decide)).2.1 k) ?_
      show own_Go p.tables e below _ (T8.setTop (mkF m 20 #[.val (.ref ab), .val (.int pn), .val (.int (1 : Int32))] []))
      refine own_up (fun _ k => XS.aloadN X8.here hx rfl (hb hby d_prog_10_m_3_20) rfl rfl k) ?_
      show own_Go p.tables e below _ (T8.setTop (mkF m 21 #[.val (.ref ab), .val (.int pn), .val (.int (1 : Int32))] [(.ref ab)]))
      refine own_up (fun _ k => XS.iloadN X8.here hx rfl (hb hby d_prog_10_m_3_21) rfl k) ?_
      show own_Go p.tables e below _ (T8.setTop (mkF m 22 #[.val (.ref ab), .val (.int pn), .val (.int (1 : Int32))] [(.int (1 : Int32)), (.ref ab)]))
      have hin9 : ¬ ((1 : Int32) < 0 ∨ cl4_.slots.size ≤ ((1 : Int32)).toNatClampNeg) := inb_of S4 ⟨by decide, by decide⟩
      have hat9 : cl4_.slots[((1 : Int32)).toNatClampNeg]? = some (.int x1) := Has.at Hs4 hin9 rfl
      refine own_up (fun _ k => X8.baloadBytes hx (j := (1 : Int32)) (v := (.int x1)) (by rw [e8]; exact Ar4.1) (State.isArrayOf_alike hZ.alike Ar4.2.1) Ar4.2.2 hin9 hat9 (g := (mkF m 22 #[.val (.ref ab), .val (.int pn), .val (.int (1 : Int32))] [(.int (1 : Int32)), (.ref ab)])) rfl rfl (hb hby d_prog_10_m_3_22) _ k) ?_
      show own_Go p.tables e below _ (T8.setTop (mkF m 23 #[.val (.ref ab), .val (.int pn), .val (.int (1 : Int32))] [(.int x1)]))
      obtain ⟨T10, X10, e10, st10⟩ := getS2 X8 hx hZ hown (host := "") (Or.inl (hw _ (List.mem_of_getElem? (i := 6) rfl))) Via.refl e8 (SB.ext O.2) (g := (mkF m 23 #[.val (.ref ab), .val (.int pn), .val (.int (1 : Int32))] [(.int x1)])) rfl (hb hby d_prog_10_m_3_23)
      refine own_up st10 ?_
      show own_Go p.tables e below _ (T10.setTop (mkF m 26 #[.val (.ref ab), .val (.int pn), .val (.int (1 : Int32))] [(.ref bm), (.int x1)]))
      refine own_up (fun _ k => XS.iloadN X10.here hx rfl (hb hby d_prog_10_m_3_26) rfl k) ?_
      show own_Go p.tables e below _ (T10.setTop (mkF m 27 #[.val (.ref ab), .val (.int pn), .val (.int (1 : Int32))] [(.int (1 : Int32)), (.ref bm), (.int x1)]))
      have hin11 : ¬ ((1 : Int32) < 0 ∨ cl2_.slots.size ≤ ((1 : Int32)).toNatClampNeg) := inb_of S2 ⟨by decide, by decide⟩
      have hat11 : cl2_.slots[((1 : Int32)).toNatClampNeg]? = some (.int (-69 : Int32)) := Has.at Hs2 hin11 rfl
      refine own_up (fun _ k => X10.baloadBytes hx (j := (1 : Int32)) (v := (.int (-69 : Int32))) (by rw [e10]; exact Ar2.1) (State.isArrayOf_alike hZ.alike Ar2.2.1) Ar2.2.2 hin11 hat11 (g := (mkF m 27 #[.val (.ref ab), .val (.int pn), .val (.int (1 : Int32))] [(.int (1 : Int32)), (.ref bm), (.int x1)])) rfl rfl (hb hby d_prog_10_m_3_27) _ k) ?_
      show own_Go p.tables e below _ (T10.setTop (mkF m 28 #[.val (.ref ab), .val (.int pn), .val (.int (1 : Int32))] [(.int (-69 : Int32)), (.int x1)]))
      by_cases d1 : x1 = (-69 : Int32)
      ·
        refine own_up (fun _ k => XS.icmpYes X10.here hx rfl (pc0 := 28) (pc' := 33) rfl (hb hby d_prog_10_m_3_28) rfl (teq d1).1 (by decide) (by decide) k) ?_
        show own_Go p.tables e below _ (T10.setTop (mkF m 33 #[.val (.ref ab), .val (.int pn), .val (.int (1 : Int32))] []))
        refine own_up (fun _ k => XS.iinc X10.here hx rfl (hb hby d_prog_10_m_3_33) rfl (l' := #[.val (.ref ab), .val (.int pn), .val (.int (2 : Int32))]) rfl k) ?_
        show own_Go p.tables e below _ (T10.setTop (mkF m 36 #[.val (.ref ab), .val (.int pn), .val (.int (2 : Int32))] []))
        refine own_up (fun _ k => XS.goto X10.here hx rfl (pc0 := 36) (pc' := 12) rfl (hb hby d_prog_10_m_3_36) (by decide) (by decide) k) ?_
        show own_Go p.tables e below _ (T10.setTop (mkF m 12 #[.val (.ref ab), .val (.int pn), .val (.int (2 : Int32))] []))
        refine own_up (fun _ k => XS.iloadN X10.here hx rfl (hb hby d_prog_10_m_3_12) rfl k) ?_
        show own_Go p.tables e below _ (T10.setTop (mkF m 13 #[.val (.ref ab), .val (.int pn), .val (.int (2 : Int32))] [(.int (2 : Int32))]))
        obtain ⟨T12, X12, e12, st12⟩ := getS2 X10 hx hZ hown (host := "") (Or.inl (hw _ (List.mem_of_getElem? (i := 6) rfl))) Via.refl e10 (SB.ext O.2) (g := (mkF m 13 #[.val (.ref ab), .val (.int pn), .val (.int (2 : Int32))] [(.int (2 : Int32))])) rfl (hb hby d_prog_10_m_3_13)
        refine own_up st12 ?_
        show own_Go p.tables e below _ (T12.setTop (mkF m 16 #[.val (.ref ab), .val (.int pn), .val (.int (2 : Int32))] [(.ref bm), (.int (2 : Int32))]))
        refine own_up (fun _ k => X12.arraylength hx (by rw [e12]; exact Ar2.1) (State.isArrayOf_alike hZ.alike Ar2.2.1) (g := (mkF m 16 #[.val (.ref ab), .val (.int pn), .val (.int (2 : Int32))] [(.ref bm), (.int (2 : Int32))])) rfl rfl (hb hby d_prog_10_m_3_16) _ k) ?_
        rw [len_of S2 M2]
        show own_Go p.tables e below _ (T12.setTop (mkF m 17 #[.val (.ref ab), .val (.int pn), .val (.int (2 : Int32))] [(.int (3 : Int32)), (.int (2 : Int32))]))
        refine own_up (fun _ k => XS.icmpNo X12.here hx rfl (hb hby d_prog_10_m_3_17) rfl (tlt (by decide)).2.1 k) ?_
        show own_Go p.tables e below _ (T12.setTop (mkF m 20 #[.val (.ref ab), .val (.int pn), .val (.int (2 : Int32))] []))
        refine own_up (fun _ k => XS.aloadN X12.here hx rfl (hb hby d_prog_10_m_3_20) rfl rfl k) ?_
        show own_Go p.tables e below _ (T12.setTop (mkF m 21 #[.val (.ref ab), .val (.int pn), .val (.int (2 : Int32))] [(.ref ab)]))
        refine own_up (fun _ k => XS.iloadN X12.here hx rfl (hb hby d_prog_10_m_3_21) rfl k) ?_
        show own_Go p.tables e below _ (T12.setTop (mkF m 22 #[.val (.ref ab), .val (.int pn), .val (.int (2 : Int32))] [(.int (2 : Int32)), (.ref ab)]))
        have hin13 : ¬ ((2 : Int32) < 0 ∨ cl4_.slots.size ≤ ((2 : Int32)).toNatClampNeg) := inb_of S4 ⟨by decide, by decide⟩
        have hat13 : cl4_.slots[((2 : Int32)).toNatClampNeg]? = some (.int x2) := Has.at Hs4 hin13 rfl
        refine own_up (fun _ k => X12.baloadBytes hx (j := (2 : Int32)) (v := (.int x2)) (by rw [e12]; exact Ar4.1) (State.isArrayOf_alike hZ.alike Ar4.2.1) Ar4.2.2 hin13 hat13 (g := (mkF m 22 #[.val (.ref ab), .val (.int pn), .val (.int (2 : Int32))] [(.int (2 : Int32)), (.ref ab)])) rfl rfl (hb hby d_prog_10_m_3_22) _ k) ?_
        show own_Go p.tables e below _ (T12.setTop (mkF m 23 #[.val (.ref ab), .val (.int pn), .val (.int (2 : Int32))] [(.int x2)]))
        obtain ⟨T14, X14, e14, st14⟩ := getS2 X12 hx hZ hown (host := "") (Or.inl (hw _ (List.mem_of_getElem? (i := 6) rfl))) Via.refl e12 (SB.ext O.2) (g := (mkF m 23 #[.val (.ref ab), .val (.int pn), .val (.int (2 : Int32))] [(.int x2)])) rfl (hb hby d_prog_10_m_3_23)
        refine own_up st14 ?_
        show own_Go p.tables e below _ (T14.setTop (mkF m 26 #[.val (.ref ab), .val (.int pn), .val (.int (2 : Int32))] [(.ref bm), (.int x2)]))
        refine own_up (fun _ k => XS.iloadN X14.here hx rfl (hb hby d_prog_10_m_3_26) rfl k) ?_
        show own_Go p.tables e below _ (T14.setTop (mkF m 27 #[.val (.ref ab), .val (.int pn), .val (.int (2 : Int32))] [(.int (2 : Int32)), (.ref bm), (.int x2)]))
        have hin15 : ¬ ((2 : Int32) < 0 ∨ cl2_.slots.size ≤ ((2 : Int32)).toNatClampNeg) := inb_of S2 ⟨by decide, by decide⟩
        have hat15 : cl2_.slots[((2 : Int32)).toNatClampNeg]? = some (.int (-65 : Int32)) := Has.at Hs2 hin15 rfl
        refine own_up (fun _ k => X14.baloadBytes hx (j := (2 : Int32)) (v := (.int (-65 : Int32))) (by rw [e14]; exact Ar2.1) (State.isArrayOf_alike hZ.alike Ar2.2.1) Ar2.2.2 hin15 hat15 (g := (mkF m 27 #[.val (.ref ab), .val (.int pn), .val (.int (2 : Int32))] [(.int (2 : Int32)), (.ref bm), (.int x2)])) rfl rfl (hb hby d_prog_10_m_3_27) _ k) ?_
        show own_Go p.tables e below _ (T14.setTop (mkF m 28 #[.val (.ref ab), .val (.int pn), .val (.int (2 : Int32))] [(.int (-65 : Int32)), (.int x2)]))
        by_cases d2 : x2 = (-65 : Int32)
        ·
          refine own_up (fun _ k => XS.icmpYes X14.here hx rfl (pc0 := 28) (pc' := 33) rfl (hb hby d_prog_10_m_3_28) rfl (teq d2).1 (by decide) (by decide) k) ?_
          show own_Go p.tables e below _ (T14.setTop (mkF m 33 #[.val (.ref ab), .val (.int pn), .val (.int (2 : Int32))] []))
          refine own_up (fun _ k => XS.iinc X14.here hx rfl (hb hby d_prog_10_m_3_33) rfl (l' := #[.val (.ref ab), .val (.int pn), .val (.int (3 : Int32))]) rfl k) ?_
          show own_Go p.tables e below _ (T14.setTop (mkF m 36 #[.val (.ref ab), .val (.int pn), .val (.int (3 : Int32))] []))
          refine own_up (fun _ k => XS.goto X14.here hx rfl (pc0 := 36) (pc' := 12) rfl (hb hby d_prog_10_m_3_36) (by decide) (by decide) k) ?_
          show own_Go p.tables e below _ (T14.setTop (mkF m 12 #[.val (.ref ab), .val (.int pn), .val (.int (3 : Int32))] []))
          refine own_up (fun _ k => XS.iloadN X14.here hx rfl (hb hby d_prog_10_m_3_12) rfl k) ?_
          show own_Go p.tables e below _ (T14.setTop (mkF m 13 #[.val (.ref ab), .val (.int pn), .val (.int (3 : Int32))] [(.int (3 : Int32))]))
          obtain ⟨T16, X16, e16, st16⟩ := getS2 X14 hx hZ hown (host := "") (Or.inl (hw _ (List.mem_of_getElem? (i := 6) rfl))) Via.refl e14 (SB.ext O.2) (g := (mkF m 13 #[.val (.ref ab), .val (.int pn), .val (.int (3 : Int32))] [(.int (3 : Int32))])) rfl (hb hby d_prog_10_m_3_13)
          refine own_up st16 ?_
          show own_Go p.tables e below _ (T16.setTop (mkF m 16 #[.val (.ref ab), .val (.int pn), .val (.int (3 : Int32))] [(.ref bm), (.int (3 : Int32))]))
          refine own_up (fun _ k => X16.arraylength hx (by rw [e16]; exact Ar2.1) (State.isArrayOf_alike hZ.alike Ar2.2.1) (g := (mkF m 16 #[.val (.ref ab), .val (.int pn), .val (.int (3 : Int32))] [(.ref bm), (.int (3 : Int32))])) rfl rfl (hb hby d_prog_10_m_3_16) _ k) ?_
          rw [len_of S2 M2]
          show own_Go p.tables e below _ (T16.setTop (mkF m 17 #[.val (.ref ab), .val (.int pn), .val (.int (3 : Int32))] [(.int (3 : Int32)), (.int (3 : Int32))]))
          refine own_up (fun _ k => XS.icmpYes X16.here hx rfl (pc0 := 17) (pc' := 39) rfl (hb hby d_prog_10_m_3_17) rfl (flt (by decide)).2.1 (by decide) (by decide) k) ?_
          show own_Go p.tables e below _ (T16.setTop (mkF m 39 #[.val (.ref ab), .val (.int pn), .val (.int (3 : Int32))] []))
          obtain ⟨T17, X17, e17, st17⟩ := getS2 X16 hx hZ hown (host := "") (Or.inl (hw _ (List.mem_of_getElem? (i := 6) rfl))) Via.refl e16 (SB.ext O.2) (g := (mkF m 39 #[.val (.ref ab), .val (.int pn), .val (.int (3 : Int32))] [])) rfl (hb hby d_prog_10_m_3_39)
          refine own_up st17 ?_
          show own_Go p.tables e below _ (T17.setTop (mkF m 42 #[.val (.ref ab), .val (.int pn), .val (.int (3 : Int32))] [(.ref bm)]))
          refine own_up (fun _ k => X17.arraylength hx (by rw [e17]; exact Ar2.1) (State.isArrayOf_alike hZ.alike Ar2.2.1) (g := (mkF m 42 #[.val (.ref ab), .val (.int pn), .val (.int (3 : Int32))] [(.ref bm)])) rfl rfl (hb hby d_prog_10_m_3_42) _ k) ?_
          rw [len_of S2 M2]
          show own_Go p.tables e below _ (T17.setTop (mkF m 43 #[.val (.ref ab), .val (.int pn), .val (.int (3 : Int32))] [(.int (3 : Int32))]))
          exact own_end X17 hlk (v := some (.int (3 : Int32))) (fun h => by rw [Bd.returns] at h; cases h) (fun fs hr => retOut X17 hx Bd.returns rfl (Or.inl ⟨rfl, Or.inl rfl, _, rfl⟩) (hb hby d_prog_10_m_3_43) hr) e17 ⟨by rw [if_pos ⟨c0, d0, d1, d2⟩], N0, rfl⟩ (by decide) (by decide)
        ·
          refine own_up (fun _ k => XS.icmpNo X14.here hx rfl (hb hby d_prog_10_m_3_28) rfl (feq d2).1 k) ?_
          show own_Go p.tables e below _ (T14.setTop (mkF m 31 #[.val (.ref ab), .val (.int pn), .val (.int (2 : Int32))] []))
          refine own_up (fun _ k => XS.iconst X14.here hx rfl (hb hby d_prog_10_m_3_31) k) ?_
          show own_Go p.tables e below _ (T14.setTop (mkF m 32 #[.val (.ref ab), .val (.int pn), .val (.int (2 : Int32))] [(.int (0 : Int32))]))
          exact own_end X14 hlk (v := some (.int (0 : Int32))) (fun h => by rw [Bd.returns] at h; cases h) (fun fs hr => retOut X14 hx Bd.returns rfl (Or.inl ⟨rfl, Or.inl rfl, _, rfl⟩) (hb hby d_prog_10_m_3_32) hr) e14 ⟨by rw [if_neg (fun q => d2 q.2.2.2)], N0, rfl⟩ (by decide) (by decide)
      ·
        refine own_up (fun _ k => XS.icmpNo X10.here hx rfl (hb hby d_prog_10_m_3_28) rfl (feq d1).1 k) ?_
        show own_Go p.tables e below _ (T10.setTop (mkF m 31 #[.val (.ref ab), .val (.int pn), .val (.int (1 : Int32))] []))
        refine own_up (fun _ k => XS.iconst X10.here hx rfl (hb hby d_prog_10_m_3_31) k) ?_
        show own_Go p.tables e below _ (T10.setTop (mkF m 32 #[.val (.ref ab), .val (.int pn), .val (.int (1 : Int32))] [(.int (0 : Int32))]))
        exact own_end X10 hlk (v := some (.int (0 : Int32))) (fun h => by rw [Bd.returns] at h; cases h) (fun fs hr => retOut X10 hx Bd.returns rfl (Or.inl ⟨rfl, Or.inl rfl, _, rfl⟩) (hb hby d_prog_10_m_3_32) hr) e10 ⟨by rw [if_neg (fun q => d1 q.2.2.1)], N0, rfl⟩ (by decide) (by decide)
    ·
      refine own_up (fun _ k => XS.icmpNo X6.here hx rfl (hb hby d_prog_10_m_3_28) rfl (feq d0).1 k) ?_
      show own_Go p.tables e below _ (T6.setTop (mkF m 31 #[.val (.ref ab), .val (.int pn), .val (.int (0 : Int32))] []))
      refine own_up (fun _ k => XS.iconst X6.here hx rfl (hb hby d_prog_10_m_3_31) k) ?_
      show own_Go p.tables e below _ (T6.setTop (mkF m 32 #[.val (.ref ab), .val (.int pn), .val (.int (0 : Int32))] [(.int (0 : Int32))]))
      exact own_end X6 hlk (v := some (.int (0 : Int32))) (fun h => by rw [Bd.returns] at h; cases h) (fun fs hr => retOut X6 hx Bd.returns rfl (Or.inl ⟨rfl, Or.inl rfl, _, rfl⟩) (hb hby d_prog_10_m_3_32) hr) e6 ⟨by rw [if_neg (fun q => d0 q.2.1)], N0, rfl⟩ (by decide) (by decide)
theorem own_pd0 : parseMethodDescriptor "([BI)I" = some ⟨[(.array .byte), .int], some .int⟩ := by decide +kernel
theorem own_pn1 : plainName "com/example/hoptrail/hoptrail/io/Utf8ByteOrderMarkLengthPinLaw" = true := by first | (simp [plainName, overriddenIn]; done) | decide +kernel
theorem ef_rm0 (m : MethodId) (y0 : Int32) (y1 : Int32) (y2 : Int32) (y3 : Int32) (y4 : Int32) (y5 : Int32) : entryFrame m #[(.int y0), (.int y1), (.int y2), (.int y3), (.int y4), (.int y5)] maxLocals = mkF m 0 #[.val (.int y0), .val (.int y1), .val (.int y2), .val (.int y3), .val (.int y4), .val (.int y5), .unset, .unset, .unset, .unset, .unset, .unset] [] := by first | (simp [entryFrame, mkF, argsToLocals, Value.category, maxLocals]; done) | rfl
def Q_rm0 (Z : State) (p0 : Int32) (p1 : Int32) (p2 : Int32) (p3 : Int32) (p4 : Int32) (p5 : Int32) (bm : Addr) (km : ClassId) (h0 : Heap) (n0 : Nat) (v : Option Value) (h : Heap) (L : List Loc) : Prop := v = some (.int (1 : Int32)) ∧ Fr n0 L
set_option maxRecDepth 65536 in
set_option maxHeartbeats 40000000 in
theorem rm0 (l : Launch) (Z : State) (a0 : Array Value) (hw : ∀ d ∈ tables_1, d.before a0 Z = true) (ws : List Jvm.Cond) (p0 : Int32) (p1 : Int32) (p2 : Int32) (p3 : Int32) (p4 : Int32) (p5 : Int32) (bm : Addr) (km : ClassId) (h0 : Heap) (n0 : Nat) (Z0 : n0 ≤ h0.size) (O : Old Z n0 h0) (SB : Sta Z Z.heap "com/example/hoptrail/hoptrail/io/Utf8" "BYTE_ORDER_MARK" "[B" (.ref bm)) (AB : Arv Z Z.heap bm km .byte (3 : Int32) [(.int (-17 : Int32)), (.int (-69 : Int32)), (.int (-65 : Int32))] (.int (0 : Int32))) :
    MetFree l x (head1 (Jvm.Cond.code x code maxLocals ret :: ws) room_1) (fun ar U => ar = #[(.int p0), (.int p1), (.int p2), (.int p3), (.int p4), (.int p5)] ∧ Z.Warmed39 U.vm ∧ U.heap = h0) (fun _ _ _ _ _ => True) (fun _ U o U' => ∃ v L, o = .returned v ∧ Q_rm0 Z p0 p1 p2 p3 p4 p5 bm km h0 n0 v U'.heap L ∧ FrameEnd U o U' L room_1.cells room_1.slots) := by
  refine MetFree.of_bodySF (plainFor_of_name own_pn1) hisR ?_
  intro p e s m args below meth c s₁ Bd hml0 hP hK
  obtain ⟨rfl, hZ, hh⟩ := hP
  have hx := Bd.exec
  have hby := Bd.bytes
  have hlk : meth.locks = false := BodyLoose.notSynchronized Bd
  have hml : c.maxLocals = 12 := hml0
  have hown : s.vm.findClass "com/example/hoptrail/hoptrail/io/Utf8ByteOrderMarkLengthPinLaw" = some m.cls := findClass_of_methodNamed Bd.named
  have hnm := (name_of_methodNamed Bd.named Bd.method).1
  have X0 : Stand p l e room_1 s m #[(.int p0), (.int p1), (.int p2), (.int p3), (.int p4), (.int p5)] below meth c s₁ [] 0 0 := Stand.of_body Bd
  have e0 : s₁.heap = h0 := by rw [← hh, Bd.state]; rfl
  have N0 := Fr.nil n0
  show own_Go p.tables e below (fun u o => ∃ v L, o = .returned v ∧ Q_rm0 Z p0 p1 p2 p3 p4 p5 bm km h0 n0 v u.heap L ∧ FrameEnd s o u L room_1.cells room_1.slots) (s₁.setTop (entryFrame m #[(.int p0), (.int p1), (.int p2), (.int p3), (.int p4), (.int p5)] maxLocals))
  refine own_up (fun _ k => castTop (ef_rm0 m p0 p1 p2 p3 p4 p5) k) ?_
  show own_Go p.tables e below _ (s₁.setTop (mkF m 0 #[.val (.int p0), .val (.int p1), .val (.int p2), .val (.int p3), .val (.int p4), .val (.int p5), .unset, .unset, .unset, .unset, .unset, .unset] []))
  refine own_up (fun _ k => XS.iload X0.here hx rfl (hb hby at_0) rfl k) ?_
  show own_Go p.tables e below _ (s₁.setTop (mkF m 2 #[.val (.int p0), .val (.int p1), .val (.int p2), .val (.int p3), .val (.int p4), .val (.int p5), .unset, .unset, .unset, .unset, .unset, .unset] [(.int p5)]))
  refine own_up (fun _ k => XS.iconst X0.here hx rfl (hb hby at_2) k) ?_
  show own_Go p.tables e below _ (s₁.setTop (mkF m 3 #[.val (.int p0), .val (.int p1), .val (.int p2), .val (.int p3), .val (.int p4), .val (.int p5), .unset, .unset, .unset, .unset, .unset, .unset] [(.int (1 : Int32)), (.int p5)]))
  refine own_up (fun _ k => XS.iand X0.here hx rfl (hb hby at_3) rfl k) ?_
  show own_Go p.tables e below _ (s₁.setTop (mkF m 4 #[.val (.int p0), .val (.int p1), .val (.int p2), .val (.int p3), .val (.int p4), .val (.int p5), .unset, .unset, .unset, .unset, .unset, .unset] [(.int (p5 &&& (1 : Int32)))]))
  have t3 : ∀ (Tt1 : State) (Lt1 : List Loc) (Xt1 : Stand p l e room_1 s m #[(.int p0), (.int p1), (.int p2), (.int p3), (.int p4), (.int p5)] below meth c Tt1 Lt1 0 0) (et1 : Tt1.heap = h0) (Nt1 : Fr n0 Lt1) (x0 : Int32) (x1 : Int32) (x2 : Int32) (hx0 : nar .byte x0 = x0) (hx1 : nar .byte x1 = x1) (hx2 : nar .byte x2 = x2), own_Go p.tables e below (fun u o => ∃ v L, o = .returned v ∧ Q_rm0 Z p0 p1 p2 p3 p4 p5 bm km h0 n0 v u.heap L ∧ FrameEnd s o u L room_1.cells room_1.slots) (Tt1.setTop (mkF m 48 #[.val (.int p0), .val (.int p1), .val (.int p2), .val (.int p3), .val (.int p4), .val (.int p5), .val (.int x0), .val (.int x1), .val (.int x2), .unset, .unset, .unset] [])) := by
    intro Tt1 Lt1 Xt1 et1 Nt1 x0 x1 x2 hx0 hx1 hx2
    refine own_up (fun _ k => XS.iconst Xt1.here hx rfl (hb hby at_48) k) ?_
    show own_Go p.tables e below _ (Tt1.setTop (mkF m 49 #[.val (.int p0), .val (.int p1), .val (.int p2), .val (.int p3), .val (.int p4), .val (.int p5), .val (.int x0), .val (.int x1), .val (.int x2), .unset, .unset, .unset] [(.int (4 : Int32))]))
    obtain ⟨T2, h2, k2, X2, e2, E2, A2, st2⟩ := newP Xt1 hx hZ (hw _ (List.mem_of_getElem? (i := 0) rfl)) et1 (g := (mkF m 49 #[.val (.int p0), .val (.int p1), .val (.int p2), .val (.int p3), .val (.int p4), .val (.int p5), .val (.int x0), .val (.int x1), .val (.int x2), .unset, .unset, .unset] [(.int (4 : Int32))])) rfl (hb hby at_49) rfl (by decide) (cap := 4) (by decide) (by decide) (by decide) (by decide)
    obtain ⟨b2, g2⟩ : ∃ z, z = h0.size := ⟨_, rfl⟩
    rw [← g2] at A2 st2
    have ge2 : n0 ≤ b2 := Nat.le_trans Z0 (Nat.le_of_eq g2.symm)
    refine own_up st2 ?_
    have V2 : Arv Z h2 b2 k2 .byte (4 : Int32) [(.int (0 : Int32)), (.int (0 : Int32)), (.int (0 : Int32)), (.int (0 : Int32))] (.int (0 : Int32)) := (Arv.new A2 (by decide)).pad (pad_rep [] (.int (0 : Int32)) 4)
    show own_Go p.tables e below _ (T2.setTop (mkF m 51 #[.val (.int p0), .val (.int p1), .val (.int p2), .val (.int p3), .val (.int p4), .val (.int p5), .val (.int x0), .val (.int x1), .val (.int x2), .unset, .unset, .unset] [(.ref b2)]))
    refine own_up (fun _ k => XS.dup X2.here hx rfl (hb hby at_51) rfl rfl k) ?_
    show own_Go p.tables e below _ (T2.setTop (mkF m 52 #[.val (.int p0), .val (.int p1), .val (.int p2), .val (.int p3), .val (.int p4), .val (.int p5), .val (.int x0), .val (.int x1), .val (.int x2), .unset, .unset, .unset] [(.ref b2), (.ref b2)]))
    refine own_up (fun _ k => XS.iconst X2.here hx rfl (hb hby at_52) k) ?_
    show own_Go p.tables e below _ (T2.setTop (mkF m 53 #[.val (.int p0), .val (.int p1), .val (.int p2), .val (.int p3), .val (.int p4), .val (.int p5), .val (.int x0), .val (.int x1), .val (.int x2), .unset, .unset, .unset] [(.int (0 : Int32)), (.ref b2), (.ref b2)]))
    refine own_up (fun _ k => XS.iload X2.here hx rfl (hb hby at_53) rfl k) ?_
    show own_Go p.tables e below _ (T2.setTop (mkF m 55 #[.val (.int p0), .val (.int p1), .val (.int p2), .val (.int p3), .val (.int p4), .val (.int p5), .val (.int x0), .val (.int x1), .val (.int x2), .unset, .unset, .unset] [(.int x0), (.int (0 : Int32)), (.ref b2), (.ref b2)]))
    obtain ⟨cl3_, Ar3, q3, S3, M3, Hs3, G3⟩ := id (V2)
    have hin4 : ¬ ((0 : Int32) < 0 ∨ cl3_.slots.size ≤ ((0 : Int32)).toNatClampNeg) := inb_of S3 ⟨by decide, by decide⟩
    obtain ⟨T4, h4, X4, e4, W4, st4⟩ := stB X2 hx hZ e2 Ar3 (j := (0 : Int32)) hin4 (g := (mkF m 55 #[.val (.int p0), .val (.int p1), .val (.int p2), .val (.int p3), .val (.int p4), .val (.int p5), .val (.int x0), .val (.int x1), .val (.int x2), .unset, .unset, .unset] [(.int x0), (.int (0 : Int32)), (.ref b2), (.ref b2)])) rfl rfl (hb hby at_55)
    have V4 : Arv Z h4 b2 k2 .byte (4 : Int32) [(.int (nar .byte x0)), (.int (0 : Int32)), (.int (0 : Int32)), (.int (0 : Int32))] (.int (0 : Int32)) := Arv.set Ar3 q3 S3 M3 Hs3 G3 (fits_nar_byte _) W4 0 rfl (Nat.le_of_ble_eq_true rfl)
    have N4 := Fr.snoc X4 Nt1 ge2
    refine own_up st4 ?_
    show own_Go p.tables e below _ (T4.setTop (mkF m 56 #[.val (.int p0), .val (.int p1), .val (.int p2), .val (.int p3), .val (.int p4), .val (.int p5), .val (.int x0), .val (.int x1), .val (.int x2), .unset, .unset, .unset] [(.ref b2)]))
    refine own_up (fun _ k => XS.dup X4.here hx rfl (hb hby at_56) rfl rfl k) ?_
    show own_Go p.tables e below _ (T4.setTop (mkF m 57 #[.val (.int p0), .val (.int p1), .val (.int p2), .val (.int p3), .val (.int p4), .val (.int p5), .val (.int x0), .val (.int x1), .val (.int x2), .unset, .unset, .unset] [(.ref b2), (.ref b2)]))
    refine own_up (fun _ k => XS.iconst X4.here hx rfl (hb hby at_57) k) ?_
    show own_Go p.tables e below _ (T4.setTop (mkF m 58 #[.val (.int p0), .val (.int p1), .val (.int p2), .val (.int p3), .val (.int p4), .val (.int p5), .val (.int x0), .val (.int x1), .val (.int x2), .unset, .unset, .unset] [(.int (1 : Int32)), (.ref b2), (.ref b2)]))
    refine own_up (fun _ k => XS.iload X4.here hx rfl (hb hby at_58) rfl k) ?_
    show own_Go p.tables e below _ (T4.setTop (mkF m 60 #[.val (.int p0), .val (.int p1), .val (.int p2), .val (.int p3), .val (.int p4), .val (.int p5), .val (.int x0), .val (.int x1), .val (.int x2), .unset, .unset, .unset] [(.int x1), (.int (1 : Int32)), (.ref b2), (.ref b2)]))
    obtain ⟨cl5_, Ar5, q5, S5, M5, Hs5, G5⟩ := id (V4)
    have hin6 : ¬ ((1 : Int32) < 0 ∨ cl5_.slots.size ≤ ((1 : Int32)).toNatClampNeg) := inb_of S5 ⟨by decide, by decide⟩
    obtain ⟨T6, h6, X6, e6, W6, st6⟩ := stB X4 hx hZ e4 Ar5 (j := (1 : Int32)) hin6 (g := (mkF m 60 #[.val (.int p0), .val (.int p1), .val (.int p2), .val (.int p3), .val (.int p4), .val (.int p5), .val (.int x0), .val (.int x1), .val (.int x2), .unset, .unset, .unset] [(.int x1), (.int (1 : Int32)), (.ref b2), (.ref b2)])) rfl rfl (hb hby at_60)
    have V6 : Arv Z h6 b2 k2 .byte (4 : Int32) [(.int (nar .byte x0)), (.int (nar .byte x1)), (.int (0 : Int32)), (.int (0 : Int32))] (.int (0 : Int32)) := Arv.set Ar5 q5 S5 M5 Hs5 G5 (fits_nar_byte _) W6 1 rfl (Nat.le_of_ble_eq_true rfl)
    have N6 := Fr.snoc X6 N4 ge2
    refine own_up st6 ?_
    show own_Go p.tables e below _ (T6.setTop (mkF m 61 #[.val (.int p0), .val (.int p1), .val (.int p2), .val (.int p3), .val (.int p4), .val (.int p5), .val (.int x0), .val (.int x1), .val (.int x2), .unset, .unset, .unset] [(.ref b2)]))
    refine own_up (fun _ k => XS.dup X6.here hx rfl (hb hby at_61) rfl rfl k) ?_
    show own_Go p.tables e below _ (T6.setTop (mkF m 62 #[.val (.int p0), .val (.int p1), .val (.int p2), .val (.int p3), .val (.int p4), .val (.int p5), .val (.int x0), .val (.int x1), .val (.int x2), .unset, .unset, .unset] [(.ref b2), (.ref b2)]))
    refine own_up (fun _ k => XS.iconst X6.here hx rfl (hb hby at_62) k) ?_
    show own_Go p.tables e below _ (T6.setTop (mkF m 63 #[.val (.int p0), .val (.int p1), .val (.int p2), .val (.int p3), .val (.int p4), .val (.int p5), .val (.int x0), .val (.int x1), .val (.int x2), .unset, .unset, .unset] [(.int (2 : Int32)), (.ref b2), (.ref b2)]))
    refine own_up (fun _ k => XS.iload X6.here hx rfl (hb hby at_63) rfl k) ?_
    show own_Go p.tables e below _ (T6.setTop (mkF m 65 #[.val (.int p0), .val (.int p1), .val (.int p2), .val (.int p3), .val (.int p4), .val (.int p5), .val (.int x0), .val (.int x1), .val (.int x2), .unset, .unset, .unset] [(.int x2), (.int (2 : Int32)), (.ref b2), (.ref b2)]))
    obtain ⟨cl7_, Ar7, q7, S7, M7, Hs7, G7⟩ := id (V6)
    have hin8 : ¬ ((2 : Int32) < 0 ∨ cl7_.slots.size ≤ ((2 : Int32)).toNatClampNeg) := inb_of S7 ⟨by decide, by decide⟩
    obtain ⟨T8, h8, X8, e8, W8, st8⟩ := stB X6 hx hZ e6 Ar7 (j := (2 : Int32)) hin8 (g := (mkF m 65 #[.val (.int p0), .val (.int p1), .val (.int p2), .val (.int p3), .val (.int p4), .val (.int p5), .val (.int x0), .val (.int x1), .val (.int x2), .unset, .unset, .unset] [(.int x2), (.int (2 : Int32)), (.ref b2), (.ref b2)])) rfl rfl (hb hby at_65)
    have V8 : Arv Z h8 b2 k2 .byte (4 : Int32) [(.int (nar .byte x0)), (.int (nar .byte x1)), (.int (nar .byte x2)), (.int (0 : Int32))] (.int (0 : Int32)) := Arv.set Ar7 q7 S7 M7 Hs7 G7 (fits_nar_byte _) W8 2 rfl (Nat.le_of_ble_eq_true rfl)
    have N8 := Fr.snoc X8 N6 ge2
    refine own_up st8 ?_
    show own_Go p.tables e below _ (T8.setTop (mkF m 66 #[.val (.int p0), .val (.int p1), .val (.int p2), .val (.int p3), .val (.int p4), .val (.int p5), .val (.int x0), .val (.int x1), .val (.int x2), .unset, .unset, .unset] [(.ref b2)]))
    refine own_up (fun _ k => XS.dup X8.here hx rfl (hb hby at_66) rfl rfl k) ?_
    show own_Go p.tables e below _ (T8.setTop (mkF m 67 #[.val (.int p0), .val (.int p1), .val (.int p2), .val (.int p3), .val (.int p4), .val (.int p5), .val (.int x0), .val (.int x1), .val (.int x2), .unset, .unset, .unset] [(.ref b2), (.ref b2)]))
    refine own_up (fun _ k => XS.iconst X8.here hx rfl (hb hby at_67) k) ?_
    show own_Go p.tables e below _ (T8.setTop (mkF m 68 #[.val (.int p0), .val (.int p1), .val (.int p2), .val (.int p3), .val (.int p4), .val (.int p5), .val (.int x0), .val (.int x1), .val (.int x2), .unset, .unset, .unset] [(.int (3 : Int32)), (.ref b2), (.ref b2)]))
    refine own_up (fun _ k => XS.iload X8.here hx rfl (hb hby at_68) rfl k) ?_
    show own_Go p.tables e below _ (T8.setTop (mkF m 70 #[.val (.int p0), .val (.int p1), .val (.int p2), .val (.int p3), .val (.int p4), .val (.int p5), .val (.int x0), .val (.int x1), .val (.int x2), .unset, .unset, .unset] [(.int p4), (.int (3 : Int32)), (.ref b2), (.ref b2)]))
    refine own_up (fun _ k => XS.i2b X8.here hx rfl (hb hby at_70) rfl k) ?_
    show own_Go p.tables e below _ (T8.setTop (mkF m 71 #[.val (.int p0), .val (.int p1), .val (.int p2), .val (.int p3), .val (.int p4), .val (.int p5), .val (.int x0), .val (.int x1), .val (.int x2), .unset, .unset, .unset] [(.int (p4.toInt8.toInt32)), (.int (3 : Int32)), (.ref b2), (.ref b2)]))
    obtain ⟨cl9_, Ar9, q9, S9, M9, Hs9, G9⟩ := id (V8)
    have hin10 : ¬ ((3 : Int32) < 0 ∨ cl9_.slots.size ≤ ((3 : Int32)).toNatClampNeg) := inb_of S9 ⟨by decide, by decide⟩
    obtain ⟨T10, h10, X10, e10, W10, st10⟩ := stB X8 hx hZ e8 Ar9 (j := (3 : Int32)) hin10 (g := (mkF m 71 #[.val (.int p0), .val (.int p1), .val (.int p2), .val (.int p3), .val (.int p4), .val (.int p5), .val (.int x0), .val (.int x1), .val (.int x2), .unset, .unset, .unset] [(.int (p4.toInt8.toInt32)), (.int (3 : Int32)), (.ref b2), (.ref b2)])) rfl rfl (hb hby at_71)
    have V10 : Arv Z h10 b2 k2 .byte (4 : Int32) [(.int (nar .byte x0)), (.int (nar .byte x1)), (.int (nar .byte x2)), (.int (nar .byte (p4.toInt8.toInt32)))] (.int (0 : Int32)) := Arv.set Ar9 q9 S9 M9 Hs9 G9 (fits_nar_byte _) W10 3 rfl (Nat.le_of_ble_eq_true rfl)
    have N10 := Fr.snoc X10 N8 ge2
    refine own_up st10 ?_
    show own_Go p.tables e below _ (T10.setTop (mkF m 72 #[.val (.int p0), .val (.int p1), .val (.int p2), .val (.int p3), .val (.int p4), .val (.int p5), .val (.int x0), .val (.int x1), .val (.int x2), .unset, .unset, .unset] [(.ref b2)]))
    refine own_up (fun _ k => XS.astore X10.here hx rfl (hb hby at_72) rfl rfl (l' := #[.val (.int p0), .val (.int p1), .val (.int p2), .val (.int p3), .val (.int p4), .val (.int p5), .val (.int x0), .val (.int x1), .val (.int x2), .val (.ref b2), .unset, .unset]) rfl k) ?_
    show own_Go p.tables e below _ (T10.setTop (mkF m 74 #[.val (.int p0), .val (.int p1), .val (.int p2), .val (.int p3), .val (.int p4), .val (.int p5), .val (.int x0), .val (.int x1), .val (.int x2), .val (.ref b2), .unset, .unset] []))
    refine own_up (fun _ k => XS.iloadN X10.here hx rfl (hb hby at_74) rfl k) ?_
    show own_Go p.tables e below _ (T10.setTop (mkF m 75 #[.val (.int p0), .val (.int p1), .val (.int p2), .val (.int p3), .val (.int p4), .val (.int p5), .val (.int x0), .val (.int x1), .val (.int x2), .val (.ref b2), .unset, .unset] [(.int p0)]))
    refine own_up (fun _ k => X10.ldcInt hx hown (mvT hZ (hw _ (List.mem_of_getElem? (i := 1) rfl))) (g := (mkF m 75 #[.val (.int p0), .val (.int p1), .val (.int p2), .val (.int p3), .val (.int p4), .val (.int p5), .val (.int x0), .val (.int x1), .val (.int x2), .val (.ref b2), .unset, .unset] [(.int p0)])) rfl (hb hby at_75) _ k) ?_
    show own_Go p.tables e below _ (T10.setTop (mkF m 77 #[.val (.int p0), .val (.int p1), .val (.int p2), .val (.int p3), .val (.int p4), .val (.int p5), .val (.int x0), .val (.int x1), .val (.int x2), .val (.ref b2), .unset, .unset] [(.int (2147483647 : Int32)), (.int p0)]))
    refine own_up (fun _ k => XS.iand X10.here hx rfl (hb hby at_77) rfl k) ?_
    show own_Go p.tables e below _ (T10.setTop (mkF m 78 #[.val (.int p0), .val (.int p1), .val (.int p2), .val (.int p3), .val (.int p4), .val (.int p5), .val (.int x0), .val (.int x1), .val (.int x2), .val (.ref b2), .unset, .unset] [(.int (p0 &&& (2147483647 : Int32)))]))
    refine own_up (fun _ k => XS.iconst X10.here hx rfl (hb hby at_78) k) ?_
    show own_Go p.tables e below _ (T10.setTop (mkF m 79 #[.val (.int p0), .val (.int p1), .val (.int p2), .val (.int p3), .val (.int p4), .val (.int p5), .val (.int x0), .val (.int x1), .val (.int x2), .val (.ref b2), .unset, .unset] [(.int (5 : Int32)), (.int (p0 &&& (2147483647 : Int32)))]))
    refine own_up (fun _ k => iremM X10 hx rfl (hb hby at_79) rfl (by decide) k) ?_
    show own_Go p.tables e below _ (T10.setTop (mkF m 80 #[.val (.int p0), .val (.int p1), .val (.int p2), .val (.int p3), .val (.int p4), .val (.int p5), .val (.int x0), .val (.int x1), .val (.int x2), .val (.ref b2), .unset, .unset] [(.int ((p0 &&& (2147483647 : Int32)) % (5 : Int32)))]))
    rw [hx0, hx1, hx2] at V10
    obtain ⟨x3, hx3⟩ : ∃ z, z = nar .byte (p4.toInt8.toInt32) := ⟨_, rfl⟩
    rw [← hx3] at V10
    obtain ⟨len, hlen⟩ : ∃ z, z = (p0 &&& (2147483647 : Int32)) % (5 : Int32) := ⟨_, rfl⟩
    rw [← hlen]
    show own_Go p.tables e below _ (T10.setTop (mkF m 80 #[.val (.int p0), .val (.int p1), .val (.int p2), .val (.int p3), .val (.int p4), .val (.int p5), .val (.int x0), .val (.int x1), .val (.int x2), .val (.ref b2), .unset, .unset] [(.int len)]))
    refine own_up (fun _ k => XS.istore X10.here hx rfl (hb hby at_80) rfl (l' := #[.val (.int p0), .val (.int p1), .val (.int p2), .val (.int p3), .val (.int p4), .val (.int p5), .val (.int x0), .val (.int x1), .val (.int x2), .val (.ref b2), .val (.int len), .unset]) rfl k) ?_
    show own_Go p.tables e below _ (T10.setTop (mkF m 82 #[.val (.int p0), .val (.int p1), .val (.int p2), .val (.int p3), .val (.int p4), .val (.int p5), .val (.int x0), .val (.int x1), .val (.int x2), .val (.ref b2), .val (.int len), .unset] []))
    refine own_up (fun _ k => XS.iconst X10.here hx rfl (hb hby at_82) k) ?_
    show own_Go p.tables e below _ (T10.setTop (mkF m 83 #[.val (.int p0), .val (.int p1), .val (.int p2), .val (.int p3), .val (.int p4), .val (.int p5), .val (.int x0), .val (.int x1), .val (.int x2), .val (.ref b2), .val (.int len), .unset] [(.int (0 : Int32))]))
    refine own_up (fun _ k => XS.istore X10.here hx rfl (hb hby at_83) rfl (l' := #[.val (.int p0), .val (.int p1), .val (.int p2), .val (.int p3), .val (.int p4), .val (.int p5), .val (.int x0), .val (.int x1), .val (.int x2), .val (.ref b2), .val (.int len), .val (.int (0 : Int32))]) rfl k) ?_
    show own_Go p.tables e below _ (T10.setTop (mkF m 85 #[.val (.int p0), .val (.int p1), .val (.int p2), .val (.int p3), .val (.int p4), .val (.int p5), .val (.int x0), .val (.int x1), .val (.int x2), .val (.ref b2), .val (.int len), .val (.int (0 : Int32))] []))
    have te : ∀ (Tt11 : State) (Lt11 : List Loc) (Xt11 : Stand p l e room_1 s m #[(.int p0), (.int p1), (.int p2), (.int p3), (.int p4), (.int p5)] below meth c Tt11 Lt11 1 4) (et11 : Tt11.heap = h10) (Nt11 : Fr n0 Lt11) (ex : Int32) (hex : (if ¬ len < (3 : Int32) ∧ x0 = (-17 : Int32) ∧ x1 = (-69 : Int32) ∧ x2 = (-65 : Int32) then (3 : Int32) else 0) = ex), own_Go p.tables e below (fun u o => ∃ v L, o = .returned v ∧ Q_rm0 Z p0 p1 p2 p3 p4 p5 bm km h0 n0 v u.heap L ∧ FrameEnd s o u L room_1.cells room_1.slots) (Tt11.setTop (mkF m 115 #[.val (.int p0), .val (.int p1), .val (.int p2), .val (.int p3), .val (.int p4), .val (.int p5), .val (.int x0), .val (.int x1), .val (.int x2), .val (.ref b2), .val (.int len), .val (.int ex)] [])) := by
      intro Tt11 Lt11 Xt11 et11 Nt11 ex hex
      refine own_up (fun _ k => XS.aload Xt11.here hx rfl (hb hby at_115) rfl rfl k) ?_
      show own_Go p.tables e below _ (Tt11.setTop (mkF m 117 #[.val (.int p0), .val (.int p1), .val (.int p2), .val (.int p3), .val (.int p4), .val (.int p5), .val (.int x0), .val (.int x1), .val (.int x2), .val (.ref b2), .val (.int len), .val (.int ex)] [(.ref b2)]))
      refine own_up (fun _ k => XS.iload Xt11.here hx rfl (hb hby at_117) rfl k) ?_
      show own_Go p.tables e below _ (Tt11.setTop (mkF m 119 #[.val (.int p0), .val (.int p1), .val (.int p2), .val (.int p3), .val (.int p4), .val (.int p5), .val (.int x0), .val (.int x1), .val (.int x2), .val (.ref b2), .val (.int len), .val (.int ex)] [(.int len), (.ref b2)]))
      have f13 : Old Z n0 h10 := (((((O.ext E2).wr W4 ge2).wr W6 ge2).wr W8 ge2).wr W10 ge2)
      have f14 : n0 ≤ h10.size := (Nat.le_trans (Nat.le_trans (Nat.le_trans (Nat.le_trans (Nat.le_trans Z0 E2.1) (Nat.le_of_eq (Wr.size W4).symm)) (Nat.le_of_eq (Wr.size W6).symm)) (Nat.le_of_eq (Wr.size W8).symm)) (Nat.le_of_eq (Wr.size W10).symm))
      obtain ⟨_, _, ⟨T12, L12, k12, n12⟩, -, X12, ⟨Lc12, hQ12, l12, y12, z12⟩, st12⟩ := Jvm.LawKit.callS Xt11 hx (y := (⟨"com/example/hoptrail/hoptrail/io/Utf8", "byteOrderMarkLength", "([BI)I"⟩ : MethodName)) hown (mvT hZ (hw _ (List.mem_of_getElem? (i := 2) rfl))) (mvT hZ (hw _ (List.mem_of_getElem? (i := 3) rfl))) (mvT hZ (hw _ (List.mem_of_getElem? (i := 4) rfl))) (mvT hZ (hw _ (List.mem_of_getElem? (i := 5) rfl))) (by decide) (backOf (W := 0) (rm1 l Z a0 hw [] b2 len k2 km bm x0 x1 x2 x3 h10 n0 f14 f13 V10 SB AB) hZ (hw _ (List.mem_of_getElem? (i := 5) rfl)) (hw _ (List.mem_of_getElem? (i := 4) rfl)) (by decide) (by decide)) (g := (mkF m 119 #[.val (.int p0), .val (.int p1), .val (.int p2), .val (.int p3), .val (.int p4), .val (.int p5), .val (.int x0), .val (.int x1), .val (.int x2), .val (.ref b2), .val (.int len), .val (.int ex)] [(.int len), (.ref b2)])) rfl (by rw [hml]; rfl) (argsL := [(.ref b2), (.int len)]) (rest := []) (lenOf own_pd0 rfl) rfl (by show 2 * 0 + _ ≤ _; exact Nat.le_of_eq rfl) (hb hby at_119) (fun _ _ => ⟨rfl, et11, (by decide : 1 + 0 ≤ _), (by decide : 4 + 0 ≤ _)⟩)
      dsimp only [Pt.U, Pt.locs, Pt.cells, Pt.slots] at X12 l12 y12 z12 st12 hQ12
      subst l12 y12 z12
      obtain ⟨rfl, N12q, eq12⟩ := hQ12
      have N12 := Fr.app Nt11 N12q
      refine own_up (fun _ k => st12 _ k) ?_
      show own_Go p.tables e below _ (T12.setTop (mkF m 122 #[.val (.int p0), .val (.int p1), .val (.int p2), .val (.int p3), .val (.int p4), .val (.int p5), .val (.int x0), .val (.int x1), .val (.int x2), .val (.ref b2), .val (.int len), .val (.int ex)] [(.int (if ¬ len < (3 : Int32) ∧ x0 = (-17 : Int32) ∧ x1 = (-69 : Int32) ∧ x2 = (-65 : Int32) then (3 : Int32) else 0))]))
      refine own_up (fun _ k => XS.iload X12.here hx rfl (hb hby at_122) rfl k) ?_
      show own_Go p.tables e below _ (T12.setTop (mkF m 124 #[.val (.int p0), .val (.int p1), .val (.int p2), .val (.int p3), .val (.int p4), .val (.int p5), .val (.int x0), .val (.int x1), .val (.int x2), .val (.ref b2), .val (.int len), .val (.int ex)] [(.int ex), (.int (if ¬ len < (3 : Int32) ∧ x0 = (-17 : Int32) ∧ x1 = (-69 : Int32) ∧ x2 = (-65 : Int32) then (3 : Int32) else 0))]))
      refine own_up (fun _ k => XS.icmpNo X12.here hx rfl (hb hby at_124) rfl (teq hex).2 k) ?_
      show own_Go p.tables e below _ (T12.setTop (mkF m 127 #[.val (.int p0), .val (.int p1), .val (.int p2), .val (.int p3), .val (.int p4), .val (.int p5), .val (.int x0), .val (.int x1), .val (.int x2), .val (.ref b2), .val (.int len), .val (.int ex)] []))
      refine own_up (fun _ k => XS.iconst X12.here hx rfl (hb hby at_127) k) ?_
      show own_Go p.tables e below _ (T12.setTop (mkF m 128 #[.val (.int p0), .val (.int p1), .val (.int p2), .val (.int p3), .val (.int p4), .val (.int p5), .val (.int x0), .val (.int x1), .val (.int x2), .val (.ref b2), .val (.int len), .val (.int ex)] [(.int (1 : Int32))]))
      refine own_up (fun _ k => XS.goto X12.here hx rfl (pc0 := 128) (pc' := 132) rfl (hb hby at_128) (by decide) (by decide) k) ?_
      show own_Go p.tables e below _ (T12.setTop (mkF m 132 #[.val (.int p0), .val (.int p1), .val (.int p2), .val (.int p3), .val (.int p4), .val (.int p5), .val (.int x0), .val (.int x1), .val (.int x2), .val (.ref b2), .val (.int len), .val (.int ex)] [(.int (1 : Int32))]))
      exact own_end X12 hlk (v := some (.int (1 : Int32))) (fun h => by rw [Bd.returns] at h; cases h) (fun fs hr => retN X12 hx (z := (1 : Int32)) (t := .boolean) Bd.returns (by simp) (hb hby at_132) hr) eq12 ⟨rfl, N12⟩ (by decide) (by decide)
    refine own_up (fun _ k => XS.iload X10.here hx rfl (hb hby at_85) rfl k) ?_
    show own_Go p.tables e below _ (T10.setTop (mkF m 87 #[.val (.int p0), .val (.int p1), .val (.int p2), .val (.int p3), .val (.int p4), .val (.int p5), .val (.int x0), .val (.int x1), .val (.int x2), .val (.ref b2), .val (.int len), .val (.int (0 : Int32))] [(.int len)]))
    refine own_up (fun _ k => XS.iconst X10.here hx rfl (hb hby at_87) k) ?_
    show own_Go p.tables e below _ (T10.setTop (mkF m 88 #[.val (.int p0), .val (.int p1), .val (.int p2), .val (.int p3), .val (.int p4), .val (.int p5), .val (.int x0), .val (.int x1), .val (.int x2), .val (.ref b2), .val (.int len), .val (.int (0 : Int32))] [(.int (3 : Int32)), (.int len)]))
    by_cases c0 : len < (3 : Int32)
    ·
      refine own_up (fun _ k => XS.icmpYes X10.here hx rfl (pc0 := 88) (pc' := 115) rfl (hb hby at_88) rfl (tlt c0).1 (by decide) (by decide) k) ?_
      show own_Go p.tables e below _ (T10.setTop (mkF m 115 #[.val (.int p0), .val (.int p1), .val (.int p2), .val (.int p3), .val (.int p4), .val (.int p5), .val (.int x0), .val (.int x1), .val (.int x2), .val (.ref b2), .val (.int len), .val (.int (0 : Int32))] []))
      exact te T10 _ X10 e10 N10 (0 : Int32) (if_neg (fun q => q.1 c0))
    ·
      refine own_up (fun _ k => XS.icmpNo X10.here hx rfl (hb hby at_88) rfl (flt c0).1 k) ?_
      show own_Go p.tables e below _ (T10.setTop (mkF m 91 #[.val (.int p0), .val (.int p1), .val (.int p2), .val (.int p3), .val (.int p4), .val (.int p5), .val (.int x0), .val (.int x1), .val (.int x2), .val (.ref b2), .val (.int len), .val (.int (0 : Int32))] []))
      refine own_up (fun _ k => XS.iload X10.here hx rfl (hb hby at_91) rfl k) ?_
      show own_Go p.tables e below _ (T10.setTop (mkF m 93 #[.val (.int p0), .val (.int p1), .val (.int p2), .val (.int p3), .val (.int p4), .val (.int p5), .val (.int x0), .val (.int x1), .val (.int x2), .val (.ref b2), .val (.int len), .val (.int (0 : Int32))] [(.int x0)]))
      refine own_up (fun _ k => XS.bipush X10.here hx rfl (hb hby at_93) k) ?_
      show own_Go p.tables e below _ (T10.setTop (mkF m 95 #[.val (.int p0), .val (.int p1), .val (.int p2), .val (.int p3), .val (.int p4), .val (.int p5), .val (.int x0), .val (.int x1), .val (.int x2), .val (.ref b2), .val (.int len), .val (.int (0 : Int32))] [(.int (-17 : Int32)), (.int x0)]))
      by_cases d0 : x0 = (-17 : Int32)
      ·
        refine own_up (fun _ k => XS.icmpNo X10.here hx rfl (hb hby at_95) rfl (teq d0).2 k) ?_
        show own_Go p.tables e below _ (T10.setTop (mkF m 98 #[.val (.int p0), .val (.int p1), .val (.int p2), .val (.int p3), .val (.int p4), .val (.int p5), .val (.int x0), .val (.int x1), .val (.int x2), .val (.ref b2), .val (.int len), .val (.int (0 : Int32))] []))
        refine own_up (fun _ k => XS.iload X10.here hx rfl (hb hby at_98) rfl k) ?_
        show own_Go p.tables e below _ (T10.setTop (mkF m 100 #[.val (.int p0), .val (.int p1), .val (.int p2), .val (.int p3), .val (.int p4), .val (.int p5), .val (.int x0), .val (.int x1), .val (.int x2), .val (.ref b2), .val (.int len), .val (.int (0 : Int32))] [(.int x1)]))
        refine own_up (fun _ k => XS.bipush X10.here hx rfl (hb hby at_100) k) ?_
        show own_Go p.tables e below _ (T10.setTop (mkF m 102 #[.val (.int p0), .val (.int p1), .val (.int p2), .val (.int p3), .val (.int p4), .val (.int p5), .val (.int x0), .val (.int x1), .val (.int x2), .val (.ref b2), .val (.int len), .val (.int (0 : Int32))] [(.int (-69 : Int32)), (.int x1)]))
        by_cases d1 : x1 = (-69 : Int32)
        ·
          refine own_up (fun _ k => XS.icmpNo X10.here hx rfl (hb hby at_102) rfl (teq d1).2 k) ?_
          show own_Go p.tables e below _ (T10.setTop (mkF m 105 #[.val (.int p0), .val (.int p1), .val (.int p2), .val (.int p3), .val (.int p4), .val (.int p5), .val (.int x0), .val (.int x1), .val (.int x2), .val (.ref b2), .val (.int len), .val (.int (0 : Int32))] []))
          refine own_up (fun _ k => XS.iload X10.here hx rfl (hb hby at_105) rfl k) ?_
          show own_Go p.tables e below _ (T10.setTop (mkF m 107 #[.val (.int p0), .val (.int p1), .val (.int p2), .val (.int p3), .val (.int p4), .val (.int p5), .val (.int x0), .val (.int x1), .val (.int x2), .val (.ref b2), .val (.int len), .val (.int (0 : Int32))] [(.int x2)]))
          refine own_up (fun _ k => XS.bipush X10.here hx rfl (hb hby at_107) k) ?_
          show own_Go p.tables e below _ (T10.setTop (mkF m 109 #[.val (.int p0), .val (.int p1), .val (.int p2), .val (.int p3), .val (.int p4), .val (.int p5), .val (.int x0), .val (.int x1), .val (.int x2), .val (.ref b2), .val (.int len), .val (.int (0 : Int32))] [(.int (-65 : Int32)), (.int x2)]))
          by_cases d2 : x2 = (-65 : Int32)
          ·
            refine own_up (fun _ k => XS.icmpNo X10.here hx rfl (hb hby at_109) rfl (teq d2).2 k) ?_
            show own_Go p.tables e below _ (T10.setTop (mkF m 112 #[.val (.int p0), .val (.int p1), .val (.int p2), .val (.int p3), .val (.int p4), .val (.int p5), .val (.int x0), .val (.int x1), .val (.int x2), .val (.ref b2), .val (.int len), .val (.int (0 : Int32))] []))
            refine own_up (fun _ k => XS.iconst X10.here hx rfl (hb hby at_112) k) ?_
            show own_Go p.tables e below _ (T10.setTop (mkF m 113 #[.val (.int p0), .val (.int p1), .val (.int p2), .val (.int p3), .val (.int p4), .val (.int p5), .val (.int x0), .val (.int x1), .val (.int x2), .val (.ref b2), .val (.int len), .val (.int (0 : Int32))] [(.int (3 : Int32))]))
            refine own_up (fun _ k => XS.istore X10.here hx rfl (hb hby at_113) rfl (l' := #[.val (.int p0), .val (.int p1), .val (.int p2), .val (.int p3), .val (.int p4), .val (.int p5), .val (.int x0), .val (.int x1), .val (.int x2), .val (.ref b2), .val (.int len), .val (.int (3 : Int32))]) rfl k) ?_
            show own_Go p.tables e below _ (T10.setTop (mkF m 115 #[.val (.int p0), .val (.int p1), .val (.int p2), .val (.int p3), .val (.int p4), .val (.int p5), .val (.int x0), .val (.int x1), .val (.int x2), .val (.ref b2), .val (.int len), .val (.int (3 : Int32))] []))
            exact te T10 _ X10 e10 N10 (3 : Int32) (if_pos ⟨c0, d0, d1, d2⟩)
          ·
            refine own_up (fun _ k => XS.icmpYes X10.here hx rfl (pc0 := 109) (pc' := 115) rfl (hb hby at_109) rfl (feq d2).2 (by decide) (by decide) k) ?_
            show own_Go p.tables e below _ (T10.setTop (mkF m 115 #[.val (.int p0), .val (.int p1), .val (.int p2), .val (.int p3), .val (.int p4), .val (.int p5), .val (.int x0), .val (.int x1), .val (.int x2), .val (.ref b2), .val (.int len), .val (.int (0 : Int32))] []))
            exact te T10 _ X10 e10 N10 (0 : Int32) (if_neg (fun q => d2 q.2.2.2))
        ·
          refine own_up (fun _ k => XS.icmpYes X10.here hx rfl (pc0 := 102) (pc' := 115) rfl (hb hby at_102) rfl (feq d1).2 (by decide) (by decide) k) ?_
          show own_Go p.tables e below _ (T10.setTop (mkF m 115 #[.val (.int p0), .val (.int p1), .val (.int p2), .val (.int p3), .val (.int p4), .val (.int p5), .val (.int x0), .val (.int x1), .val (.int x2), .val (.ref b2), .val (.int len), .val (.int (0 : Int32))] []))
          exact te T10 _ X10 e10 N10 (0 : Int32) (if_neg (fun q => d1 q.2.2.1))
      ·
        refine own_up (fun _ k => XS.icmpYes X10.here hx rfl (pc0 := 95) (pc' := 115) rfl (hb hby at_95) rfl (feq d0).2 (by decide) (by decide) k) ?_
        show own_Go p.tables e below _ (T10.setTop (mkF m 115 #[.val (.int p0), .val (.int p1), .val (.int p2), .val (.int p3), .val (.int p4), .val (.int p5), .val (.int x0), .val (.int x1), .val (.int x2), .val (.ref b2), .val (.int len), .val (.int (0 : Int32))] []))
        exact te T10 _ X10 e10 N10 (0 : Int32) (if_neg (fun q => d0 q.2.1))
  have t2 : ∀ (Tt15 : State) (Lt15 : List Loc) (Xt15 : Stand p l e room_1 s m #[(.int p0), (.int p1), (.int p2), (.int p3), (.int p4), (.int p5)] below meth c Tt15 Lt15 0 0) (et15 : Tt15.heap = h0) (Nt15 : Fr n0 Lt15) (x0 : Int32) (x1 : Int32) (hx0 : nar .byte x0 = x0) (hx1 : nar .byte x1 = x1), own_Go p.tables e below (fun u o => ∃ v L, o = .returned v ∧ Q_rm0 Z p0 p1 p2 p3 p4 p5 bm km h0 n0 v u.heap L ∧ FrameEnd s o u L room_1.cells room_1.slots) (Tt15.setTop (mkF m 32 #[.val (.int p0), .val (.int p1), .val (.int p2), .val (.int p3), .val (.int p4), .val (.int p5), .val (.int x0), .val (.int x1), .unset, .unset, .unset, .unset] [])) := by
    intro Tt15 Lt15 Xt15 et15 Nt15 x0 x1 hx0 hx1
    refine own_up (fun _ k => XS.iload Xt15.here hx rfl (hb hby at_32) rfl k) ?_
    show own_Go p.tables e below _ (Tt15.setTop (mkF m 34 #[.val (.int p0), .val (.int p1), .val (.int p2), .val (.int p3), .val (.int p4), .val (.int p5), .val (.int x0), .val (.int x1), .unset, .unset, .unset, .unset] [(.int p5)]))
    refine own_up (fun _ k => XS.iconst Xt15.here hx rfl (hb hby at_34) k) ?_
    show own_Go p.tables e below _ (Tt15.setTop (mkF m 35 #[.val (.int p0), .val (.int p1), .val (.int p2), .val (.int p3), .val (.int p4), .val (.int p5), .val (.int x0), .val (.int x1), .unset, .unset, .unset, .unset] [(.int (4 : Int32)), (.int p5)]))
    refine own_up (fun _ k => XS.iand Xt15.here hx rfl (hb hby at_35) rfl k) ?_
    show own_Go p.tables e below _ (Tt15.setTop (mkF m 36 #[.val (.int p0), .val (.int p1), .val (.int p2), .val (.int p3), .val (.int p4), .val (.int p5), .val (.int x0), .val (.int x1), .unset, .unset, .unset, .unset] [(.int (p5 &&& (4 : Int32)))]))
    by_cases b2 : (p5 &&& (4 : Int32)) = (0 : Int32)
    ·
      refine own_up (fun _ k => XS.ifYes Xt15.here hx rfl (pc0 := 36) (pc' := 44) rfl (hb hby at_36) rfl ((if0 _ _).trans (teq b2).1) (by decide) (by decide) k) ?_
      show own_Go p.tables e below _ (Tt15.setTop (mkF m 44 #[.val (.int p0), .val (.int p1), .val (.int p2), .val (.int p3), .val (.int p4), .val (.int p5), .val (.int x0), .val (.int x1), .unset, .unset, .unset, .unset] []))
      refine own_up (fun _ k => XS.iloadN Xt15.here hx rfl (hb hby at_44) rfl k) ?_
      show own_Go p.tables e below _ (Tt15.setTop (mkF m 45 #[.val (.int p0), .val (.int p1), .val (.int p2), .val (.int p3), .val (.int p4), .val (.int p5), .val (.int x0), .val (.int x1), .unset, .unset, .unset, .unset] [(.int p3)]))
      refine own_up (fun _ k => XS.i2b Xt15.here hx rfl (hb hby at_45) rfl k) ?_
      show own_Go p.tables e below _ (Tt15.setTop (mkF m 46 #[.val (.int p0), .val (.int p1), .val (.int p2), .val (.int p3), .val (.int p4), .val (.int p5), .val (.int x0), .val (.int x1), .unset, .unset, .unset, .unset] [(.int (p3.toInt8.toInt32))]))
      refine own_up (fun _ k => XS.istore Xt15.here hx rfl (hb hby at_46) rfl (l' := #[.val (.int p0), .val (.int p1), .val (.int p2), .val (.int p3), .val (.int p4), .val (.int p5), .val (.int x0), .val (.int x1), .val (.int (p3.toInt8.toInt32)), .unset, .unset, .unset]) rfl k) ?_
      show own_Go p.tables e below _ (Tt15.setTop (mkF m 48 #[.val (.int p0), .val (.int p1), .val (.int p2), .val (.int p3), .val (.int p4), .val (.int p5), .val (.int x0), .val (.int x1), .val (.int (p3.toInt8.toInt32)), .unset, .unset, .unset] []))
      exact t3 Tt15 _ Xt15 et15 Nt15 x0 x1 (p3.toInt8.toInt32) hx0 hx1 (own_nar8 _)
    ·
      refine own_up (fun _ k => XS.ifNo Xt15.here hx rfl (hb hby at_36) rfl ((if0 _ _).trans (feq b2).1) k) ?_
      show own_Go p.tables e below _ (Tt15.setTop (mkF m 39 #[.val (.int p0), .val (.int p1), .val (.int p2), .val (.int p3), .val (.int p4), .val (.int p5), .val (.int x0), .val (.int x1), .unset, .unset, .unset, .unset] []))
      refine own_up (fun _ k => XS.bipush Xt15.here hx rfl (hb hby at_39) k) ?_
      show own_Go p.tables e below _ (Tt15.setTop (mkF m 41 #[.val (.int p0), .val (.int p1), .val (.int p2), .val (.int p3), .val (.int p4), .val (.int p5), .val (.int x0), .val (.int x1), .unset, .unset, .unset, .unset] [(.int (-65 : Int32))]))
      refine own_up (fun _ k => XS.goto Xt15.here hx rfl (pc0 := 41) (pc' := 46) rfl (hb hby at_41) (by decide) (by decide) k) ?_
      show own_Go p.tables e below _ (Tt15.setTop (mkF m 46 #[.val (.int p0), .val (.int p1), .val (.int p2), .val (.int p3), .val (.int p4), .val (.int p5), .val (.int x0), .val (.int x1), .unset, .unset, .unset, .unset] [(.int (-65 : Int32))]))
      refine own_up (fun _ k => XS.istore Xt15.here hx rfl (hb hby at_46) rfl (l' := #[.val (.int p0), .val (.int p1), .val (.int p2), .val (.int p3), .val (.int p4), .val (.int p5), .val (.int x0), .val (.int x1), .val (.int (-65 : Int32)), .unset, .unset, .unset]) rfl k) ?_
      show own_Go p.tables e below _ (Tt15.setTop (mkF m 48 #[.val (.int p0), .val (.int p1), .val (.int p2), .val (.int p3), .val (.int p4), .val (.int p5), .val (.int x0), .val (.int x1), .val (.int (-65 : Int32)), .unset, .unset, .unset] []))
      exact t3 Tt15 _ Xt15 et15 Nt15 x0 x1 (-65 : Int32) hx0 hx1 (by decide)
  have t1 : ∀ (Tt16 : State) (Lt16 : List Loc) (Xt16 : Stand p l e room_1 s m #[(.int p0), (.int p1), (.int p2), (.int p3), (.int p4), (.int p5)] below meth c Tt16 Lt16 0 0) (et16 : Tt16.heap = h0) (Nt16 : Fr n0 Lt16) (x0 : Int32) (hx0 : nar .byte x0 = x0), own_Go p.tables e below (fun u o => ∃ v L, o = .returned v ∧ Q_rm0 Z p0 p1 p2 p3 p4 p5 bm km h0 n0 v u.heap L ∧ FrameEnd s o u L room_1.cells room_1.slots) (Tt16.setTop (mkF m 16 #[.val (.int p0), .val (.int p1), .val (.int p2), .val (.int p3), .val (.int p4), .val (.int p5), .val (.int x0), .unset, .unset, .unset, .unset, .unset] [])) := by
    intro Tt16 Lt16 Xt16 et16 Nt16 x0 hx0
    refine own_up (fun _ k => XS.iload Xt16.here hx rfl (hb hby at_16) rfl k) ?_
    show own_Go p.tables e below _ (Tt16.setTop (mkF m 18 #[.val (.int p0), .val (.int p1), .val (.int p2), .val (.int p3), .val (.int p4), .val (.int p5), .val (.int x0), .unset, .unset, .unset, .unset, .unset] [(.int p5)]))
    refine own_up (fun _ k => XS.iconst Xt16.here hx rfl (hb hby at_18) k) ?_
    show own_Go p.tables e below _ (Tt16.setTop (mkF m 19 #[.val (.int p0), .val (.int p1), .val (.int p2), .val (.int p3), .val (.int p4), .val (.int p5), .val (.int x0), .unset, .unset, .unset, .unset, .unset] [(.int (2 : Int32)), (.int p5)]))
    refine own_up (fun _ k => XS.iand Xt16.here hx rfl (hb hby at_19) rfl k) ?_
    show own_Go p.tables e below _ (Tt16.setTop (mkF m 20 #[.val (.int p0), .val (.int p1), .val (.int p2), .val (.int p3), .val (.int p4), .val (.int p5), .val (.int x0), .unset, .unset, .unset, .unset, .unset] [(.int (p5 &&& (2 : Int32)))]))
    by_cases b1 : (p5 &&& (2 : Int32)) = (0 : Int32)
    ·
      refine own_up (fun _ k => XS.ifYes Xt16.here hx rfl (pc0 := 20) (pc' := 28) rfl (hb hby at_20) rfl ((if0 _ _).trans (teq b1).1) (by decide) (by decide) k) ?_
      show own_Go p.tables e below _ (Tt16.setTop (mkF m 28 #[.val (.int p0), .val (.int p1), .val (.int p2), .val (.int p3), .val (.int p4), .val (.int p5), .val (.int x0), .unset, .unset, .unset, .unset, .unset] []))
      refine own_up (fun _ k => XS.iloadN Xt16.here hx rfl (hb hby at_28) rfl k) ?_
      show own_Go p.tables e below _ (Tt16.setTop (mkF m 29 #[.val (.int p0), .val (.int p1), .val (.int p2), .val (.int p3), .val (.int p4), .val (.int p5), .val (.int x0), .unset, .unset, .unset, .unset, .unset] [(.int p2)]))
      refine own_up (fun _ k => XS.i2b Xt16.here hx rfl (hb hby at_29) rfl k) ?_
      show own_Go p.tables e below _ (Tt16.setTop (mkF m 30 #[.val (.int p0), .val (.int p1), .val (.int p2), .val (.int p3), .val (.int p4), .val (.int p5), .val (.int x0), .unset, .unset, .unset, .unset, .unset] [(.int (p2.toInt8.toInt32))]))
      refine own_up (fun _ k => XS.istore Xt16.here hx rfl (hb hby at_30) rfl (l' := #[.val (.int p0), .val (.int p1), .val (.int p2), .val (.int p3), .val (.int p4), .val (.int p5), .val (.int x0), .val (.int (p2.toInt8.toInt32)), .unset, .unset, .unset, .unset]) rfl k) ?_
      show own_Go p.tables e below _ (Tt16.setTop (mkF m 32 #[.val (.int p0), .val (.int p1), .val (.int p2), .val (.int p3), .val (.int p4), .val (.int p5), .val (.int x0), .val (.int (p2.toInt8.toInt32)), .unset, .unset, .unset, .unset] []))
      exact t2 Tt16 _ Xt16 et16 Nt16 x0 (p2.toInt8.toInt32) hx0 (own_nar8 _)
    ·
      refine own_up (fun _ k => XS.ifNo Xt16.here hx rfl (hb hby at_20) rfl ((if0 _ _).trans (feq b1).1) k) ?_
      show own_Go p.tables e below _ (Tt16.setTop (mkF m 23 #[.val (.int p0), .val (.int p1), .val (.int p2), .val (.int p3), .val (.int p4), .val (.int p5), .val (.int x0), .unset, .unset, .unset, .unset, .unset] []))
      refine own_up (fun _ k => XS.bipush Xt16.here hx rfl (hb hby at_23) k) ?_
      show own_Go p.tables e below _ (Tt16.setTop (mkF m 25 #[.val (.int p0), .val (.int p1), .val (.int p2), .val (.int p3), .val (.int p4), .val (.int p5), .val (.int x0), .unset, .unset, .unset, .unset, .unset] [(.int (-69 : Int32))]))
      refine own_up (fun _ k => XS.goto Xt16.here hx rfl (pc0 := 25) (pc' := 30) rfl (hb hby at_25) (by decide) (by decide) k) ?_
      show own_Go p.tables e below _ (Tt16.setTop (mkF m 30 #[.val (.int p0), .val (.int p1), .val (.int p2), .val (.int p3), .val (.int p4), .val (.int p5), .val (.int x0), .unset, .unset, .unset, .unset, .unset] [(.int (-69 : Int32))]))
      refine own_up (fun _ k => XS.istore Xt16.here hx rfl (hb hby at_30) rfl (l' := #[.val (.int p0), .val (.int p1), .val (.int p2), .val (.int p3), .val (.int p4), .val (.int p5), .val (.int x0), .val (.int (-69 : Int32)), .unset, .unset, .unset, .unset]) rfl k) ?_
      show own_Go p.tables e below _ (Tt16.setTop (mkF m 32 #[.val (.int p0), .val (.int p1), .val (.int p2), .val (.int p3), .val (.int p4), .val (.int p5), .val (.int x0), .val (.int (-69 : Int32)), .unset, .unset, .unset, .unset] []))
      exact t2 Tt16 _ Xt16 et16 Nt16 x0 (-69 : Int32) hx0 (by decide)
  by_cases b0 : (p5 &&& (1 : Int32)) = (0 : Int32)
  ·
    refine own_up (fun _ k => XS.ifYes X0.here hx rfl (pc0 := 4) (pc' := 12) rfl (hb hby at_4) rfl ((if0 _ _).trans (teq b0).1) (by decide) (by decide) k) ?_
    show own_Go p.tables e below _ (s₁.setTop (mkF m 12 #[.val (.int p0), .val (.int p1), .val (.int p2), .val (.int p3), .val (.int p4), .val (.int p5), .unset, .unset, .unset, .unset, .unset, .unset] []))
    refine own_up (fun _ k => XS.iloadN X0.here hx rfl (hb hby at_12) rfl k) ?_
    show own_Go p.tables e below _ (s₁.setTop (mkF m 13 #[.val (.int p0), .val (.int p1), .val (.int p2), .val (.int p3), .val (.int p4), .val (.int p5), .unset, .unset, .unset, .unset, .unset, .unset] [(.int p1)]))
    refine own_up (fun _ k => XS.i2b X0.here hx rfl (hb hby at_13) rfl k) ?_
    show own_Go p.tables e below _ (s₁.setTop (mkF m 14 #[.val (.int p0), .val (.int p1), .val (.int p2), .val (.int p3), .val (.int p4), .val (.int p5), .unset, .unset, .unset, .unset, .unset, .unset] [(.int (p1.toInt8.toInt32))]))
    refine own_up (fun _ k => XS.istore X0.here hx rfl (hb hby at_14) rfl (l' := #[.val (.int p0), .val (.int p1), .val (.int p2), .val (.int p3), .val (.int p4), .val (.int p5), .val (.int (p1.toInt8.toInt32)), .unset, .unset, .unset, .unset, .unset]) rfl k) ?_
    show own_Go p.tables e below _ (s₁.setTop (mkF m 16 #[.val (.int p0), .val (.int p1), .val (.int p2), .val (.int p3), .val (.int p4), .val (.int p5), .val (.int (p1.toInt8.toInt32)), .unset, .unset, .unset, .unset, .unset] []))
    exact t1 s₁ _ X0 e0 N0 (p1.toInt8.toInt32) (own_nar8 _)
  ·
    refine own_up (fun _ k => XS.ifNo X0.here hx rfl (hb hby at_4) rfl ((if0 _ _).trans (feq b0).1) k) ?_
    show own_Go p.tables e below _ (s₁.setTop (mkF m 7 #[.val (.int p0), .val (.int p1), .val (.int p2), .val (.int p3), .val (.int p4), .val (.int p5), .unset, .unset, .unset, .unset, .unset, .unset] []))
    refine own_up (fun _ k => XS.bipush X0.here hx rfl (hb hby at_7) k) ?_
    show own_Go p.tables e below _ (s₁.setTop (mkF m 9 #[.val (.int p0), .val (.int p1), .val (.int p2), .val (.int p3), .val (.int p4), .val (.int p5), .unset, .unset, .unset, .unset, .unset, .unset] [(.int (-17 : Int32))]))
    refine own_up (fun _ k => XS.goto X0.here hx rfl (pc0 := 9) (pc' := 14) rfl (hb hby at_9) (by decide) (by decide) k) ?_
    show own_Go p.tables e below _ (s₁.setTop (mkF m 14 #[.val (.int p0), .val (.int p1), .val (.int p2), .val (.int p3), .val (.int p4), .val (.int p5), .unset, .unset, .unset, .unset, .unset, .unset] [(.int (-17 : Int32))]))
    refine own_up (fun _ k => XS.istore X0.here hx rfl (hb hby at_14) rfl (l' := #[.val (.int p0), .val (.int p1), .val (.int p2), .val (.int p3), .val (.int p4), .val (.int p5), .val (.int (-17 : Int32)), .unset, .unset, .unset, .unset, .unset]) rfl k) ?_
    show own_Go p.tables e below _ (s₁.setTop (mkF m 16 #[.val (.int p0), .val (.int p1), .val (.int p2), .val (.int p3), .val (.int p4), .val (.int p5), .val (.int (-17 : Int32)), .unset, .unset, .unset, .unset, .unset] []))
    exact t1 s₁ _ X0 e0 N0 (-17 : Int32) (by decide)
set_option maxRecDepth 65536 in
set_option maxHeartbeats 40000000 in
theorem comes_1 {Post : Tables → Env → Array Value → State → Outcome → State → Prop} (hpost : ∀ tb e args s v u, (limb_1_1.after args s (.returned v) u = true ∧ limb_1_2.after args s (.returned v) u = true ∧ True) → FrameEnd s (.returned v) u (Jvm.fieldLocs frame_1_writes args s ++ Jvm.arrayLocs frame_1_arrays args s ++ Jvm.staticLocs frame_1_statics s) 16 128 → Post tb e args s (.returned v) u) :
    ArmFor flags0 classFile x code maxLocals ret World_1 tables_1 room_1 Calls_1 rest_1 Pre_1 Post := by
  intro l hfl _ _ p e ha hc hk s m args below hf hA hF happ hP
  obtain ⟨hcalls, hrest, hpre⟩ := hP
  obtain ⟨-, -, -, hnamed, -, -, -, hat⟩ := (Spec.applies_iff hf).mp happ
  obtain ⟨hg, hn⟩ := and_e (Cond.before_iff.mp (show (Jvm.Cond.and given_1 narrow_1).before args s = true from hpre))
  obtain ⟨hcnt, hgr0⟩ := and_e hg
  obtain ⟨ga0, hgr1⟩ := and_e hgr0
  obtain ⟨ga1, hgr2⟩ := and_e hgr1
  obtain ⟨ga2, hgr3⟩ := and_e hgr2
  obtain ⟨ga3, hgr4⟩ := and_e hgr3
  obtain ⟨ga4, hgr5⟩ := and_e hgr4
  obtain ⟨w0, w1, w2, w3, w4, w5, rfl⟩ : ∃ w0 w1 w2 w3 w4 w5 : Value, args = #[w0, w1, w2, w3, w4, w5] := by
    have hs : args.size = 6 := by simpa [Cond.value, given_1] using hcnt
    obtain ⟨L⟩ := args
    match L, hs with
    | [w0, w1, w2, w3, w4, w5], _ => exact ⟨w0, w1, w2, w3, w4, w5, rfl⟩
  have hw := fun d (hd : d ∈ tables_1) => atoms_spec (ws := Jvm.Cond.code x code maxLocals ret :: tables_1) hat d (List.mem_cons_of_mem _ hd)
  have hfit : Fit s := fun {y c} hc i hi => by
    obtain ⟨ha, rfl⟩ := Array.getElem?_eq_some_iff.mp hc
    have q := List.all_eq_true.mp ((Array.all_eq_true_iff_forall_mem.mp hF) _ (Array.getElem_mem ha)) i (List.mem_range.mpr hi)
    simpa [Array.getElem?_eq_getElem hi] using q
  obtain ⟨i0, ei0⟩ := is_v ga0
  obtain rfl : w0 = (.int i0) := Option.some.inj ei0
  obtain ⟨i1, ei1⟩ := is_v ga1
  obtain rfl : w1 = (.int i1) := Option.some.inj ei1
  obtain ⟨i2, ei2⟩ := is_v ga2
  obtain rfl : w2 = (.int i2) := Option.some.inj ei2
  obtain ⟨i3, ei3⟩ := is_v ga3
  obtain rfl : w3 = (.int i3) := Option.some.inj ei3
  obtain ⟨i4, ei4⟩ := is_v ga4
  obtain rfl : w4 = (.int i4) := Option.some.inj ei4
  obtain ⟨i5, ei5⟩ := is_v hgr5
  obtain rfl : w5 = (.int i5) := Option.some.inj ei5
  obtain ⟨na0, nr0⟩ := and_e hn
  obtain ⟨na1, nr1⟩ := and_e nr0
  obtain ⟨na2, nr2⟩ := and_e nr1
  obtain ⟨na3, na4⟩ := and_e nr2
  obtain ⟨bm, evb⟩ := arr_v na0
  have SB := Sta.start evb (Or.inr ⟨(hw _ (List.mem_of_getElem? (i := 4) rfl)), (hw _ (List.mem_of_getElem? (i := 7) rfl))⟩)
  obtain ⟨km, AB⟩ := own_arr3 hfit evb na0 na1 na2 na3 na4
  obtain ⟨n, o, h1, h2, h3, _, L, rfl, ⟨rfl, N⟩, hq⟩ := rm0 l s _ hw tables_1 i0 i1 i2 i3 i4 i5 bm km s.heap s.heap.size (Nat.le_refl _) (Old.start s) SB AB p e ha hc hk s m _ below hf ((Spec.applies_iff_loose hf).mp happ).1 ⟨rfl, State.Warmed39.refl s, rfl⟩ trivial
  refine ⟨n, _, h1, h2, h3, hpost _ _ _ _ _ _ ⟨Cond.after_iff.mpr rfl, Cond.after_iff.mpr (eq_i res_at (Term.int_eval (1)) rfl), trivial⟩ ⟨hq.1, hq.2.1, (hq.2.2.sift fun y hy => Or.inr (N y hy)).mono (by decide) (by decide)⟩⟩
theorem main_1_1 : Claimed_1_1 := comes_1 fun _ _ _ _ _ _ h hF => ⟨h.1, hF⟩
theorem main_1_2 : Claimed_1_2 := comes_1 fun _ _ _ _ _ _ h hF => ⟨h.2.1, hF⟩
end Jvm.Pilot.@@N@@
namespace Jvm.Pilot.@@N@@
open Jvm Jvm.ClassFile Sem Op Lib Jvm.Free Jvm.Stand Jvm.Pilot.@@N@@.Jvm.D
/-! MADE BY PROGRAM (witnessworld.py) out of the Statement's table words and the real class files: 9 classes; the members and pool entries that the words name. The judged class is class 1, her method 1. -/
namespace start1
open Jvm.ClassFile
def u (s : String) : CpInfo := .utf8 (stringToUtf16 s)
/-- a pool by its gaps: so many unusable entries, then the entry; so many at the end -/
def gap : Nat → List CpInfo → List CpInfo
  | 0, r => r
  | n + 1, r => .unusable :: gap n r
def poolList (es : List (Nat × CpInfo)) (last : Nat) : List CpInfo := es.foldr (fun e r => gap e.1 (e.2 :: r)) (gap last [])
def pool (es : List (Nat × CpInfo)) (last : Nat) : Array CpInfo := ⟨poolList es last⟩
def fileOf (pool : Array CpInfo) (this : Nat) (attrs : Array Attribute := #[]) (ms : Array MethodInfo := #[]) (fl : Nat := 33) (sup : Nat := 0) (ifs : Array Nat := #[]) (fds : Array FieldInfo := #[]) : ClassFile where
  minorVersion := 0
  majorVersion := 65
  constantPool := pool
  accessFlags := fl
  thisClass := this
  superClass := sup
  interfaces := ifs
  fields := fds
  methods := ms
  attributes := attrs
def plain (name : String) (sup : Option ClassId) : Class where
  name := name
  kind := .ordinary
  loader := none
  accessFlags := 33
  super := sup
  interfaces := #[]
  cf := none
  fields := #[]
  methods := #[]
  instanceTypes := #[]
  staticTypes := #[]
  resolved := #[]
  callSites := []
  init := .initialized
  statics := none
  mirror := none

def pool0 : Array CpInfo := pool [(5, u "<init>"), (0, u "()V"), (1, .class_ 10), (1, u "java/lang/Object")] 113

def k0m0 : Method := { name := "<init>", desc := "()V", sig := { parameters := [], returnType := none }, accessFlags := 1, code := none }
/-- java/lang/Object -/
def k0 : Class := { plain "java/lang/Object" none with
  accessFlags := 33
  interfaces := #[]
  cf := some (fileOf pool0 8 #[] #[{ accessFlags := 1, nameIndex := 5, descriptorIndex := 6, attributes := #[] }] 33 0 #[] #[])
  fields := #[]
  methods := #[k0m0]
  instanceTypes := #[]
  staticTypes := #[]
  resolved := Array.replicate 124 none
  statics := none }

def pool1 : Array CpInfo := pool [(2, .class_ 4), (1, u "java/lang/Object"), (0, u "<init>"), (0, u "()V"), (0, .integer 2147483647), (0, .methodref 9 10), (0, .class_ 11), (0, .nameAndType 12 13), (0, u "com/example/hoptrail/hoptrail/io/Utf8"), (0, u "byteOrderMarkLength"), (0, u "([BI)I"), (0, .class_ 15), (0, u "com/example/hoptrail/hoptrail/io/Utf8ByteOrderMarkLengthPinLaw"), (2, u "law"), (0, u "(IIIIII)Z")] 5

def k1m0 : Method := { name := "<init>", desc := "()V", sig := { parameters := [], returnType := none }, accessFlags := 2, code := none }
def k1c1 : Code := { maxStack := 4, maxLocals := 12, code := code, exceptionTable := #[], attributes := #[] }
def k1m1 : Method := { name := "law", desc := "(IIIIII)Z", sig := { parameters := [.int, .int, .int, .int, .int, .int], returnType := some .boolean }, accessFlags := 9, code := some k1c1 }
/-- com/example/hoptrail/hoptrail/io/Utf8ByteOrderMarkLengthPinLaw -/
def k1 : Class := { plain "com/example/hoptrail/hoptrail/io/Utf8ByteOrderMarkLengthPinLaw" (some 0) with
  accessFlags := 49
  interfaces := #[]
  cf := some (fileOf pool1 14 #[] #[{ accessFlags := 2, nameIndex := 5, descriptorIndex := 6, attributes := #[] }, { accessFlags := 9, nameIndex := 18, descriptorIndex := 19, attributes := #[] }] 49 2 #[] #[])
  fields := #[]
  methods := #[k1m0, k1m1]
  instanceTypes := #[]
  staticTypes := #[]
  resolved := Array.replicate 25 none
  statics := none }

def pool2 : Array CpInfo := pool [(2, .class_ 4), (1, u "java/lang/Object"), (0, u "<init>"), (0, u "()V"), (1, .class_ 10), (1, u "com/example/hoptrail/hoptrail/io/Utf8"), (0, u "byteOrderMarkLength"), (0, u "([BI)I"), (0, .fieldref 8 14), (0, .nameAndType 15 16), (0, u "BYTE_ORDER_MARK"), (0, u "[B"), (67, u "CHECKED_AT_ONCE"), (0, u "I")] 11

def k2m0 : Method := { name := "<init>", desc := "()V", sig := { parameters := [], returnType := none }, accessFlags := 2, code := none }
def k2c1 : Code := { maxStack := 3, maxLocals := 3, code := prog_10_method_3_code, exceptionTable := #[], attributes := #[] }
def k2m1 : Method := { name := "byteOrderMarkLength", desc := "([BI)I", sig := { parameters := [(.array .byte), .int], returnType := some .int }, accessFlags := 8, code := some k2c1 }
/-- com/example/hoptrail/hoptrail/io/Utf8 -/
def k2 : Class := { plain "com/example/hoptrail/hoptrail/io/Utf8" (some 0) with
  accessFlags := 48
  interfaces := #[]
  cf := some (fileOf pool2 8 #[] #[{ accessFlags := 2, nameIndex := 5, descriptorIndex := 6, attributes := #[] }, { accessFlags := 8, nameIndex := 11, descriptorIndex := 12, attributes := #[] }] 48 2 #[] #[{ accessFlags := 26, nameIndex := 15, descriptorIndex := 16, attributes := #[] }, { accessFlags := 26, nameIndex := 84, descriptorIndex := 85, attributes := #[] }])
  fields := #[{ name := "BYTE_ORDER_MARK", type := (.array .byte), accessFlags := 26, slot := 0, constantValue := 0 }, { name := "CHECKED_AT_ONCE", type := .int, accessFlags := 26, slot := 1, constantValue := 0 }]
  methods := #[k2m0, k2m1]
  instanceTypes := #[]
  staticTypes := #[(.array .byte), .int]
  resolved := Array.replicate 97 none
  statics := some 0 }

def pool3 : Array CpInfo := pool [(1, u "java/lang/Cloneable"), (0, .class_ 1), (0, u "java/lang/Object"), (0, .class_ 3)] 3

/-- java/lang/Cloneable -/
def k3 : Class := { plain "java/lang/Cloneable" (some 0) with
  accessFlags := 1537
  interfaces := #[]
  cf := some (fileOf pool3 2 #[] #[] 1537 4 #[] #[])
  fields := #[]
  methods := #[]
  instanceTypes := #[]
  staticTypes := #[]
  resolved := Array.replicate 8 none
  statics := none }

def pool4 : Array CpInfo := pool [(1, u "java/io/Serializable"), (0, .class_ 1), (0, u "java/lang/Object"), (0, .class_ 3)] 3

/-- java/io/Serializable -/
def k4 : Class := { plain "java/io/Serializable" (some 0) with
  accessFlags := 1537
  interfaces := #[]
  cf := some (fileOf pool4 2 #[] #[] 1537 4 #[] #[])
  fields := #[]
  methods := #[]
  instanceTypes := #[]
  staticTypes := #[]
  resolved := Array.replicate 8 none
  statics := none }

/-- the primitive byte -/
def k5 : Class := { plain "byte" none with kind := .primitive 'B', accessFlags := 0x411 }
/-- [B -/
def k6 : Class := { plain "[B" (some 0) with kind := .array 5 .byte, interfaces := #[3, 4], accessFlags := 1041 }

/-- the primitive int -/
def k7 : Class := { plain "int" none with kind := .primitive 'I', accessFlags := 0x411 }
/-- [I -/
def k8 : Class := { plain "[I" (some 0) with kind := .array 7 .int, interfaces := #[3, 4], accessFlags := 1041 }

def heap : Heap := #[{ cls := 2, slots := #[.ref 1, .int 0], vm := .statics 2 },
  { cls := 6, slots := #[.int (-17), .int (-69), .int (-65)], vm := .none }]
def classes : Array Class := #[k0, k1, k2, k3, k4, k5, k6, k7, k8]
def interned : List (Array UInt16 × Addr) := []
def slotsUsed : Nat := 5
def theMethod : MethodId := ⟨1, 1⟩
def args0 : Array Value := #[.int 1, .int 2, .int 3, .int 4, .int 5, .int 6]
def aboutOver (below : List Frame) : State where
  vm := { classes := classes, interned := interned.toArray }
  heap := heap
  slotsUsed := slotsUsed
  threads := #[{ frames := .invoking theMethod args0 :: below }]
def below0 : List Frame := [.native { method := ⟨0, 0⟩, args := #[] }]
def about1 : State := aboutOver below0
def p0 : Program := .bare "" "" ""
def e0 : Env := launch0.env 0 0 0
theorem w_frames : about1.frames = Frame.invoking theMethod args0 :: below0 := rfl
set_option maxRecDepth 65536 in
theorem w_args : argsFit about1.vm theMethod args0 = true := by decide +kernel
set_option maxRecDepth 65536 in
theorem w_heap : heapFits about1 = true := by decide +kernel
set_option maxRecDepth 65536 in
theorem w_runnable : about1.curStatus? = some .runnable := by decide +kernel
set_option maxRecDepth 65536 in
theorem w_alone : about1.alone = true := by decide +kernel
set_option maxRecDepth 65536 in
theorem w_named : about1.methodNamed? x = some theMethod := by decide +kernel
set_option maxRecDepth 65536 in
theorem w_hears : about1.hears theMethod below0 = true := by decide +kernel
set_option maxRecDepth 65536 in
theorem w_ripe : about1.ripe theMethod args0 below0 = true := by decide +kernel
theorem w_running : about1.status = .running := rfl
set_option maxRecDepth 65536 in
theorem w_room : about1.hasRoom e0.platform room_1 = true :=
  launch0.hasRoom_least _ room_1 (by decide +kernel) (by decide +kernel) (by decide +kernel) (by decide +kernel) (by decide +kernel) (by decide +kernel)
theorem allAtoms_all (ts : List Jvm.Cond) (a : Array Jvm.Value) (st : Jvm.State) : (allAtoms ts).before a st = ts.all (fun c => c.before a st) := by
  induction ts with
  | nil => rfl
  | cons c t ih =>
    show (Jvm.Cond.and c (allAtoms t)).before a st = _
    rw [Jvm.Cond.before_and, ih, List.all_cons]
def words1 : List Jvm.Cond := Jvm.Cond.code x code maxLocals ret :: tables_1
/-- a 'code' word, met by the world's own term for the bytes: nothing is compared byte by byte -/
theorem code_word {y : MethodName} {bytes : ByteArray} {mx : Nat} {rt : Option FieldType} {a : Array Value} {s : State} {m : MethodId} {meth : Method} {c : Code} (h1 : s.methodNamed? y = some m) (h2 : s.vm.method? m = some meth) (h3 : meth.code = some c) (h4 : c.code = bytes)
    (h5 : (c.maxLocals == mx && c.exceptionTable.isEmpty && decide (c.maxStack ≤ mostOperands) && decide (meth.sig.returnType = rt) && !meth.locks && decide (parseMethodDescriptor y.desc = some meth.sig)) = true) : (Jvm.Cond.code y bytes mx rt).before a s = true := by
  simp only [Bool.and_eq_true, beq_iff_eq, Bool.not_eq_true', decide_eq_true_eq] at h5
  obtain ⟨⟨⟨⟨⟨g1, g2⟩, g3⟩, g4⟩, g5⟩, g6⟩ := h5
  simp [Cond.before, Cond.holds, Cond.value, h1, h2, h3, h4, g1, g2, g3, g4, g5, g6]
def isCode : Jvm.Cond → Bool
  | .code _ _ _ _ => true
  | _ => false
theorem all_split {L : List Jvm.Cond} {P : Jvm.Cond → Bool} (h1 : L.all (fun c => isCode c || P c) = true) (h2 : ∀ c ∈ L.filter isCode, P c = true) : L.all P = true := by
  refine List.all_eq_true.mpr fun c hc => ?_
  have h := List.all_eq_true.mp h1 c hc
  rcases Bool.eq_false_or_eq_true (isCode c) with hi | hi
  · exact h2 c (List.mem_filter.mpr ⟨hc, hi⟩)
  · simpa [hi] using h
set_option maxRecDepth 65536 in
theorem w_c0 : (Jvm.Cond.code x code maxLocals ret).before args0 about1 = true := code_word (m := ⟨1, 1⟩) (meth := k1m1) (c := k1c1) (by decide +kernel) rfl rfl rfl (by decide +kernel)
set_option maxRecDepth 65536 in
theorem w_c1 : (Jvm.Cond.code ({ cls := "com/example/hoptrail/hoptrail/io/Utf8", name := "byteOrderMarkLength", desc := "([BI)I" } : Jvm.MethodName) prog_10_method_3_code (3 : Nat) (Option.some Jvm.ClassFile.FieldType.int)).before args0 about1 = true := code_word (m := ⟨2, 1⟩) (meth := k2m1) (c := k2c1) (by decide +kernel) rfl rfl rfl (by decide +kernel)
def codes1 : List Jvm.Cond := [Jvm.Cond.code x code maxLocals ret, Jvm.Cond.code ({ cls := "com/example/hoptrail/hoptrail/io/Utf8", name := "byteOrderMarkLength", desc := "([BI)I" } : Jvm.MethodName) prog_10_method_3_code (3 : Nat) (Option.some Jvm.ClassFile.FieldType.int)]
set_option maxRecDepth 65536 in
theorem codes_eq : words1.filter isCode = codes1 := rfl
theorem w_codes : ∀ c ∈ words1.filter isCode, c.before args0 about1 = true := by
  rw [codes_eq]
  intro c hc
  simp only [codes1, List.mem_cons, List.not_mem_nil, or_false] at hc
  rcases hc with rfl | rfl
  · exact w_c0
  · exact w_c1
set_option maxRecDepth 65536 in
theorem w_t1 : words1.all (fun c => isCode c || c.before args0 about1) = true := by decide +kernel
theorem w_tables : (allAtoms (Jvm.Cond.code x code maxLocals ret :: tables_1)).before args0 about1 = true := by
  rw [allAtoms_all]
  show words1.all (fun c => c.before args0 about1) = true
  refine all_split ?_ w_codes
  rw [w_t1]
set_option maxRecDepth 65536 in
theorem w_case : (Jvm.Cond.and given_1 narrow_1).before args0 about1 = true := by decide +kernel
theorem w_applies : (headSpec (Jvm.Cond.code x code maxLocals ret :: tables_1) room_1).applies x e0.platform about1 = true :=
  (Spec.applies_iff w_frames).mpr ⟨w_running, w_runnable, w_alone, w_named, w_hears, w_ripe, w_room, w_tables⟩
theorem atStart : AtStart classFile x code maxLocals ret World_1 tables_1 room_1 Calls_1 rest_1 Pre_1 launch0 p0 e0 about1 theMethod args0 below0 :=
  ⟨lists_1, trivial, launch0.admits_env _ _ _, launch0.least_env, fairChoices_fair.cas, fairChoices_fair.clock, w_frames, w_args, w_heap, w_applies, trivial, trivial, w_case⟩
end start1
theorem witness_1 : WitnessClaimed_1 := ⟨start1.p0, start1.e0, start1.about1, start1.theMethod, start1.args0, start1.below0, start1.atStart⟩
end Jvm.Pilot.@@N@@
