import JvmDerived
import JvmDerived.Pilot.@@N@@Statement
import JvmDerived.Pilot.@@N@@Code
set_option linter.unusedVariables false
set_option linter.unusedSimpArgs false
namespace Jvm.Pilot.@@N@@
open Jvm Jvm.ClassFile Sem Op Lib Jvm.Free Jvm.Stand Jvm.LawKit Jvm.RoadKit Bundle Jvm.Pilot.@@N@@.Jvm.D
def own_Go (tb : Tables) (e : Env) (below : List Frame) (G : State → Outcome → Prop) (s : State) : Prop := ∃ s₂ o, Steps tb e below s s₂ ∧ s₂.status = .running ∧ Ended s₂ below o ∧ G s₂ o
theorem own_up {tb : Tables} {e : Env} {below : List Frame} {G : State → Outcome → Prop} {s s' : State} (f : ∀ t, Steps tb e below s' t → Steps tb e below s t) (h : own_Go tb e below G s') : own_Go tb e below G s := by
  obtain ⟨s₂, o, h1, h2⟩ := h
  exact ⟨s₂, o, f _ h1, h2⟩
theorem own_selp {s : State} {args : Array Value} {y : MethodName} {n : Nat} (hi : (Cond.instantiable y.cls n).before args s = true) (hp : s.PrivateAt y) (hinst : (Cond.instanceMethod y).before args s = true) (hy : y.cls ≠ "java/lang/invoke/MethodHandle" ∧ y.cls ≠ "java/lang/invoke/VarHandle") : (Cond.selects y.cls y y).before args s = true := by
  obtain ⟨c, k, h1, h2, -, h4, -, -⟩ := Cond.instantiable_spec hi
  rw [Bool.or_eq_false_iff] at h4
  exact selects_self_of_private h1 h2 h4.1 hp hinst hy
theorem own_end {p : Program} {l : Launch} {e : Env} {R : Room} {s : State} {m : MethodId} {args : Array Value} {below : List Frame} {meth : Method} {c : Code} {T : State} {locs : List Loc} {cells slots : Nat} (X : Stand p l e R s m args below meth c T locs cells slots) (hlocks : meth.locks = false) {v : Option Value} (hv : meth.sig.returnType = none → v = none) {g : JFrame}
    (step : ∀ fs, (∀ (f : JFrame) (acts : List Action), f.method = m → f.locked = none → f.entered = [] → (doReturn e (T.setTop f) acts v).1 = T.setFrames fs) → Steps p.tables e below (T.setTop g) (T.setFrames fs)) {h : Heap} (eT : T.heap = h) {Q : Option Value → Heap → List Loc → Prop} {kc ks : Nat} (hQ : Q v h locs) (hc : cells ≤ kc) (hs : slots ≤ ks) :
    own_Go p.tables e below (fun u o => ∃ v L, o = .returned v ∧ Q v u.heap L ∧ FrameEnd s o u L kc ks) (T.setTop g) := by
  obtain ⟨fs, hr, hrun, hended, hW, hsame⟩ := X.leave (v := v) hv hlocks
  subst eT
  exact ⟨_, _, step fs hr, hrun, hended, _, _, rfl, hQ, ⟨_, rfl⟩, hW, hsame.mono hc hs⟩
open Jvm.Free.Fl
open Jvm.Free.Hsc.MRound (bexp shOf sigOf shrOf halfOf roundOf)
theorem own_dec (n : Nat) : FP.Core.decode FP.Core.b64 n = if n / 4503599627370496 % 2048 = 2047 then (if n % 4503599627370496 = 0 then .inf (FP.Core.fieldS FP.Core.b64 n) else .nan) else if n / 4503599627370496 % 2048 = 0 then .fin (FP.Core.fieldS FP.Core.b64 n) (n % 4503599627370496) (-1074) else .fin (FP.Core.fieldS FP.Core.b64 n) (4503599627370496 + n % 4503599627370496) (-1074 + (((n / 4503599627370496 % 2048 : Nat) : Int) - 1)) := rfl
theorem own_abs (b : UInt64) : (b &&& 0x7fffffffffffffff).toNat = b.toNat % 9223372036854775808 := by
  rw [UInt64.toNat_and]
  exact Nat.and_two_pow_sub_one_eq_mod b.toNat 63
theorem own_absS (n : Nat) : FP.Core.fieldS FP.Core.b64 (n % 9223372036854775808) = false := by
  show (n % 9223372036854775808 / 4503599627370496 / 2048 % 2 == 1) = false
  have h : n % 9223372036854775808 / 4503599627370496 / 2048 = 0 := by omega
  rw [h]; rfl
theorem own_big : FP.Core.decode FP.Core.b64 (4890909195324358656 : UInt64).toNat = .fin false 4503599627370496 11 := by decide +kernel
theorem own_cmpd (a b : Int) : compare a b = if a < b then .lt else if a = b then .eq else .gt := rfl
theorem own_cmpi (a b : Int) : FP.cmpInt 1 (some (compare a b)) < 0 ↔ a < b := by
  rw [own_cmpd]
  by_cases h : a < b
  · rw [if_pos h]; exact ⟨fun _ => h, fun _ => by decide⟩
  · rw [if_neg h]
    by_cases h2 : a = b
    · rw [if_pos h2]; exact ⟨fun q => absurd q (by decide), fun q => absurd q h⟩
    · rw [if_neg h2]; exact ⟨fun q => absurd q (by decide), fun q => absurd q h⟩
theorem own_ord (c : Nat) (q : Int) (hc : c < 9007199254740992) (hq : 11 ≤ q → 4503599627370496 ≤ c) : FP.cmpInt 1 (FP.Core.order (.fin false c q) (.fin false 4503599627370496 11)) < 0 ↔ q ≤ 10 := by
  show FP.cmpInt 1 (some (compare ((c * 2 ^ (q - min q 11).toNat : Nat) : Int) ((4503599627370496 * 2 ^ (11 - min q 11).toNat : Nat) : Int))) < 0 ↔ _
  rw [own_cmpi, Int.ofNat_lt]
  by_cases h : q ≤ 10
  · rw [show min q 11 = q from by omega, show (q - q).toNat = 0 from by omega]
    have e : 2 ^ 1 ≤ 2 ^ (11 - q).toNat := Nat.pow_le_pow_right (by decide) (by omega)
    refine ⟨fun _ => h, fun _ => ?_⟩
    generalize 2 ^ (11 - q).toNat = P at e ⊢
    omega
  · rw [show min q 11 = 11 from by omega, show ((11 : Int) - 11).toNat = 0 from by omega]
    have e : 2 ^ 0 ≤ 2 ^ (q - 11).toNat := Nat.pow_le_pow_right (by decide) (by omega)
    have hq2 := hq (by omega)
    refine ⟨fun k => ?_, fun k => absurd k h⟩
    exfalso
    have m : c * 2 ^ 0 ≤ c * 2 ^ (q - 11).toNat := Nat.mul_le_mul_left c e
    generalize c * 2 ^ (q - 11).toNat = P at k m
    omega
theorem own_nn {b : UInt64} (h : NoNaN64 b) : b.toNat / 4503599627370496 % 2048 = 2047 → b.toNat % 4503599627370496 = 0 := by
  intro h1
  have h' : (b &&& 0x7fffffffffffffff).toNat ≤ 9218868437227405312 := h
  rw [own_abs] at h'
  omega
theorem own_lt63 {b : UInt64} (hn : NoNaN64 b) : cmpValue (FP.dcmp (b &&& 0x7fffffffffffffff) 4890909195324358656) .g < 0 ↔ b.toNat / 4503599627370496 % 2048 ≤ 1085 := by
  rw [cmpV_g]
  show FP.cmpInt 1 (FP.Core.order (FP.Core.decode FP.Core.b64 (b &&& 0x7fffffffffffffff).toNat) (FP.Core.decode FP.Core.b64 (4890909195324358656 : UInt64).toNat)) < 0 ↔ _
  rw [own_big, own_abs, own_dec, own_absS]
  rw [show b.toNat % 9223372036854775808 / 4503599627370496 % 2048 = b.toNat / 4503599627370496 % 2048 from by omega, show b.toNat % 9223372036854775808 % 4503599627370496 = b.toNat % 4503599627370496 from by omega]
  by_cases h1 : b.toNat / 4503599627370496 % 2048 = 2047
  · rw [if_pos h1, if_pos (own_nn hn h1)]
    refine ⟨fun q => absurd q (by decide), fun q => by omega⟩
  · rw [if_neg h1]
    by_cases h0 : b.toNat / 4503599627370496 % 2048 = 0
    · rw [if_pos h0, own_ord _ _ (by omega) (by omega)]; omega
    · rw [if_neg h0, own_ord _ _ (by omega) (by omega)]; omega
/-- what the bits' exponent is -/
theorem own_bexp (b : UInt64) : (bexp b).toInt = (b.toNat / 4503599627370496 % 2048 : Nat) := by
  have e : bexp b = (b.toInt64 &&& 9218868437227405312) >>> (((52 : Int32) &&& 0x3f).toInt64) := rfl
  rw [e, c_lshr _ 52 52 (by decide)]
  have h1 : (b.toInt64 &&& 9218868437227405312).toInt = ((b.toNat &&& 9218868437227405312 : Nat) : Int) := by
    have h2 : (b.toInt64 &&& 9218868437227405312).toBitVec.toNat = b.toNat &&& 9218868437227405312 := by
      rw [Int64.toBitVec_and, BitVec.toNat_and]; rfl
    have h3 : b.toNat &&& 9218868437227405312 ≤ 9218868437227405312 := Nat.and_le_right
    show (b.toInt64 &&& 9218868437227405312).toBitVec.toInt = _
    rw [BitVec.toInt_eq_toNat_of_lt (by omega), h2]
  rw [h1]
  have h4 : (b.toNat &&& 9218868437227405312) / 2 ^ 52 = b.toNat / 4503599627370496 % 2048 := by
    rw [← Nat.shiftRight_eq_div_pow, Nat.shiftRight_and_distrib, Nat.shiftRight_eq_div_pow]
    exact Nat.and_two_pow_sub_one_eq_mod _ 11
  show ((b.toNat &&& 9218868437227405312 : Nat) : Int) / ((2 ^ 52 : Nat) : Int) = _
  rw [← Int.natCast_ediv, h4]
theorem own_sh (b : UInt64) : (shOf b).toInt = 1074 - (b.toNat / 4503599627370496 % 2048 : Nat) := by
  have h := c_lsub 1074 (bexp b)
  have r := rng64 (1074 - bexp b)
  rw [own_bexp, show (1074 : Int64).toInt = 1074 from by decide] at h
  show (1074 - bexp b).toInt = _
  omega
theorem own_and64 (n : Nat) (h : n < 18446744073709551616) : n &&& 18446744073709551552 = n / 64 * 64 := by
  have d : (n &&& 18446744073709551552) / 2 ^ 6 = n / 64 := by
    rw [← Nat.shiftRight_eq_div_pow, Nat.shiftRight_and_distrib, Nat.shiftRight_eq_div_pow]
    have q := Nat.and_two_pow_sub_one_eq_mod (n / 2 ^ 6) 58
    rw [show (18446744073709551552 : Nat) >>> 6 = 2 ^ 58 - 1 from by decide, q]
    omega
  have m : (n &&& 18446744073709551552) % 2 ^ 6 = 0 := by
    rw [Nat.and_mod_two_pow, show (18446744073709551552 : Nat) % 2 ^ 6 = 0 from by decide, Nat.and_zero]
  omega
theorem own_64 (x : Int64) : x &&& (-64) = 0 ↔ 0 ≤ x.toInt ∧ x.toInt ≤ 63 := by
  have e : (x &&& (-64)).toBitVec.toNat = x.toBitVec.toNat / 64 * 64 := by
    rw [Int64.toBitVec_and, BitVec.toNat_and]
    exact own_and64 _ x.toBitVec.isLt
  have t : x.toInt = if 2 * x.toBitVec.toNat < 2 ^ 64 then (x.toBitVec.toNat : Int) else (x.toBitVec.toNat : Int) - (2 ^ 64 : Nat) := BitVec.toInt_eq_toNat_cond _
  have l := x.toBitVec.isLt
  have z : x &&& (-64) = 0 ↔ (x &&& (-64)).toBitVec.toNat = 0 := ⟨fun q => by rw [q]; rfl, fun q => Int64.toBitVec_inj.mp (BitVec.eq_of_toNat_eq q)⟩
  rw [z, e, t]
  split <;> omega
theorem own_sig (b : UInt64) : 0 ≤ (sigOf b).toInt ∧ (sigOf b).toInt < 9007199254740992 := by
  have h := c_maskL b.toInt64 4503599627370495 52 (by decide) (by decide)
  have h2 := c_orL' (b.toInt64 &&& 4503599627370495) 4503599627370496 52 (by decide) 4503599627370496 (by decide) (by decide)
  have r := rng64 (sigOf b)
  have e : (4503599627370496 : Int64).toInt = 4503599627370496 := by decide
  rw [e] at h2
  have h3 := h2 (by omega) (by omega)
  have r' : (sigOf b).toInt = ((b.toInt64 &&& 4503599627370495) ||| 4503599627370496).toInt := rfl
  omega
theorem own_shr (x : Int64) (y : Int64) : (0 ≤ x.toInt → 0 ≤ (x >>> (y &&& 63)).toInt ∧ (x >>> (y &&& 63)).toInt ≤ x.toInt) ∧ (x.toInt < 0 → x.toInt ≤ (x >>> (y &&& 63)).toInt ∧ (x >>> (y &&& 63)).toInt < 0) := by
  have e : ∃ k : Nat, (x >>> (y &&& 63)).toInt = x.toInt / (2 ^ k : Nat) := by
    refine ⟨((y &&& 63).toBitVec.smod 64).toNat, ?_⟩
    show (x.toBitVec.sshiftRight _).toInt = _
    rw [BitVec.toInt_sshiftRight, Int.shiftRight_eq_div_pow]
    rfl
  obtain ⟨k, e⟩ := e
  rw [e]
  have hp : (0 : Int) < (2 ^ k : Nat) := by have := Nat.two_pow_pos k; omega
  constructor
  · intro h
    exact ⟨Int.ediv_nonneg h (by omega), Int.ediv_le_self _ h⟩
  · intro h
    refine ⟨?_, Int.ediv_neg_of_neg_of_pos h hp⟩
    have h1 := Int.emod_add_mul_ediv x.toInt ((2 ^ k : Nat) : Int)
    have h2 := Int.emod_nonneg x.toInt (show ((2 ^ k : Nat) : Int) ≠ 0 by omega)
    have h3 := Int.emod_lt_of_pos x.toInt hp
    have h4 := Int.ediv_neg_of_neg_of_pos h hp
    generalize x.toInt / ((2 ^ k : Nat) : Int) = d at *
    generalize ((2 ^ k : Nat) : Int) = P at *
    have h5 : (P - 1) * d ≤ (P - 1) * (-1) := Int.mul_le_mul_of_nonneg_left (by omega) (by omega)
    rw [Int.sub_mul, Int.one_mul] at h5
    omega
theorem own_half (b : UInt64) (r : Int64) (h1 : -9007199254740992 < r.toInt) (h2 : r.toInt < 9007199254740992) : -9007199254740993 < (halfOf b r).toInt ∧ (halfOf b r).toInt < 9007199254740993 := by
  have s1 := own_shr r (shOf b).toInt32.toInt64
  have e1 : shrOf b r = r >>> ((shOf b).toInt32.toInt64 &&& 63) := rfl
  rw [← e1] at s1
  have a1 := c_ladd (shrOf b r) 1
  have r1 := rng64 (shrOf b r + 1)
  rw [show (1 : Int64).toInt = 1 from by decide] at a1
  have s2 := own_shr (shrOf b r + 1) 1
  have e2 : halfOf b r = (shrOf b r + 1) >>> ((1 : Int64) &&& 63) := rfl
  rw [← e2] at s2
  omega
theorem own_ofInt (v : Int) (h1 : -9223372036854775808 ≤ v) (h2 : v ≤ 9223372036854775807) : (Int64.ofInt v = (9223372036854775807 : Int64) ∨ Int64.ofInt v = (-9223372036854775808 : Int64)) ↔ (v = 9223372036854775807 ∨ v = -9223372036854775808) := by
  have e : (Int64.ofInt v).toInt = v := by
    rw [Int64.toInt_ofInt]; show v.bmod 18446744073709551616 = v; exact Int.bmod_eq_of_le (by omega) (by omega)
  rw [← Int64.toInt_inj, ← Int64.toInt_inj, e, show (9223372036854775807 : Int64).toInt = 9223372036854775807 from by decide, show (-9223372036854775808 : Int64).toInt = -9223372036854775808 from by decide]
theorem own_toL (s : Bool) (c : Nat) (q : Int) (hc : c < 9007199254740992) (hq : 11 ≤ q → 4503599627370496 ≤ c) : (FP.Core.toL (.fin s c q) = (9223372036854775807 : Int64) ∨ FP.Core.toL (.fin s c q) = (-9223372036854775808 : Int64)) ↔ 11 ≤ q := by
  show (Int64.ofInt (max (-9223372036854775808) (min 9223372036854775807 (FP.Core.signed s (c * 2 ^ q.toNat / 2 ^ (-q).toNat)))) = _ ∨ Int64.ofInt (max (-9223372036854775808) (min 9223372036854775807 (FP.Core.signed s (c * 2 ^ q.toNat / 2 ^ (-q).toNat)))) = _) ↔ _
  have key : (11 ≤ q → 9223372036854775808 ≤ c * 2 ^ q.toNat / 2 ^ (-q).toNat) ∧ (¬ 11 ≤ q → c * 2 ^ q.toNat / 2 ^ (-q).toNat ≤ 9223372036854774784) := by
    by_cases h0 : 0 ≤ q
    · rw [show (-q).toNat = 0 from by omega, Nat.pow_zero, Nat.div_one]
      constructor
      · intro h
        have e : 2 ^ 11 ≤ 2 ^ q.toNat := Nat.pow_le_pow_right (by decide) (by omega)
        have m := Nat.mul_le_mul (hq h) e
        generalize c * 2 ^ q.toNat = P at m ⊢
        omega
      · intro h
        have e : 2 ^ q.toNat ≤ 2 ^ 10 := Nat.pow_le_pow_right (by decide) (by omega)
        have m := Nat.mul_le_mul (show c ≤ 9007199254740991 by omega) e
        generalize c * 2 ^ q.toNat = P at m ⊢
        omega
    · refine ⟨fun h => by omega, fun _ => ?_⟩
      rw [show q.toNat = 0 from by omega, Nat.pow_zero, Nat.mul_one]
      have m := Nat.div_le_self c (2 ^ (-q).toNat)
      generalize c / 2 ^ (-q).toNat = P at m ⊢
      omega
  generalize c * 2 ^ q.toNat / 2 ^ (-q).toNat = P at key ⊢
  rw [own_ofInt _ (by omega) (by omega)]
  cases s
  · rw [show FP.Core.signed false P = (P : Int) from rfl]
    by_cases h : 11 ≤ q
    · have := key.1 h; omega
    · have := key.2 h; omega
  · rw [show FP.Core.signed true P = -(P : Int) from rfl]
    by_cases h : 11 ≤ q
    · have := key.1 h; omega
    · have := key.2 h; omega
theorem own_d2l {b : UInt64} (hn : NoNaN64 b) : (FP.d2l b = (9223372036854775807 : Int64) ∨ FP.d2l b = (-9223372036854775808 : Int64)) ↔ ¬ b.toNat / 4503599627370496 % 2048 ≤ 1085 := by
  show (FP.Core.toL (FP.Core.decode FP.Core.b64 b.toNat) = _ ∨ FP.Core.toL (FP.Core.decode FP.Core.b64 b.toNat) = _) ↔ _
  rw [own_dec]
  by_cases h1 : b.toNat / 4503599627370496 % 2048 = 2047
  · rw [if_pos h1, if_pos (own_nn hn h1)]
    refine ⟨fun _ => by omega, fun _ => ?_⟩
    cases FP.Core.fieldS FP.Core.b64 b.toNat
    · left; decide
    · right; decide
  · rw [if_neg h1]
    by_cases h0 : b.toNat / 4503599627370496 % 2048 = 0
    · rw [if_pos h0, own_toL _ _ _ (by omega) (by omega)]; omega
    · rw [if_neg h0, own_toL _ _ _ (by omega) (by omega)]; omega
/-- Math.round's answer is an end of long just where the magnitude isn't below 2^63 -/
theorem own_round {b : UInt64} (hn : NoNaN64 b) : (roundOf b = (9223372036854775807 : Int64) ∨ roundOf b = (-9223372036854775808 : Int64)) ↔ ¬ cmpValue (FP.dcmp (b &&& 0x7fffffffffffffff) 4890909195324358656) .g < 0 := by
  rw [own_lt63 hn]
  have hs := own_sh b
  by_cases hz : shOf b &&& (-64) = 0
  · have h := (own_64 _).mp hz
    have hsig := own_sig b
    have big : ∀ r : Int64, -9007199254740992 < r.toInt → r.toInt < 9007199254740992 → ¬ (halfOf b r = (9223372036854775807 : Int64) ∨ halfOf b r = (-9223372036854775808 : Int64)) := by
      intro r q1 q2 q
      have hh := own_half b r q1 q2
      rcases q with q | q
      · rw [q, show (9223372036854775807 : Int64).toInt = 9223372036854775807 from by decide] at hh; omega
      · rw [q, show (-9223372036854775808 : Int64).toInt = -9223372036854775808 from by decide] at hh; omega
    have e : roundOf b = if b.toInt64 < 0 then halfOf b (-(sigOf b)) else halfOf b (sigOf b) := if_pos hz
    refine ⟨fun q => ?_, fun q => by omega⟩
    exfalso
    rw [e] at q
    by_cases hl : b.toInt64 < 0
    · rw [if_pos hl] at q
      have n1 := c_lneg (sigOf b)
      have r1 := rng64 (-(sigOf b))
      exact big _ (by omega) (by omega) q
    · rw [if_neg hl] at q
      exact big _ (by omega) (by omega) q
  · have e : roundOf b = FP.d2l b := if_neg hz
    rw [e]; exact own_d2l hn

theorem own_topB (y : BitVec 64) : y ^^^ y.sshiftRight 63 = 0x7fffffffffffffff#64 ↔ y = 0x7fffffffffffffff#64 ∨ y = 0x8000000000000000#64 := by
  have hz : ∀ z : BitVec 64, z.msb = false → z >>> 63 = 0#64 := fun z hm => by
    apply BitVec.eq_of_toNat_eq
    have h := BitVec.msb_eq_false_iff_two_mul_lt.mp hm
    rw [BitVec.toNat_ushiftRight, Nat.shiftRight_eq_div_pow]
    have : z.toNat < 2 ^ 63 := by omega
    exact Nat.div_eq_of_lt this
  cases hm : y.msb with
  | false =>
    rw [BitVec.sshiftRight_eq_of_msb_false hm, hz y hm, BitVec.xor_zero]
    refine ⟨Or.inl, fun q => q.elim id fun q => ?_⟩
    rw [q] at hm
    exact absurd hm (by decide)
  | true =>
    have hm' : (~~~y).msb = false := by rw [BitVec.msb_not, hm]; rfl
    have e : y.sshiftRight 63 = BitVec.allOnes 64 := by
      rw [BitVec.sshiftRight_eq_of_msb_true hm, hz _ hm']; rfl
    rw [e, BitVec.xor_allOnes]
    refine ⟨fun q => Or.inr ?_, fun q => q.elim (fun q => ?_) (fun q => ?_)⟩
    · rw [← BitVec.not_not (b := y), q]; rfl
    · rw [q] at hm; exact absurd hm (by decide)
    · rw [q]; rfl
theorem own_top (x : Int64) : (x ^^^ (x >>> (((63 : Int32) &&& 0x3f).toInt64))) = (9223372036854775807 : Int64) ↔ x = (9223372036854775807 : Int64) ∨ x = (-9223372036854775808 : Int64) := by
  have e : ((63 : Int32) &&& 0x3f).toInt64 = 63 := by decide
  rw [e, ← Int64.toBitVec_inj, ← Int64.toBitVec_inj, ← Int64.toBitVec_inj]
  exact own_topB x.toBitVec
theorem own_b53 (x : Int32) : B53 x.toInt64 := by
  have r := rng32 x
  have h := c_i2l x
  exact ⟨by omega, by omega⟩
theorem own_fin (a b : Int32) : Fin64 (FP.dmul (FP.i2d a) (FP.i2d b)) := by
  rw [i2d_w, i2d_w]
  by_cases h : a.toInt64 = 0 ∨ b.toInt64 = 0
  · rw [dmul_z (own_b53 a) (own_b53 b) h]
    split
    · unfold Fin64; decide
    · exact l2d_fin 0
  · have ra := rng32 a
    have rb := rng32 b
    have ha := c_i2l a
    have hb := c_i2l b
    have n1 : (a.toInt * b.toInt).natAbs ≤ 2147483648 * 2147483648 := by
      rw [Int.natAbs_mul]
      exact Nat.mul_le_mul (by omega) (by omega)
    rw [dmul_w (own_b53 a) (own_b53 b) (fun q => h (Or.inl q)) (fun q => h (Or.inr q)) (by rw [ha, hb]; omega) (by rw [ha, hb]; omega)]
    exact l2d_fin _
theorem own_v (a b : Int32) : NoNaN64 (FP.dmul (FP.i2d a) (FP.i2d b)) ∧ NoNaN64 (FP.dmul (FP.dmul (FP.i2d a) (FP.i2d b)) (4696837146684686336 : UInt64)) := by
  refine ⟨?_, dmul_out (own_fin a b) (by unfold Fin64; decide)⟩
  rw [i2d_w, i2d_w]
  exact dmul_out (l2d_fin _) (l2d_fin _)
theorem own_roundB {l : Launch} {R : Room} {p : Program} {e : Env} {below : List Frame} {s : State} {sargs : Array Value} {len W : Nat} {h : Heap} (g : UInt64) (hfr : 2 ≤ R.frames) (hlo : W + (10 + 11) + 40 ≤ R.locals) (htab : Jvm.Free.Hsc.MRound.tab.before sargs s = true) (hini : (Cond.initialized "java/lang/Math").before sargs s = true) :
    Back l R p e below s sargs (⟨"java/lang/Math", "round", "(D)J"⟩ : MethodName) len W (fun A a => a = #[.double g] ∧ A.U.heap = h ∧ A.cells + 0 ≤ R.cells ∧ A.slots + 0 ≤ R.slots)
      (fun A _ v B => ∃ L, (v = some (.long (roundOf g)) ∧ L = [] ∧ B.U.heap = h) ∧ B.locs = A.locs ++ L ∧ B.cells = A.cells + 0 ∧ B.slots = A.slots + 0) := by
  intro m meth c A gf ig mk a' X hg hsize hdg hW hnamed ⟨ha, hh, hc, hs⟩
  obtain ⟨v, B, XB, ⟨⟨b1, b2, b3, b4⟩, hv⟩, st⟩ := Jvm.Free.Hsc.MRound.pays (len := len) (W := W) hfr hlo htab hini m meth c A gf ig mk a' X hg hsize hdg hW hnamed ⟨hc, hs, g, ha⟩
  exact ⟨v, B, XB, ⟨[], ⟨hv g ha, rfl, b1.trans hh⟩, by rw [List.append_nil]; exact b2, b3, b4⟩, st⟩
theorem own_absB {l : Launch} {R : Room} {p : Program} {e : Env} {below : List Frame} {s : State} {sargs : Array Value} {len W : Nat} {h : Heap} (g : UInt64) (hn : NoNaN64 g) (hcode : (Cond.code (⟨"java/lang/Math", "abs", "(D)D"⟩ : MethodName) jdk_29_method_64_code 2 (some .double)).before sargs s = true) (hfr : 1 ≤ R.frames) (hlo : W + 13 ≤ R.locals) :
    Back l R p e below s sargs (⟨"java/lang/Math", "abs", "(D)D"⟩ : MethodName) len W (fun A a => a = #[.double g] ∧ A.U.heap = h ∧ A.cells + 0 ≤ R.cells ∧ A.slots + 0 ≤ R.slots)
      (fun A _ v B => ∃ L, (v = some (.double (g &&& 0x7fffffffffffffff)) ∧ L = [] ∧ B.U.heap = h) ∧ B.locs = A.locs ++ L ∧ B.cells = A.cells + 0 ∧ B.slots = A.slots + 0) := by
  intro m meth c A gf ig mk a' X hg hsize hdg hW hnamed ⟨ha, hh, hc, hs⟩
  have hcode' : (Cond.code Jvm.Free.Fl.Abs.absDN Jvm.Free.Fl.Abs.absDCode 2 (some .double)).before sargs s = true := hcode
  obtain ⟨v, B, XB, ⟨hv, hB⟩, st⟩ := Jvm.Free.Fl.Abs.absD_pays (len := len) (W := W) g hcode' hfr hlo m meth c A gf ig mk a' X hg hsize hdg hW hnamed ⟨hc, hs, ha, hn⟩
  subst hB
  exact ⟨v, _, XB, ⟨[], ⟨hv, rfl, hh⟩, by rw [List.append_nil], rfl, rfl⟩, st⟩
theorem own_tab {Z s : State} {a0 args : Array Value} (hZ : Z.Warmed39 s.vm) (hw : ∀ d ∈ tables_1, d.before a0 Z = true) : Jvm.Free.Hsc.MRound.tab.before args s = true := by
  unfold Jvm.Free.Hsc.MRound.tab
  simp only [Cond.before_and, Bool.and_eq_true]
  exact ⟨mvT hZ (hw _ (List.mem_of_getElem? (i := 19) rfl)), mvT hZ (hw _ (List.mem_of_getElem? (i := 20) rfl)), mvT hZ (hw _ (List.mem_of_getElem? (i := 23) rfl)), mvT hZ (hw _ (List.mem_of_getElem? (i := 21) rfl)), mvT hZ (hw _ (List.mem_of_getElem? (i := 22) rfl)), mvT hZ (hw _ (List.mem_of_getElem? (i := 24) rfl)), mvT hZ (hw _ (List.mem_of_getElem? (i := 25) rfl)), mvT hZ (hw _ (List.mem_of_getElem? (i := 26) rfl)), mvT hZ (hw _ (List.mem_of_getElem? (i := 34) rfl)), mvT hZ (hw _ (List.mem_of_getElem? (i := 35) rfl))⟩
theorem d_m_2_0 : decode method_2_code 0 = .ok (.iload_n 2, 1) := by decide +kernel
theorem d_m_2_1 : decode method_2_code 1 = .ok (.bipush 7, 2) := by decide +kernel
theorem d_m_2_3 : decode method_2_code 3 = .ok (.iand, 1) := by decide +kernel
theorem d_m_2_4 : decode method_2_code 4 = .ok (.istore_n 3, 1) := by decide +kernel
theorem d_m_2_5 : decode method_2_code 5 = .ok (.iload_n 3, 1) := by decide +kernel
theorem d_m_2_6 : decode method_2_code 6 = .ok (.ifCond .ne 7, 3) := by decide +kernel
theorem d_m_2_9 : decode method_2_code 9 = .ok (.ldc2_w 9, 3) := by decide +kernel
theorem d_m_2_12 : decode method_2_code 12 = .ok (.lreturn, 1) := by decide +kernel
theorem d_m_2_13 : decode method_2_code 13 = .ok (.iload_n 3, 1) := by decide +kernel
theorem d_m_2_14 : decode method_2_code 14 = .ok (.iconst 1, 1) := by decide +kernel
theorem d_m_2_15 : decode method_2_code 15 = .ok (.if_icmp .ne 7, 3) := by decide +kernel
theorem d_m_2_18 : decode method_2_code 18 = .ok (.ldc2_w 11, 3) := by decide +kernel
theorem d_m_2_21 : decode method_2_code 21 = .ok (.lreturn, 1) := by decide +kernel
theorem d_m_2_22 : decode method_2_code 22 = .ok (.iload_n 3, 1) := by decide +kernel
theorem d_m_2_23 : decode method_2_code 23 = .ok (.iconst 2, 1) := by decide +kernel
theorem d_m_2_24 : decode method_2_code 24 = .ok (.if_icmp .ne 7, 3) := by decide +kernel
theorem d_m_2_27 : decode method_2_code 27 = .ok (.ldc2_w 13, 3) := by decide +kernel
theorem d_m_2_30 : decode method_2_code 30 = .ok (.lreturn, 1) := by decide +kernel
theorem d_m_2_31 : decode method_2_code 31 = .ok (.iload_n 3, 1) := by decide +kernel
theorem d_m_2_32 : decode method_2_code 32 = .ok (.iconst 3, 1) := by decide +kernel
theorem d_m_2_33 : decode method_2_code 33 = .ok (.if_icmp .ne 7, 3) := by decide +kernel
theorem d_m_2_36 : decode method_2_code 36 = .ok (.ldc2_w 15, 3) := by decide +kernel
theorem d_m_2_39 : decode method_2_code 39 = .ok (.lreturn, 1) := by decide +kernel
theorem d_m_2_40 : decode method_2_code 40 = .ok (.iload_n 3, 1) := by decide +kernel
theorem d_m_2_41 : decode method_2_code 41 = .ok (.iconst 4, 1) := by decide +kernel
theorem d_m_2_42 : decode method_2_code 42 = .ok (.if_icmp .ne 5, 3) := by decide +kernel
theorem d_m_2_45 : decode method_2_code 45 = .ok (.lconst 0, 1) := by decide +kernel
theorem d_m_2_46 : decode method_2_code 46 = .ok (.lreturn, 1) := by decide +kernel
theorem d_m_2_47 : decode method_2_code 47 = .ok (.iload_n 3, 1) := by decide +kernel
theorem d_m_2_48 : decode method_2_code 48 = .ok (.iconst 5, 1) := by decide +kernel
theorem d_m_2_49 : decode method_2_code 49 = .ok (.if_icmp .ne 7, 3) := by decide +kernel
theorem d_m_2_52 : decode method_2_code 52 = .ok (.ldc2_w 17, 3) := by decide +kernel
theorem d_m_2_55 : decode method_2_code 55 = .ok (.lreturn, 1) := by decide +kernel
theorem d_m_2_56 : decode method_2_code 56 = .ok (.lload_n 0, 1) := by decide +kernel
theorem d_m_2_57 : decode method_2_code 57 = .ok (.lreturn, 1) := by decide +kernel
theorem own_pn0 : plainName "com/example/querygraft/querygraft/format/MillionthsBeyondPinLaw" = true := by first | (simp [plainName, overriddenIn]; done) | decide +kernel
theorem ef_rm1 (m : MethodId) (y0 : Int64) (y1 : Int32) : entryFrame m #[(.long y0), (.int y1)] 4 = mkF m 0 #[.val (.long y0), .second, .val (.int y1), .unset] [] := by first | (simp [entryFrame, mkF, argsToLocals, Value.category]; done) | rfl
def Q_rm1 (Z : State) (px : Int64) (pq : Int32) (h0 : Heap) (n0 : Nat) (v : Option Value) (h : Heap) (L : List Loc) : Prop := ∃ (mm : Int64), v = some (.long mm) ∧ Fr n0 L ∧ h = h0
set_option maxRecDepth 65536 in
set_option maxHeartbeats 40000000 in
theorem rm1 (l : Launch) (Z : State) (a0 : Array Value) (hw : ∀ d ∈ tables_1, d.before a0 Z = true) (ws : List Jvm.Cond) (px : Int64) (pq : Int32) (h0 : Heap) (n0 : Nat) (Z0 : n0 ≤ h0.size) :
    MetFree l (⟨"com/example/querygraft/querygraft/format/MillionthsBeyondPinLaw", "pick", "(JI)J"⟩ : MethodName) (head1 (Jvm.Cond.code (⟨"com/example/querygraft/querygraft/format/MillionthsBeyondPinLaw", "pick", "(JI)J"⟩ : MethodName) method_2_code 4 (some .long) :: ws) ({ frames := 0, cells := 0, slots := 0, locals := 0 } : Room)) (fun ar U => ar = #[(.long px), (.int pq)] ∧ Z.Warmed39 U.vm ∧ U.heap = h0) (fun _ _ _ _ _ => True) (fun _ U o U' => ∃ v L, o = .returned v ∧ Q_rm1 Z px pq h0 n0 v U'.heap L ∧ FrameEnd U o U' L ({ frames := 0, cells := 0, slots := 0, locals := 0 } : Room).cells ({ frames := 0, cells := 0, slots := 0, locals := 0 } : Room).slots) := by
  refine MetFree.of_bodySF (plainFor_of_name own_pn0) hisR ?_
  intro p e s m args below meth c s₁ Bd hml0 hP hK
  obtain ⟨rfl, hZ, hh⟩ := hP
  have hx := Bd.exec
  have hby := Bd.bytes
  have hlk : meth.locks = false := BodyLoose.notSynchronized Bd
  have hml : c.maxLocals = 4 := hml0
  have hown : s.vm.findClass "com/example/querygraft/querygraft/format/MillionthsBeyondPinLaw" = some m.cls := findClass_of_methodNamed Bd.named
  have hnm := (name_of_methodNamed Bd.named Bd.method).1
  have X0 : Stand p l e ({ frames := 0, cells := 0, slots := 0, locals := 0 } : Room) s m #[(.long px), (.int pq)] below meth c s₁ [] 0 0 := Stand.of_body Bd
  have e0 : s₁.heap = h0 := by rw [← hh, Bd.state]; rfl
  have N0 := Fr.nil n0
  show own_Go p.tables e below (fun u o => ∃ v L, o = .returned v ∧ Q_rm1 Z px pq h0 n0 v u.heap L ∧ FrameEnd s o u L ({ frames := 0, cells := 0, slots := 0, locals := 0 } : Room).cells ({ frames := 0, cells := 0, slots := 0, locals := 0 } : Room).slots) (s₁.setTop (entryFrame m #[(.long px), (.int pq)] 4))
  refine own_up (fun _ k => castTop (ef_rm1 m px pq) k) ?_
  show own_Go p.tables e below _ (s₁.setTop (mkF m 0 #[.val (.long px), .second, .val (.int pq), .unset] []))
  refine own_up (fun _ k => XS.iloadN X0.here hx rfl (hb hby d_m_2_0) rfl k) ?_
  show own_Go p.tables e below _ (s₁.setTop (mkF m 1 #[.val (.long px), .second, .val (.int pq), .unset] [(.int pq)]))
  refine own_up (fun _ k => XS.bipush X0.here hx rfl (hb hby d_m_2_1) k) ?_
  show own_Go p.tables e below _ (s₁.setTop (mkF m 3 #[.val (.long px), .second, .val (.int pq), .unset] [(.int (7 : Int32)), (.int pq)]))
  refine own_up (fun _ k => XS.iand X0.here hx rfl (hb hby d_m_2_3) rfl k) ?_
  show own_Go p.tables e below _ (s₁.setTop (mkF m 4 #[.val (.long px), .second, .val (.int pq), .unset] [(.int (pq &&& (7 : Int32)))]))
  refine own_up (fun _ k => XS.istoreN X0.here hx rfl (hb hby d_m_2_4) rfl (l' := #[.val (.long px), .second, .val (.int pq), .val (.int (pq &&& (7 : Int32)))]) rfl k) ?_
  show own_Go p.tables e below _ (s₁.setTop (mkF m 5 #[.val (.long px), .second, .val (.int pq), .val (.int (pq &&& (7 : Int32)))] []))
  refine own_up (fun _ k => XS.iloadN X0.here hx rfl (hb hby d_m_2_5) rfl k) ?_
  show own_Go p.tables e below _ (s₁.setTop (mkF m 6 #[.val (.long px), .second, .val (.int pq), .val (.int (pq &&& (7 : Int32)))] [(.int (pq &&& (7 : Int32)))]))
  by_cases q1 : (pq &&& (7 : Int32)) = (0 : Int32)
  ·
    refine own_up (fun _ k => XS.ifNo X0.here hx rfl (hb hby d_m_2_6) rfl ((if0 _ _).trans (teq q1).2) k) ?_
    show own_Go p.tables e below _ (s₁.setTop (mkF m 9 #[.val (.long px), .second, .val (.int pq), .val (.int (pq &&& (7 : Int32)))] []))
    refine own_up (fun _ k => X0.ldc2Long hx hown (mvT hZ (hw _ (List.mem_of_getElem? (i := 5) rfl))) (g := (mkF m 9 #[.val (.long px), .second, .val (.int pq), .val (.int (pq &&& (7 : Int32)))] [])) rfl (hb hby d_m_2_9) _ k) ?_
    show own_Go p.tables e below _ (s₁.setTop (mkF m 12 #[.val (.long px), .second, .val (.int pq), .val (.int (pq &&& (7 : Int32)))] [(.long (9223372036854775807 : Int64))]))
    exact own_end X0 hlk (v := some (.long (9223372036854775807 : Int64))) (fun h => by rw [Bd.returns] at h; cases h) (fun fs hr => retOut X0 hx Bd.returns rfl (Or.inr (Or.inl ⟨rfl, rfl, _, rfl⟩)) (hb hby d_m_2_12) hr) e0 ⟨(9223372036854775807 : Int64), rfl, N0, rfl⟩ (by decide) (by decide)
  ·
    refine own_up (fun _ k => XS.ifYes X0.here hx rfl (pc0 := 6) (pc' := 13) rfl (hb hby d_m_2_6) rfl ((if0 _ _).trans (feq q1).2) (by decide) (by decide) k) ?_
    show own_Go p.tables e below _ (s₁.setTop (mkF m 13 #[.val (.long px), .second, .val (.int pq), .val (.int (pq &&& (7 : Int32)))] []))
    refine own_up (fun _ k => XS.iloadN X0.here hx rfl (hb hby d_m_2_13) rfl k) ?_
    show own_Go p.tables e below _ (s₁.setTop (mkF m 14 #[.val (.long px), .second, .val (.int pq), .val (.int (pq &&& (7 : Int32)))] [(.int (pq &&& (7 : Int32)))]))
    refine own_up (fun _ k => XS.iconst X0.here hx rfl (hb hby d_m_2_14) k) ?_
    show own_Go p.tables e below _ (s₁.setTop (mkF m 15 #[.val (.long px), .second, .val (.int pq), .val (.int (pq &&& (7 : Int32)))] [(.int (1 : Int32)), (.int (pq &&& (7 : Int32)))]))
    by_cases q2 : (pq &&& (7 : Int32)) = (1 : Int32)
    ·
      refine own_up (fun _ k => XS.icmpNo X0.here hx rfl (hb hby d_m_2_15) rfl (teq q2).2 k) ?_
      show own_Go p.tables e below _ (s₁.setTop (mkF m 18 #[.val (.long px), .second, .val (.int pq), .val (.int (pq &&& (7 : Int32)))] []))
      refine own_up (fun _ k => X0.ldc2Long hx hown (mvT hZ (hw _ (List.mem_of_getElem? (i := 38) rfl))) (g := (mkF m 18 #[.val (.long px), .second, .val (.int pq), .val (.int (pq &&& (7 : Int32)))] [])) rfl (hb hby d_m_2_18) _ k) ?_
      show own_Go p.tables e below _ (s₁.setTop (mkF m 21 #[.val (.long px), .second, .val (.int pq), .val (.int (pq &&& (7 : Int32)))] [(.long (-9223372036854775808 : Int64))]))
      exact own_end X0 hlk (v := some (.long (-9223372036854775808 : Int64))) (fun h => by rw [Bd.returns] at h; cases h) (fun fs hr => retOut X0 hx Bd.returns rfl (Or.inr (Or.inl ⟨rfl, rfl, _, rfl⟩)) (hb hby d_m_2_21) hr) e0 ⟨(-9223372036854775808 : Int64), rfl, N0, rfl⟩ (by decide) (by decide)
    ·
      refine own_up (fun _ k => XS.icmpYes X0.here hx rfl (pc0 := 15) (pc' := 22) rfl (hb hby d_m_2_15) rfl (feq q2).2 (by decide) (by decide) k) ?_
      show own_Go p.tables e below _ (s₁.setTop (mkF m 22 #[.val (.long px), .second, .val (.int pq), .val (.int (pq &&& (7 : Int32)))] []))
      refine own_up (fun _ k => XS.iloadN X0.here hx rfl (hb hby d_m_2_22) rfl k) ?_
      show own_Go p.tables e below _ (s₁.setTop (mkF m 23 #[.val (.long px), .second, .val (.int pq), .val (.int (pq &&& (7 : Int32)))] [(.int (pq &&& (7 : Int32)))]))
      refine own_up (fun _ k => XS.iconst X0.here hx rfl (hb hby d_m_2_23) k) ?_
      show own_Go p.tables e below _ (s₁.setTop (mkF m 24 #[.val (.long px), .second, .val (.int pq), .val (.int (pq &&& (7 : Int32)))] [(.int (2 : Int32)), (.int (pq &&& (7 : Int32)))]))
      by_cases q3 : (pq &&& (7 : Int32)) = (2 : Int32)
      ·
        refine own_up (fun _ k => XS.icmpNo X0.here hx rfl (hb hby d_m_2_24) rfl (teq q3).2 k) ?_
        show own_Go p.tables e below _ (s₁.setTop (mkF m 27 #[.val (.long px), .second, .val (.int pq), .val (.int (pq &&& (7 : Int32)))] []))
        refine own_up (fun _ k => X0.ldc2Long hx hown (mvT hZ (hw _ (List.mem_of_getElem? (i := 4) rfl))) (g := (mkF m 27 #[.val (.long px), .second, .val (.int pq), .val (.int (pq &&& (7 : Int32)))] [])) rfl (hb hby d_m_2_27) _ k) ?_
        show own_Go p.tables e below _ (s₁.setTop (mkF m 30 #[.val (.long px), .second, .val (.int pq), .val (.int (pq &&& (7 : Int32)))] [(.long (9223372036854775806 : Int64))]))
        exact own_end X0 hlk (v := some (.long (9223372036854775806 : Int64))) (fun h => by rw [Bd.returns] at h; cases h) (fun fs hr => retOut X0 hx Bd.returns rfl (Or.inr (Or.inl ⟨rfl, rfl, _, rfl⟩)) (hb hby d_m_2_30) hr) e0 ⟨(9223372036854775806 : Int64), rfl, N0, rfl⟩ (by decide) (by decide)
      ·
        refine own_up (fun _ k => XS.icmpYes X0.here hx rfl (pc0 := 24) (pc' := 31) rfl (hb hby d_m_2_24) rfl (feq q3).2 (by decide) (by decide) k) ?_
        show own_Go p.tables e below _ (s₁.setTop (mkF m 31 #[.val (.long px), .second, .val (.int pq), .val (.int (pq &&& (7 : Int32)))] []))
        refine own_up (fun _ k => XS.iloadN X0.here hx rfl (hb hby d_m_2_31) rfl k) ?_
        show own_Go p.tables e below _ (s₁.setTop (mkF m 32 #[.val (.long px), .second, .val (.int pq), .val (.int (pq &&& (7 : Int32)))] [(.int (pq &&& (7 : Int32)))]))
        refine own_up (fun _ k => XS.iconst X0.here hx rfl (hb hby d_m_2_32) k) ?_
        show own_Go p.tables e below _ (s₁.setTop (mkF m 33 #[.val (.long px), .second, .val (.int pq), .val (.int (pq &&& (7 : Int32)))] [(.int (3 : Int32)), (.int (pq &&& (7 : Int32)))]))
        by_cases q4 : (pq &&& (7 : Int32)) = (3 : Int32)
        ·
          refine own_up (fun _ k => XS.icmpNo X0.here hx rfl (hb hby d_m_2_33) rfl (teq q4).2 k) ?_
          show own_Go p.tables e below _ (s₁.setTop (mkF m 36 #[.val (.long px), .second, .val (.int pq), .val (.int (pq &&& (7 : Int32)))] []))
          refine own_up (fun _ k => X0.ldc2Long hx hown (mvT hZ (hw _ (List.mem_of_getElem? (i := 36) rfl))) (g := (mkF m 36 #[.val (.long px), .second, .val (.int pq), .val (.int (pq &&& (7 : Int32)))] [])) rfl (hb hby d_m_2_36) _ k) ?_
          show own_Go p.tables e below _ (s₁.setTop (mkF m 39 #[.val (.long px), .second, .val (.int pq), .val (.int (pq &&& (7 : Int32)))] [(.long (-9223372036854775807 : Int64))]))
          exact own_end X0 hlk (v := some (.long (-9223372036854775807 : Int64))) (fun h => by rw [Bd.returns] at h; cases h) (fun fs hr => retOut X0 hx Bd.returns rfl (Or.inr (Or.inl ⟨rfl, rfl, _, rfl⟩)) (hb hby d_m_2_39) hr) e0 ⟨(-9223372036854775807 : Int64), rfl, N0, rfl⟩ (by decide) (by decide)
        ·
          refine own_up (fun _ k => XS.icmpYes X0.here hx rfl (pc0 := 33) (pc' := 40) rfl (hb hby d_m_2_33) rfl (feq q4).2 (by decide) (by decide) k) ?_
          show own_Go p.tables e below _ (s₁.setTop (mkF m 40 #[.val (.long px), .second, .val (.int pq), .val (.int (pq &&& (7 : Int32)))] []))
          refine own_up (fun _ k => XS.iloadN X0.here hx rfl (hb hby d_m_2_40) rfl k) ?_
          show own_Go p.tables e below _ (s₁.setTop (mkF m 41 #[.val (.long px), .second, .val (.int pq), .val (.int (pq &&& (7 : Int32)))] [(.int (pq &&& (7 : Int32)))]))
          refine own_up (fun _ k => XS.iconst X0.here hx rfl (hb hby d_m_2_41) k) ?_
          show own_Go p.tables e below _ (s₁.setTop (mkF m 42 #[.val (.long px), .second, .val (.int pq), .val (.int (pq &&& (7 : Int32)))] [(.int (4 : Int32)), (.int (pq &&& (7 : Int32)))]))
          by_cases q5 : (pq &&& (7 : Int32)) = (4 : Int32)
          ·
            refine own_up (fun _ k => XS.icmpNo X0.here hx rfl (hb hby d_m_2_42) rfl (teq q5).2 k) ?_
            show own_Go p.tables e below _ (s₁.setTop (mkF m 45 #[.val (.long px), .second, .val (.int pq), .val (.int (pq &&& (7 : Int32)))] []))
            refine own_up (fun _ k => XS.lconst X0.here hx rfl (hb hby d_m_2_45) k) ?_
            show own_Go p.tables e below _ (s₁.setTop (mkF m 46 #[.val (.long px), .second, .val (.int pq), .val (.int (pq &&& (7 : Int32)))] [(.long (0 : Int64))]))
            exact own_end X0 hlk (v := some (.long (0 : Int64))) (fun h => by rw [Bd.returns] at h; cases h) (fun fs hr => retOut X0 hx Bd.returns rfl (Or.inr (Or.inl ⟨rfl, rfl, _, rfl⟩)) (hb hby d_m_2_46) hr) e0 ⟨(0 : Int64), rfl, N0, rfl⟩ (by decide) (by decide)
          ·
            refine own_up (fun _ k => XS.icmpYes X0.here hx rfl (pc0 := 42) (pc' := 47) rfl (hb hby d_m_2_42) rfl (feq q5).2 (by decide) (by decide) k) ?_
            show own_Go p.tables e below _ (s₁.setTop (mkF m 47 #[.val (.long px), .second, .val (.int pq), .val (.int (pq &&& (7 : Int32)))] []))
            refine own_up (fun _ k => XS.iloadN X0.here hx rfl (hb hby d_m_2_47) rfl k) ?_
            show own_Go p.tables e below _ (s₁.setTop (mkF m 48 #[.val (.long px), .second, .val (.int pq), .val (.int (pq &&& (7 : Int32)))] [(.int (pq &&& (7 : Int32)))]))
            refine own_up (fun _ k => XS.iconst X0.here hx rfl (hb hby d_m_2_48) k) ?_
            show own_Go p.tables e below _ (s₁.setTop (mkF m 49 #[.val (.long px), .second, .val (.int pq), .val (.int (pq &&& (7 : Int32)))] [(.int (5 : Int32)), (.int (pq &&& (7 : Int32)))]))
            by_cases q6 : (pq &&& (7 : Int32)) = (5 : Int32)
            ·
              refine own_up (fun _ k => XS.icmpNo X0.here hx rfl (hb hby d_m_2_49) rfl (teq q6).2 k) ?_
              show own_Go p.tables e below _ (s₁.setTop (mkF m 52 #[.val (.long px), .second, .val (.int pq), .val (.int (pq &&& (7 : Int32)))] []))
              refine own_up (fun _ k => X0.ldc2Long hx hown (mvT hZ (hw _ (List.mem_of_getElem? (i := 37) rfl))) (g := (mkF m 52 #[.val (.long px), .second, .val (.int pq), .val (.int (pq &&& (7 : Int32)))] [])) rfl (hb hby d_m_2_52) _ k) ?_
              show own_Go p.tables e below _ (s₁.setTop (mkF m 55 #[.val (.long px), .second, .val (.int pq), .val (.int (pq &&& (7 : Int32)))] [(.long (-1 : Int64))]))
              exact own_end X0 hlk (v := some (.long (-1 : Int64))) (fun h => by rw [Bd.returns] at h; cases h) (fun fs hr => retOut X0 hx Bd.returns rfl (Or.inr (Or.inl ⟨rfl, rfl, _, rfl⟩)) (hb hby d_m_2_55) hr) e0 ⟨(-1 : Int64), rfl, N0, rfl⟩ (by decide) (by decide)
            ·
              refine own_up (fun _ k => XS.icmpYes X0.here hx rfl (pc0 := 49) (pc' := 56) rfl (hb hby d_m_2_49) rfl (feq q6).2 (by decide) (by decide) k) ?_
              show own_Go p.tables e below _ (s₁.setTop (mkF m 56 #[.val (.long px), .second, .val (.int pq), .val (.int (pq &&& (7 : Int32)))] []))
              refine own_up (fun _ k => XS.lloadN X0.here hx rfl (hb hby d_m_2_56) rfl k) ?_
              show own_Go p.tables e below _ (s₁.setTop (mkF m 57 #[.val (.long px), .second, .val (.int pq), .val (.int (pq &&& (7 : Int32)))] [(.long px)]))
              exact own_end X0 hlk (v := some (.long px)) (fun h => by rw [Bd.returns] at h; cases h) (fun fs hr => retOut X0 hx Bd.returns rfl (Or.inr (Or.inl ⟨rfl, rfl, _, rfl⟩)) (hb hby d_m_2_57) hr) e0 ⟨px, rfl, N0, rfl⟩ (by decide) (by decide)
theorem d_prog_41_m_4_0 : decode prog_41_method_4_code 0 = .ok (.lload_n 0, 1) := by decide +kernel
theorem d_prog_41_m_4_1 : decode prog_41_method_4_code 1 = .ok (.ldc2_w 25, 3) := by decide +kernel
theorem d_prog_41_m_4_4 : decode prog_41_method_4_code 4 = .ok (.lcmp, 1) := by decide +kernel
theorem d_prog_41_m_4_5 : decode prog_41_method_4_code 5 = .ok (.ifCond .eq 11, 3) := by decide +kernel
theorem d_prog_41_m_4_16 : decode prog_41_method_4_code 16 = .ok (.iconst 1, 1) := by decide +kernel
theorem d_prog_41_m_4_17 : decode prog_41_method_4_code 17 = .ok (.goto 4, 3) := by decide +kernel
theorem d_prog_41_m_4_21 : decode prog_41_method_4_code 21 = .ok (.ireturn, 1) := by decide +kernel
theorem d_prog_41_m_4_8 : decode prog_41_method_4_code 8 = .ok (.lload_n 0, 1) := by decide +kernel
theorem d_prog_41_m_4_9 : decode prog_41_method_4_code 9 = .ok (.ldc2_w 27, 3) := by decide +kernel
theorem d_prog_41_m_4_12 : decode prog_41_method_4_code 12 = .ok (.lcmp, 1) := by decide +kernel
theorem d_prog_41_m_4_13 : decode prog_41_method_4_code 13 = .ok (.ifCond .ne 7, 3) := by decide +kernel
theorem d_prog_41_m_4_20 : decode prog_41_method_4_code 20 = .ok (.iconst 0, 1) := by decide +kernel
theorem own_pn1 : plainName "com/example/querygraft/querygraft/format/Millionths" = true := by first | (simp [plainName, overriddenIn]; done) | decide +kernel
theorem ef_rm2 (m : MethodId) (y0 : Int64) : entryFrame m #[(.long y0)] 2 = mkF m 0 #[.val (.long y0), .second] [] := by first | (simp [entryFrame, mkF, argsToLocals, Value.category]; done) | rfl
def Q_rm2 (Z : State) (pm : Int64) (h0 : Heap) (n0 : Nat) (v : Option Value) (h : Heap) (L : List Loc) : Prop := v = some (.int (if pm = (9223372036854775807 : Int64) ∨ pm = (-9223372036854775808 : Int64) then (1 : Int32) else 0)) ∧ Fr n0 L ∧ h = h0
set_option maxRecDepth 65536 in
set_option maxHeartbeats 40000000 in
theorem rm2 (l : Launch) (Z : State) (a0 : Array Value) (hw : ∀ d ∈ tables_1, d.before a0 Z = true) (ws : List Jvm.Cond) (pm : Int64) (h0 : Heap) (n0 : Nat) (Z0 : n0 ≤ h0.size) :
    MetFree l (⟨"com/example/querygraft/querygraft/format/Millionths", "beyond", "(J)Z"⟩ : MethodName) (head1 (Jvm.Cond.code (⟨"com/example/querygraft/querygraft/format/Millionths", "beyond", "(J)Z"⟩ : MethodName) prog_41_method_4_code 2 (some .boolean) :: ws) ({ frames := 0, cells := 0, slots := 0, locals := 0 } : Room)) (fun ar U => ar = #[(.long pm)] ∧ Z.Warmed39 U.vm ∧ U.heap = h0) (fun _ _ _ _ _ => True) (fun _ U o U' => ∃ v L, o = .returned v ∧ Q_rm2 Z pm h0 n0 v U'.heap L ∧ FrameEnd U o U' L ({ frames := 0, cells := 0, slots := 0, locals := 0 } : Room).cells ({ frames := 0, cells := 0, slots := 0, locals := 0 } : Room).slots) := by
  refine MetFree.of_bodySF (plainFor_of_name own_pn1) hisR ?_
  intro p e s m args below meth c s₁ Bd hml0 hP hK
  obtain ⟨rfl, hZ, hh⟩ := hP
  have hx := Bd.exec
  have hby := Bd.bytes
  have hlk : meth.locks = false := BodyLoose.notSynchronized Bd
  have hml : c.maxLocals = 2 := hml0
  have hown : s.vm.findClass "com/example/querygraft/querygraft/format/Millionths" = some m.cls := findClass_of_methodNamed Bd.named
  have hnm := (name_of_methodNamed Bd.named Bd.method).1
  have X0 : Stand p l e ({ frames := 0, cells := 0, slots := 0, locals := 0 } : Room) s m #[(.long pm)] below meth c s₁ [] 0 0 := Stand.of_body Bd
  have e0 : s₁.heap = h0 := by rw [← hh, Bd.state]; rfl
  have N0 := Fr.nil n0
  show own_Go p.tables e below (fun u o => ∃ v L, o = .returned v ∧ Q_rm2 Z pm h0 n0 v u.heap L ∧ FrameEnd s o u L ({ frames := 0, cells := 0, slots := 0, locals := 0 } : Room).cells ({ frames := 0, cells := 0, slots := 0, locals := 0 } : Room).slots) (s₁.setTop (entryFrame m #[(.long pm)] 2))
  refine own_up (fun _ k => castTop (ef_rm2 m pm) k) ?_
  show own_Go p.tables e below _ (s₁.setTop (mkF m 0 #[.val (.long pm), .second] []))
  refine own_up (fun _ k => XS.lloadN X0.here hx rfl (hb hby d_prog_41_m_4_0) rfl k) ?_
  show own_Go p.tables e below _ (s₁.setTop (mkF m 1 #[.val (.long pm), .second] [(.long pm)]))
  refine own_up (fun _ k => X0.ldc2Long hx hown (mvT hZ (hw _ (List.mem_of_getElem? (i := 10) rfl))) (g := (mkF m 1 #[.val (.long pm), .second] [(.long pm)])) rfl (hb hby d_prog_41_m_4_1) _ k) ?_
  show own_Go p.tables e below _ (s₁.setTop (mkF m 4 #[.val (.long pm), .second] [(.long (9223372036854775807 : Int64)), (.long pm)]))
  refine own_up (fun _ k => XS.lcmp X0.here hx rfl (hb hby d_prog_41_m_4_4) rfl k) ?_
  show own_Go p.tables e below _ (s₁.setTop (mkF m 5 #[.val (.long pm), .second] [(.int (lcmpW pm (9223372036854775807 : Int64)))]))
  by_cases q1 : pm = (9223372036854775807 : Int64)
  ·
    refine own_up (fun _ k => XS.ifYes X0.here hx rfl (pc0 := 5) (pc' := 16) rfl (hb hby d_prog_41_m_4_5) rfl ((if0 _ _).trans (teq ((lw_eq _ _).mpr q1)).1) (by decide) (by decide) k) ?_
    show own_Go p.tables e below _ (s₁.setTop (mkF m 16 #[.val (.long pm), .second] []))
    refine own_up (fun _ k => XS.iconst X0.here hx rfl (hb hby d_prog_41_m_4_16) k) ?_
    show own_Go p.tables e below _ (s₁.setTop (mkF m 17 #[.val (.long pm), .second] [(.int (1 : Int32))]))
    refine own_up (fun _ k => XS.goto X0.here hx rfl (pc0 := 17) (pc' := 21) rfl (hb hby d_prog_41_m_4_17) (by decide) (by decide) k) ?_
    show own_Go p.tables e below _ (s₁.setTop (mkF m 21 #[.val (.long pm), .second] [(.int (1 : Int32))]))
    exact own_end X0 hlk (v := some (.int (1 : Int32))) (fun h => by rw [Bd.returns] at h; cases h) (fun fs hr => retN X0 hx (z := (1 : Int32)) (t := .boolean) Bd.returns (by simp) (hb hby d_prog_41_m_4_21) hr) e0 ⟨by rw [if_pos (Or.inl q1)], N0, rfl⟩ (by decide) (by decide)
  ·
    refine own_up (fun _ k => XS.ifNo X0.here hx rfl (hb hby d_prog_41_m_4_5) rfl ((if0 _ _).trans (feq (fun q => q1 ((lw_eq _ _).mp q))).1) k) ?_
    show own_Go p.tables e below _ (s₁.setTop (mkF m 8 #[.val (.long pm), .second] []))
    refine own_up (fun _ k => XS.lloadN X0.here hx rfl (hb hby d_prog_41_m_4_8) rfl k) ?_
    show own_Go p.tables e below _ (s₁.setTop (mkF m 9 #[.val (.long pm), .second] [(.long pm)]))
    refine own_up (fun _ k => X0.ldc2Long hx hown (mvT hZ (hw _ (List.mem_of_getElem? (i := 11) rfl))) (g := (mkF m 9 #[.val (.long pm), .second] [(.long pm)])) rfl (hb hby d_prog_41_m_4_9) _ k) ?_
    show own_Go p.tables e below _ (s₁.setTop (mkF m 12 #[.val (.long pm), .second] [(.long (-9223372036854775808 : Int64)), (.long pm)]))
    refine own_up (fun _ k => XS.lcmp X0.here hx rfl (hb hby d_prog_41_m_4_12) rfl k) ?_
    show own_Go p.tables e below _ (s₁.setTop (mkF m 13 #[.val (.long pm), .second] [(.int (lcmpW pm (-9223372036854775808 : Int64)))]))
    by_cases q2 : pm = (-9223372036854775808 : Int64)
    ·
      refine own_up (fun _ k => XS.ifNo X0.here hx rfl (hb hby d_prog_41_m_4_13) rfl ((if0 _ _).trans (teq ((lw_eq _ _).mpr q2)).2) k) ?_
      show own_Go p.tables e below _ (s₁.setTop (mkF m 16 #[.val (.long pm), .second] []))
      refine own_up (fun _ k => XS.iconst X0.here hx rfl (hb hby d_prog_41_m_4_16) k) ?_
      show own_Go p.tables e below _ (s₁.setTop (mkF m 17 #[.val (.long pm), .second] [(.int (1 : Int32))]))
      refine own_up (fun _ k => XS.goto X0.here hx rfl (pc0 := 17) (pc' := 21) rfl (hb hby d_prog_41_m_4_17) (by decide) (by decide) k) ?_
      show own_Go p.tables e below _ (s₁.setTop (mkF m 21 #[.val (.long pm), .second] [(.int (1 : Int32))]))
      exact own_end X0 hlk (v := some (.int (1 : Int32))) (fun h => by rw [Bd.returns] at h; cases h) (fun fs hr => retN X0 hx (z := (1 : Int32)) (t := .boolean) Bd.returns (by simp) (hb hby d_prog_41_m_4_21) hr) e0 ⟨by rw [if_pos (Or.inr q2)], N0, rfl⟩ (by decide) (by decide)
    ·
      refine own_up (fun _ k => XS.ifYes X0.here hx rfl (pc0 := 13) (pc' := 20) rfl (hb hby d_prog_41_m_4_13) rfl ((if0 _ _).trans (feq (fun q => q2 ((lw_eq _ _).mp q))).2) (by decide) (by decide) k) ?_
      show own_Go p.tables e below _ (s₁.setTop (mkF m 20 #[.val (.long pm), .second] []))
      refine own_up (fun _ k => XS.iconst X0.here hx rfl (hb hby d_prog_41_m_4_20) k) ?_
      show own_Go p.tables e below _ (s₁.setTop (mkF m 21 #[.val (.long pm), .second] [(.int (0 : Int32))]))
      exact own_end X0 hlk (v := some (.int (0 : Int32))) (fun h => by rw [Bd.returns] at h; cases h) (fun fs hr => retN X0 hx (z := (0 : Int32)) (t := .boolean) Bd.returns (by simp) (hb hby d_prog_41_m_4_21) hr) e0 ⟨by rw [if_neg (fun q => q.elim q1 q2)], N0, rfl⟩ (by decide) (by decide)
theorem d_prog_41_m_2_0 : decode prog_41_method_2_code 0 = .ok (.dload_n 0, 1) := by decide +kernel
theorem d_prog_41_m_2_1 : decode prog_41_method_2_code 1 = .ok (.ldc2_w 9, 3) := by decide +kernel
theorem d_prog_41_m_2_4 : decode prog_41_method_2_code 4 = .ok (.dmul, 1) := by decide +kernel
theorem d_prog_41_m_2_5 : decode prog_41_method_2_code 5 = .ok (.invokestatic 11, 3) := by decide +kernel
theorem own_pd0 : parseMethodDescriptor "(D)J" = some ⟨[.double], some .long⟩ := by decide +kernel
theorem d_prog_41_m_2_8 : decode prog_41_method_2_code 8 = .ok (.lreturn, 1) := by decide +kernel
theorem ef_rm3 (m : MethodId) (y0 : UInt64) : entryFrame m #[(.double y0)] 2 = mkF m 0 #[.val (.double y0), .second] [] := by first | (simp [entryFrame, mkF, argsToLocals, Value.category]; done) | rfl
def Q_rm3 (Z : State) (xd : UInt64) (h0 : Heap) (n0 : Nat) (v : Option Value) (h : Heap) (L : List Loc) : Prop := v = some (.long (Jvm.Free.Hsc.MRound.roundOf (FP.dmul xd (4696837146684686336 : UInt64)))) ∧ Fr n0 L ∧ h = h0
set_option maxRecDepth 65536 in
set_option maxHeartbeats 40000000 in
theorem rm3 (l : Launch) (Z : State) (a0 : Array Value) (hw : ∀ d ∈ tables_1, d.before a0 Z = true) (ws : List Jvm.Cond) (xd : UInt64) (h0 : Heap) (n0 : Nat) (Z0 : n0 ≤ h0.size) (hn : NoNaN64 (FP.dmul xd (4696837146684686336 : UInt64))) :
    MetFree l (⟨"com/example/querygraft/querygraft/format/Millionths", "of", "(D)J"⟩ : MethodName) (head1 (Jvm.Cond.code (⟨"com/example/querygraft/querygraft/format/Millionths", "of", "(D)J"⟩ : MethodName) prog_41_method_2_code 2 (some .long) :: ws) ({ frames := 2, cells := 0, slots := 0, locals := 61 } : Room)) (fun ar U => ar = #[(.double xd)] ∧ Z.Warmed39 U.vm ∧ U.heap = h0) (fun _ _ _ _ _ => True) (fun _ U o U' => ∃ v L, o = .returned v ∧ Q_rm3 Z xd h0 n0 v U'.heap L ∧ FrameEnd U o U' L ({ frames := 2, cells := 0, slots := 0, locals := 61 } : Room).cells ({ frames := 2, cells := 0, slots := 0, locals := 61 } : Room).slots) := by
  refine MetFree.of_bodySF (plainFor_of_name own_pn1) hisR ?_
  intro p e s m args below meth c s₁ Bd hml0 hP hK
  obtain ⟨rfl, hZ, hh⟩ := hP
  have hx := Bd.exec
  have hby := Bd.bytes
  have hlk : meth.locks = false := BodyLoose.notSynchronized Bd
  have hml : c.maxLocals = 2 := hml0
  have hown : s.vm.findClass "com/example/querygraft/querygraft/format/Millionths" = some m.cls := findClass_of_methodNamed Bd.named
  have hnm := (name_of_methodNamed Bd.named Bd.method).1
  have X0 : Stand p l e ({ frames := 2, cells := 0, slots := 0, locals := 61 } : Room) s m #[(.double xd)] below meth c s₁ [] 0 0 := Stand.of_body Bd
  have e0 : s₁.heap = h0 := by rw [← hh, Bd.state]; rfl
  have N0 := Fr.nil n0
  show own_Go p.tables e below (fun u o => ∃ v L, o = .returned v ∧ Q_rm3 Z xd h0 n0 v u.heap L ∧ FrameEnd s o u L ({ frames := 2, cells := 0, slots := 0, locals := 61 } : Room).cells ({ frames := 2, cells := 0, slots := 0, locals := 61 } : Room).slots) (s₁.setTop (entryFrame m #[(.double xd)] 2))
  refine own_up (fun _ k => castTop (ef_rm3 m xd) k) ?_
  show own_Go p.tables e below _ (s₁.setTop (mkF m 0 #[.val (.double xd), .second] []))
  refine own_up (fun _ k => XS.dloadN X0.here hx rfl (hb hby d_prog_41_m_2_0) rfl k) ?_
  show own_Go p.tables e below _ (s₁.setTop (mkF m 1 #[.val (.double xd), .second] [(.double xd)]))
  refine own_up (fun _ k => X0.ldc2DoubleC hx hown (mvT hZ (hw _ (List.mem_of_getElem? (i := 15) rfl))) (g := (mkF m 1 #[.val (.double xd), .second] [(.double xd)])) rfl (hb hby d_prog_41_m_2_1) _ k) ?_
  show own_Go p.tables e below _ (s₁.setTop (mkF m 4 #[.val (.double xd), .second] [(.double (4696837146684686336 : UInt64)), (.double xd)]))
  refine own_up (fun _ k => XS.dmulS X0.here hx rfl (hb hby d_prog_41_m_2_4) rfl hn (v := (FP.dmul xd (4696837146684686336 : UInt64))) rfl k) ?_
  show own_Go p.tables e below _ (s₁.setTop (mkF m 5 #[.val (.double xd), .second] [(.double (FP.dmul xd (4696837146684686336 : UInt64)))]))
  obtain ⟨_, _, ⟨T1, L1, k1, n1⟩, -, X1, ⟨Lc1, hQ1, l1, y1, z1⟩, st1⟩ := Jvm.LawKit.callS X0 hx (y := (⟨"java/lang/Math", "round", "(D)J"⟩ : MethodName)) hown (mvT hZ (hw _ (List.mem_of_getElem? (i := 16) rfl))) (mvT hZ (hw _ (List.mem_of_getElem? (i := 17) rfl))) (mvT hZ (hw _ (List.mem_of_getElem? (i := 18) rfl))) (mvT hZ (hw _ (List.mem_of_getElem? (i := 19) rfl))) (by decide) (own_roundB (W := 0) (h := h0) (FP.dmul xd (4696837146684686336 : UInt64)) (by decide) (by decide) (own_tab hZ hw) (mvT hZ (hw _ (List.mem_of_getElem? (i := 18) rfl)))) (g := (mkF m 5 #[.val (.double xd), .second] [(.double (FP.dmul xd (4696837146684686336 : UInt64)))])) rfl (by rw [hml]; rfl) (argsL := [(.double (FP.dmul xd (4696837146684686336 : UInt64)))]) (rest := []) (lenOf own_pd0 rfl) rfl (by show 2 * 0 + _ ≤ _; exact Nat.le_of_eq rfl) (hb hby d_prog_41_m_2_5) (fun _ _ => ⟨rfl, e0, (by decide : 0 + 0 ≤ _), (by decide : 0 + 0 ≤ _)⟩)
  dsimp only [Pt.U, Pt.locs, Pt.cells, Pt.slots] at X1 l1 y1 z1 st1 hQ1
  subst l1 y1 z1
  obtain ⟨rfl, rfl, hh1⟩ := hQ1
  try rw [List.append_nil] at X1
  refine own_up (fun _ k => st1 _ k) ?_
  show own_Go p.tables e below _ (T1.setTop (mkF m 8 #[.val (.double xd), .second] [(.long (Jvm.Free.Hsc.MRound.roundOf (FP.dmul xd (4696837146684686336 : UInt64))))]))
  exact own_end X1 hlk (v := some (.long (Jvm.Free.Hsc.MRound.roundOf (FP.dmul xd (4696837146684686336 : UInt64))))) (fun h => by rw [Bd.returns] at h; cases h) (fun fs hr => retOut X1 hx Bd.returns rfl (Or.inr (Or.inl ⟨rfl, rfl, _, rfl⟩)) (hb hby d_prog_41_m_2_8) hr) hh1 ⟨rfl, N0, rfl⟩ (by decide) (by decide)
theorem d_prog_41_m_3_0 : decode prog_41_method_3_code 0 = .ok (.dload_n 0, 1) := by decide +kernel
theorem d_prog_41_m_3_1 : decode prog_41_method_3_code 1 = .ok (.ldc2_w 9, 3) := by decide +kernel
theorem d_prog_41_m_3_4 : decode prog_41_method_3_code 4 = .ok (.dmul, 1) := by decide +kernel
theorem d_prog_41_m_3_5 : decode prog_41_method_3_code 5 = .ok (.invokestatic 17, 3) := by decide +kernel
theorem own_pd1 : parseMethodDescriptor "(D)D" = some ⟨[.double], some .double⟩ := by decide +kernel
theorem d_prog_41_m_3_8 : decode prog_41_method_3_code 8 = .ok (.ldc2_w 21, 3) := by decide +kernel
theorem d_prog_41_m_3_11 : decode prog_41_method_3_code 11 = .ok (.dcmp .g, 1) := by decide +kernel
theorem d_prog_41_m_3_12 : decode prog_41_method_3_code 12 = .ok (.ifCond .ge 7, 3) := by decide +kernel
theorem d_prog_41_m_3_15 : decode prog_41_method_3_code 15 = .ok (.iconst 1, 1) := by decide +kernel
theorem d_prog_41_m_3_16 : decode prog_41_method_3_code 16 = .ok (.goto 4, 3) := by decide +kernel
theorem d_prog_41_m_3_20 : decode prog_41_method_3_code 20 = .ok (.ireturn, 1) := by decide +kernel
theorem d_prog_41_m_3_19 : decode prog_41_method_3_code 19 = .ok (.iconst 0, 1) := by decide +kernel
theorem ef_rm4 (m : MethodId) (y0 : UInt64) : entryFrame m #[(.double y0)] 2 = mkF m 0 #[.val (.double y0), .second] [] := by first | (simp [entryFrame, mkF, argsToLocals, Value.category]; done) | rfl
def Q_rm4 (Z : State) (xd : UInt64) (h0 : Heap) (n0 : Nat) (v : Option Value) (h : Heap) (L : List Loc) : Prop := v = some (.int (if (cmpValue (FP.dcmp ((FP.dmul xd (4696837146684686336 : UInt64)) &&& 0x7fffffffffffffff) (4890909195324358656 : UInt64)) .g) < (0 : Int32) then (1 : Int32) else 0)) ∧ Fr n0 L ∧ h = h0
set_option maxRecDepth 65536 in
set_option maxHeartbeats 40000000 in
theorem rm4 (l : Launch) (Z : State) (a0 : Array Value) (hw : ∀ d ∈ tables_1, d.before a0 Z = true) (ws : List Jvm.Cond) (xd : UInt64) (h0 : Heap) (n0 : Nat) (Z0 : n0 ≤ h0.size) (hn : NoNaN64 (FP.dmul xd (4696837146684686336 : UInt64))) :
    MetFree l (⟨"com/example/querygraft/querygraft/format/Millionths", "holds", "(D)Z"⟩ : MethodName) (head1 (Jvm.Cond.code (⟨"com/example/querygraft/querygraft/format/Millionths", "holds", "(D)Z"⟩ : MethodName) prog_41_method_3_code 2 (some .boolean) :: ws) ({ frames := 1, cells := 0, slots := 0, locals := 13 } : Room)) (fun ar U => ar = #[(.double xd)] ∧ Z.Warmed39 U.vm ∧ U.heap = h0) (fun _ _ _ _ _ => True) (fun _ U o U' => ∃ v L, o = .returned v ∧ Q_rm4 Z xd h0 n0 v U'.heap L ∧ FrameEnd U o U' L ({ frames := 1, cells := 0, slots := 0, locals := 13 } : Room).cells ({ frames := 1, cells := 0, slots := 0, locals := 13 } : Room).slots) := by
  refine MetFree.of_bodySF (plainFor_of_name own_pn1) hisR ?_
  intro p e s m args below meth c s₁ Bd hml0 hP hK
  obtain ⟨rfl, hZ, hh⟩ := hP
  have hx := Bd.exec
  have hby := Bd.bytes
  have hlk : meth.locks = false := BodyLoose.notSynchronized Bd
  have hml : c.maxLocals = 2 := hml0
  have hown : s.vm.findClass "com/example/querygraft/querygraft/format/Millionths" = some m.cls := findClass_of_methodNamed Bd.named
  have hnm := (name_of_methodNamed Bd.named Bd.method).1
  have X0 : Stand p l e ({ frames := 1, cells := 0, slots := 0, locals := 13 } : Room) s m #[(.double xd)] below meth c s₁ [] 0 0 := Stand.of_body Bd
  have e0 : s₁.heap = h0 := by rw [← hh, Bd.state]; rfl
  have N0 := Fr.nil n0
  show own_Go p.tables e below (fun u o => ∃ v L, o = .returned v ∧ Q_rm4 Z xd h0 n0 v u.heap L ∧ FrameEnd s o u L ({ frames := 1, cells := 0, slots := 0, locals := 13 } : Room).cells ({ frames := 1, cells := 0, slots := 0, locals := 13 } : Room).slots) (s₁.setTop (entryFrame m #[(.double xd)] 2))
  refine own_up (fun _ k => castTop (ef_rm4 m xd) k) ?_
  show own_Go p.tables e below _ (s₁.setTop (mkF m 0 #[.val (.double xd), .second] []))
  refine own_up (fun _ k => XS.dloadN X0.here hx rfl (hb hby d_prog_41_m_3_0) rfl k) ?_
  show own_Go p.tables e below _ (s₁.setTop (mkF m 1 #[.val (.double xd), .second] [(.double xd)]))
  refine own_up (fun _ k => X0.ldc2DoubleC hx hown (mvT hZ (hw _ (List.mem_of_getElem? (i := 15) rfl))) (g := (mkF m 1 #[.val (.double xd), .second] [(.double xd)])) rfl (hb hby d_prog_41_m_3_1) _ k) ?_
  show own_Go p.tables e below _ (s₁.setTop (mkF m 4 #[.val (.double xd), .second] [(.double (4696837146684686336 : UInt64)), (.double xd)]))
  refine own_up (fun _ k => XS.dmulS X0.here hx rfl (hb hby d_prog_41_m_3_4) rfl hn (v := (FP.dmul xd (4696837146684686336 : UInt64))) rfl k) ?_
  show own_Go p.tables e below _ (s₁.setTop (mkF m 5 #[.val (.double xd), .second] [(.double (FP.dmul xd (4696837146684686336 : UInt64)))]))
  obtain ⟨_, _, ⟨T1, L1, k1, n1⟩, -, X1, ⟨Lc1, hQ1, l1, y1, z1⟩, st1⟩ := Jvm.LawKit.callS X0 hx (y := (⟨"java/lang/Math", "abs", "(D)D"⟩ : MethodName)) hown (mvT hZ (hw _ (List.mem_of_getElem? (i := 30) rfl))) (mvT hZ (hw _ (List.mem_of_getElem? (i := 31) rfl))) (mvT hZ (hw _ (List.mem_of_getElem? (i := 18) rfl))) (mvT hZ (hw _ (List.mem_of_getElem? (i := 32) rfl))) (by decide) (own_absB (W := 0) (h := h0) (FP.dmul xd (4696837146684686336 : UInt64)) hn (mvT hZ (hw _ (List.mem_of_getElem? (i := 32) rfl))) (by decide) (by decide)) (g := (mkF m 5 #[.val (.double xd), .second] [(.double (FP.dmul xd (4696837146684686336 : UInt64)))])) rfl (by rw [hml]; rfl) (argsL := [(.double (FP.dmul xd (4696837146684686336 : UInt64)))]) (rest := []) (lenOf own_pd1 rfl) rfl (by show 2 * 0 + _ ≤ _; exact Nat.le_of_eq rfl) (hb hby d_prog_41_m_3_5) (fun _ _ => ⟨rfl, e0, (by decide : 0 + 0 ≤ _), (by decide : 0 + 0 ≤ _)⟩)
  dsimp only [Pt.U, Pt.locs, Pt.cells, Pt.slots] at X1 l1 y1 z1 st1 hQ1
  subst l1 y1 z1
  obtain ⟨rfl, rfl, hh1⟩ := hQ1
  try rw [List.append_nil] at X1
  refine own_up (fun _ k => st1 _ k) ?_
  show own_Go p.tables e below _ (T1.setTop (mkF m 8 #[.val (.double xd), .second] [(.double ((FP.dmul xd (4696837146684686336 : UInt64)) &&& 0x7fffffffffffffff))]))
  refine own_up (fun _ k => X1.ldc2DoubleC hx hown (mvT hZ (hw _ (List.mem_of_getElem? (i := 33) rfl))) (g := (mkF m 8 #[.val (.double xd), .second] [(.double ((FP.dmul xd (4696837146684686336 : UInt64)) &&& 0x7fffffffffffffff))])) rfl (hb hby d_prog_41_m_3_8) _ k) ?_
  show own_Go p.tables e below _ (T1.setTop (mkF m 11 #[.val (.double xd), .second] [(.double (4890909195324358656 : UInt64)), (.double ((FP.dmul xd (4696837146684686336 : UInt64)) &&& 0x7fffffffffffffff))]))
  refine own_up (fun _ k => XS.dcmpS X1.here hx rfl (hb hby d_prog_41_m_3_11) rfl (v := (cmpValue (FP.dcmp ((FP.dmul xd (4696837146684686336 : UInt64)) &&& 0x7fffffffffffffff) (4890909195324358656 : UInt64)) .g)) rfl k) ?_
  show own_Go p.tables e below _ (T1.setTop (mkF m 12 #[.val (.double xd), .second] [(.int (cmpValue (FP.dcmp ((FP.dmul xd (4696837146684686336 : UInt64)) &&& 0x7fffffffffffffff) (4890909195324358656 : UInt64)) .g))]))
  by_cases q1 : (cmpValue (FP.dcmp ((FP.dmul xd (4696837146684686336 : UInt64)) &&& 0x7fffffffffffffff) (4890909195324358656 : UInt64)) .g) < (0 : Int32)
  ·
    refine own_up (fun _ k => XS.ifNo X1.here hx rfl (hb hby d_prog_41_m_3_12) rfl ((if0 _ _).trans (tlt q1).2.1) k) ?_
    show own_Go p.tables e below _ (T1.setTop (mkF m 15 #[.val (.double xd), .second] []))
    refine own_up (fun _ k => XS.iconst X1.here hx rfl (hb hby d_prog_41_m_3_15) k) ?_
    show own_Go p.tables e below _ (T1.setTop (mkF m 16 #[.val (.double xd), .second] [(.int (1 : Int32))]))
    refine own_up (fun _ k => XS.goto X1.here hx rfl (pc0 := 16) (pc' := 20) rfl (hb hby d_prog_41_m_3_16) (by decide) (by decide) k) ?_
    show own_Go p.tables e below _ (T1.setTop (mkF m 20 #[.val (.double xd), .second] [(.int (1 : Int32))]))
    exact own_end X1 hlk (v := some (.int (1 : Int32))) (fun h => by rw [Bd.returns] at h; cases h) (fun fs hr => retN X1 hx (z := (1 : Int32)) (t := .boolean) Bd.returns (by simp) (hb hby d_prog_41_m_3_20) hr) hh1 ⟨by rw [if_pos q1], N0, rfl⟩ (by decide) (by decide)
  ·
    refine own_up (fun _ k => XS.ifYes X1.here hx rfl (pc0 := 12) (pc' := 19) rfl (hb hby d_prog_41_m_3_12) rfl ((if0 _ _).trans (flt q1).2.1) (by decide) (by decide) k) ?_
    show own_Go p.tables e below _ (T1.setTop (mkF m 19 #[.val (.double xd), .second] []))
    refine own_up (fun _ k => XS.iconst X1.here hx rfl (hb hby d_prog_41_m_3_19) k) ?_
    show own_Go p.tables e below _ (T1.setTop (mkF m 20 #[.val (.double xd), .second] [(.int (0 : Int32))]))
    exact own_end X1 hlk (v := some (.int (0 : Int32))) (fun h => by rw [Bd.returns] at h; cases h) (fun fs hr => retN X1 hx (z := (0 : Int32)) (t := .boolean) Bd.returns (by simp) (hb hby d_prog_41_m_3_20) hr) hh1 ⟨by rw [if_neg q1], N0, rfl⟩ (by decide) (by decide)
theorem own_pd2 : parseMethodDescriptor "(JI)J" = some ⟨[.long, .int], some .long⟩ := by decide +kernel
theorem own_pd3 : parseMethodDescriptor "(J)Z" = some ⟨[.long], some .boolean⟩ := by decide +kernel
theorem own_pd4 : parseMethodDescriptor "(D)Z" = some ⟨[.double], some .boolean⟩ := by decide +kernel
theorem ef_rm0 (m : MethodId) (y0 : Int64) (y1 : Int32) (y2 : Int32) (y3 : Int32) : entryFrame m #[(.long y0), (.int y1), (.int y2), (.int y3)] maxLocals = mkF m 0 #[.val (.long y0), .second, .val (.int y1), .val (.int y2), .val (.int y3), .unset, .unset, .unset, .unset, .unset, .unset, .unset] [] := by first | (simp [entryFrame, mkF, argsToLocals, Value.category, maxLocals]; done) | rfl
def Q_rm0 (Z : State) (p0 : Int64) (p1 : Int32) (p2 : Int32) (p3 : Int32) (h0 : Heap) (n0 : Nat) (v : Option Value) (h : Heap) (L : List Loc) : Prop := v = some (.int (1 : Int32)) ∧ Fr n0 L
set_option maxRecDepth 65536 in
set_option maxHeartbeats 40000000 in
theorem rm0 (l : Launch) (Z : State) (a0 : Array Value) (hw : ∀ d ∈ tables_1, d.before a0 Z = true) (ws : List Jvm.Cond) (p0 : Int64) (p1 : Int32) (p2 : Int32) (p3 : Int32) (h0 : Heap) (n0 : Nat) (Z0 : n0 ≤ h0.size) :
    MetFree l x (head1 (Jvm.Cond.code x code maxLocals ret :: ws) room_1) (fun ar U => ar = #[(.long p0), (.int p1), (.int p2), (.int p3)] ∧ Z.Warmed39 U.vm ∧ U.heap = h0) (fun _ _ _ _ _ => True) (fun _ U o U' => ∃ v L, o = .returned v ∧ Q_rm0 Z p0 p1 p2 p3 h0 n0 v U'.heap L ∧ FrameEnd U o U' L room_1.cells room_1.slots) := by
  refine MetFree.of_bodySF (plainFor_of_name own_pn0) hisR ?_
  intro p e s m args below meth c s₁ Bd hml0 hP hK
  obtain ⟨rfl, hZ, hh⟩ := hP
  have hx := Bd.exec
  have hby := Bd.bytes
  have hlk : meth.locks = false := BodyLoose.notSynchronized Bd
  have hml : c.maxLocals = 12 := hml0
  have hown : s.vm.findClass "com/example/querygraft/querygraft/format/MillionthsBeyondPinLaw" = some m.cls := findClass_of_methodNamed Bd.named
  have hnm := (name_of_methodNamed Bd.named Bd.method).1
  have X0 : Stand p l e room_1 s m #[(.long p0), (.int p1), (.int p2), (.int p3)] below meth c s₁ [] 0 0 := Stand.of_body Bd
  have e0 : s₁.heap = h0 := by rw [← hh, Bd.state]; rfl
  have N0 := Fr.nil n0
  show own_Go p.tables e below (fun u o => ∃ v L, o = .returned v ∧ Q_rm0 Z p0 p1 p2 p3 h0 n0 v u.heap L ∧ FrameEnd s o u L room_1.cells room_1.slots) (s₁.setTop (entryFrame m #[(.long p0), (.int p1), (.int p2), (.int p3)] maxLocals))
  refine own_up (fun _ k => castTop (ef_rm0 m p0 p1 p2 p3) k) ?_
  show own_Go p.tables e below _ (s₁.setTop (mkF m 0 #[.val (.long p0), .second, .val (.int p1), .val (.int p2), .val (.int p3), .unset, .unset, .unset, .unset, .unset, .unset, .unset] []))
  refine own_up (fun _ k => XS.lloadN X0.here hx rfl (hb hby at_0) rfl k) ?_
  show own_Go p.tables e below _ (s₁.setTop (mkF m 1 #[.val (.long p0), .second, .val (.int p1), .val (.int p2), .val (.int p3), .unset, .unset, .unset, .unset, .unset, .unset, .unset] [(.long p0)]))
  refine own_up (fun _ k => XS.iloadN X0.here hx rfl (hb hby at_1) rfl k) ?_
  show own_Go p.tables e below _ (s₁.setTop (mkF m 2 #[.val (.long p0), .second, .val (.int p1), .val (.int p2), .val (.int p3), .unset, .unset, .unset, .unset, .unset, .unset, .unset] [(.int p1), (.long p0)]))
  obtain ⟨_, _, ⟨T1, L1, k1, n1⟩, -, X1, ⟨Lc1, hQ1, l1, y1, z1⟩, st1⟩ := Jvm.LawKit.callS X0 hx (y := (⟨"com/example/querygraft/querygraft/format/MillionthsBeyondPinLaw", "pick", "(JI)J"⟩ : MethodName)) hown (mvT hZ (hw _ (List.mem_of_getElem? (i := 0) rfl))) (mvT hZ (hw _ (List.mem_of_getElem? (i := 1) rfl))) (mvT hZ (hw _ (List.mem_of_getElem? (i := 2) rfl))) (mvT hZ (hw _ (List.mem_of_getElem? (i := 3) rfl))) (by decide) (backOf (W := 0) (rm1 l Z a0 hw [] p0 p1 h0 n0 Z0 ) hZ (hw _ (List.mem_of_getElem? (i := 3) rfl)) (hw _ (List.mem_of_getElem? (i := 2) rfl)) (by decide) (by decide)) (g := (mkF m 2 #[.val (.long p0), .second, .val (.int p1), .val (.int p2), .val (.int p3), .unset, .unset, .unset, .unset, .unset, .unset, .unset] [(.int p1), (.long p0)])) rfl (by rw [hml]; rfl) (argsL := [(.long p0), (.int p1)]) (rest := []) (lenOf own_pd2 rfl) rfl (by show 2 * 0 + _ ≤ _; exact Nat.le_of_eq rfl) (hb hby at_2) (fun _ _ => ⟨rfl, e0, (by decide : 0 + 0 ≤ _), (by decide : 0 + 0 ≤ _)⟩)
  dsimp only [Pt.U, Pt.locs, Pt.cells, Pt.slots] at X1 l1 y1 z1 st1 hQ1
  subst l1 y1 z1
  obtain ⟨mm_1, rfl, N1q, eq1⟩ := hQ1
  have N1 := Fr.app N0 N1q
  refine own_up (fun _ k => st1 _ k) ?_
  show own_Go p.tables e below _ (T1.setTop (mkF m 5 #[.val (.long p0), .second, .val (.int p1), .val (.int p2), .val (.int p3), .unset, .unset, .unset, .unset, .unset, .unset, .unset] [(.long mm_1)]))
  refine own_up (fun _ k => XS.lstore X1.here hx rfl (hb hby at_5) rfl (l' := #[.val (.long p0), .second, .val (.int p1), .val (.int p2), .val (.int p3), .val (.long mm_1), .second, .unset, .unset, .unset, .unset, .unset]) rfl k) ?_
  show own_Go p.tables e below _ (T1.setTop (mkF m 7 #[.val (.long p0), .second, .val (.int p1), .val (.int p2), .val (.int p3), .val (.long mm_1), .second, .unset, .unset, .unset, .unset, .unset] []))
  refine own_up (fun _ k => XS.lload X1.here hx rfl (hb hby at_7) rfl k) ?_
  show own_Go p.tables e below _ (T1.setTop (mkF m 9 #[.val (.long p0), .second, .val (.int p1), .val (.int p2), .val (.int p3), .val (.long mm_1), .second, .unset, .unset, .unset, .unset, .unset] [(.long mm_1)]))
  refine own_up (fun _ k => XS.lload X1.here hx rfl (hb hby at_9) rfl k) ?_
  show own_Go p.tables e below _ (T1.setTop (mkF m 11 #[.val (.long p0), .second, .val (.int p1), .val (.int p2), .val (.int p3), .val (.long mm_1), .second, .unset, .unset, .unset, .unset, .unset] [(.long mm_1), (.long mm_1)]))
  refine own_up (fun _ k => XS.bipush X1.here hx rfl (hb hby at_11) k) ?_
  show own_Go p.tables e below _ (T1.setTop (mkF m 13 #[.val (.long p0), .second, .val (.int p1), .val (.int p2), .val (.int p3), .val (.long mm_1), .second, .unset, .unset, .unset, .unset, .unset] [(.int (63 : Int32)), (.long mm_1), (.long mm_1)]))
  refine own_up (fun _ k => XS.lshr X1.here hx rfl (hb hby at_13) rfl k) ?_
  show own_Go p.tables e below _ (T1.setTop (mkF m 14 #[.val (.long p0), .second, .val (.int p1), .val (.int p2), .val (.int p3), .val (.long mm_1), .second, .unset, .unset, .unset, .unset, .unset] [(.long (mm_1 >>> ((63 : Int32) &&& 0x3f).toInt64)), (.long mm_1)]))
  refine own_up (fun _ k => XS.lxor X1.here hx rfl (hb hby at_14) rfl k) ?_
  show own_Go p.tables e below _ (T1.setTop (mkF m 15 #[.val (.long p0), .second, .val (.int p1), .val (.int p2), .val (.int p3), .val (.long mm_1), .second, .unset, .unset, .unset, .unset, .unset] [(.long (mm_1 ^^^ (mm_1 >>> ((63 : Int32) &&& 0x3f).toInt64)))]))
  refine own_up (fun _ k => X1.ldc2Long hx hown (mvT hZ (hw _ (List.mem_of_getElem? (i := 5) rfl))) (g := (mkF m 15 #[.val (.long p0), .second, .val (.int p1), .val (.int p2), .val (.int p3), .val (.long mm_1), .second, .unset, .unset, .unset, .unset, .unset] [(.long (mm_1 ^^^ (mm_1 >>> ((63 : Int32) &&& 0x3f).toInt64)))])) rfl (hb hby at_15) _ k) ?_
  show own_Go p.tables e below _ (T1.setTop (mkF m 18 #[.val (.long p0), .second, .val (.int p1), .val (.int p2), .val (.int p3), .val (.long mm_1), .second, .unset, .unset, .unset, .unset, .unset] [(.long (9223372036854775807 : Int64)), (.long (mm_1 ^^^ (mm_1 >>> ((63 : Int32) &&& 0x3f).toInt64)))]))
  refine own_up (fun _ k => XS.lcmp X1.here hx rfl (hb hby at_18) rfl k) ?_
  show own_Go p.tables e below _ (T1.setTop (mkF m 19 #[.val (.long p0), .second, .val (.int p1), .val (.int p2), .val (.int p3), .val (.long mm_1), .second, .unset, .unset, .unset, .unset, .unset] [(.int (lcmpW (mm_1 ^^^ (mm_1 >>> ((63 : Int32) &&& 0x3f).toInt64)) (9223372036854775807 : Int64)))]))
  by_cases q1 : (mm_1 ^^^ (mm_1 >>> ((63 : Int32) &&& 0x3f).toInt64)) = (9223372036854775807 : Int64)
  ·
    refine own_up (fun _ k => XS.ifNo X1.here hx rfl (hb hby at_19) rfl ((if0 _ _).trans (teq ((lw_eq _ _).mpr q1)).2) k) ?_
    show own_Go p.tables e below _ (T1.setTop (mkF m 22 #[.val (.long p0), .second, .val (.int p1), .val (.int p2), .val (.int p3), .val (.long mm_1), .second, .unset, .unset, .unset, .unset, .unset] []))
    refine own_up (fun _ k => XS.iconst X1.here hx rfl (hb hby at_22) k) ?_
    show own_Go p.tables e below _ (T1.setTop (mkF m 23 #[.val (.long p0), .second, .val (.int p1), .val (.int p2), .val (.int p3), .val (.long mm_1), .second, .unset, .unset, .unset, .unset, .unset] [(.int (1 : Int32))]))
    refine own_up (fun _ k => XS.goto X1.here hx rfl (pc0 := 23) (pc' := 27) rfl (hb hby at_23) (by decide) (by decide) k) ?_
    show own_Go p.tables e below _ (T1.setTop (mkF m 27 #[.val (.long p0), .second, .val (.int p1), .val (.int p2), .val (.int p3), .val (.long mm_1), .second, .unset, .unset, .unset, .unset, .unset] [(.int (1 : Int32))]))
    refine own_up (fun _ k => XS.istore X1.here hx rfl (hb hby at_27) rfl (l' := #[.val (.long p0), .second, .val (.int p1), .val (.int p2), .val (.int p3), .val (.long mm_1), .second, .val (.int (1 : Int32)), .unset, .unset, .unset, .unset]) rfl k) ?_
    show own_Go p.tables e below _ (T1.setTop (mkF m 29 #[.val (.long p0), .second, .val (.int p1), .val (.int p2), .val (.int p3), .val (.long mm_1), .second, .val (.int (1 : Int32)), .unset, .unset, .unset, .unset] []))
    refine own_up (fun _ k => XS.lload X1.here hx rfl (hb hby at_29) rfl k) ?_
    show own_Go p.tables e below _ (T1.setTop (mkF m 31 #[.val (.long p0), .second, .val (.int p1), .val (.int p2), .val (.int p3), .val (.long mm_1), .second, .val (.int (1 : Int32)), .unset, .unset, .unset, .unset] [(.long mm_1)]))
    obtain ⟨_, _, ⟨T2, L2, k2, n2⟩, -, X2, ⟨Lc2, hQ2, l2, y2, z2⟩, st2⟩ := Jvm.LawKit.callS X1 hx (y := (⟨"com/example/querygraft/querygraft/format/Millionths", "beyond", "(J)Z"⟩ : MethodName)) hown (mvT hZ (hw _ (List.mem_of_getElem? (i := 6) rfl))) (mvT hZ (hw _ (List.mem_of_getElem? (i := 7) rfl))) (mvT hZ (hw _ (List.mem_of_getElem? (i := 8) rfl))) (mvT hZ (hw _ (List.mem_of_getElem? (i := 9) rfl))) (by decide) (backOf (W := 0) (rm2 l Z a0 hw [] mm_1 h0 n0 Z0 ) hZ (hw _ (List.mem_of_getElem? (i := 9) rfl)) (hw _ (List.mem_of_getElem? (i := 8) rfl)) (by decide) (by decide)) (g := (mkF m 31 #[.val (.long p0), .second, .val (.int p1), .val (.int p2), .val (.int p3), .val (.long mm_1), .second, .val (.int (1 : Int32)), .unset, .unset, .unset, .unset] [(.long mm_1)])) rfl (by rw [hml]; rfl) (argsL := [(.long mm_1)]) (rest := []) (lenOf own_pd3 rfl) rfl (by show 2 * 0 + _ ≤ _; exact Nat.le_of_eq rfl) (hb hby at_31) (fun _ _ => ⟨rfl, eq1, (by decide : 0 + 0 ≤ _), (by decide : 0 + 0 ≤ _)⟩)
    dsimp only [Pt.U, Pt.locs, Pt.cells, Pt.slots] at X2 l2 y2 z2 st2 hQ2
    subst l2 y2 z2
    obtain ⟨rfl, N2q, eq2⟩ := hQ2
    have N2 := Fr.app N1 N2q
    refine own_up (fun _ k => st2 _ k) ?_
    show own_Go p.tables e below _ (T2.setTop (mkF m 34 #[.val (.long p0), .second, .val (.int p1), .val (.int p2), .val (.int p3), .val (.long mm_1), .second, .val (.int (1 : Int32)), .unset, .unset, .unset, .unset] [(.int (if mm_1 = (9223372036854775807 : Int64) ∨ mm_1 = (-9223372036854775808 : Int64) then (1 : Int32) else 0))]))
    refine own_up (fun _ k => XS.iload X2.here hx rfl (hb hby at_34) rfl k) ?_
    show own_Go p.tables e below _ (T2.setTop (mkF m 36 #[.val (.long p0), .second, .val (.int p1), .val (.int p2), .val (.int p3), .val (.long mm_1), .second, .val (.int (1 : Int32)), .unset, .unset, .unset, .unset] [(.int (1 : Int32)), (.int (if mm_1 = (9223372036854775807 : Int64) ∨ mm_1 = (-9223372036854775808 : Int64) then (1 : Int32) else 0))]))
    rw [if_pos ((own_top _).mp q1)]
    show own_Go p.tables e below _ (T2.setTop (mkF m 36 #[.val (.long p0), .second, .val (.int p1), .val (.int p2), .val (.int p3), .val (.long mm_1), .second, .val (.int (1 : Int32)), .unset, .unset, .unset, .unset] [(.int (1 : Int32)), (.int (1 : Int32))]))
    refine own_up (fun _ k => XS.icmpNo X2.here hx rfl (hb hby at_36) rfl (teq rfl).2 k) ?_
    show own_Go p.tables e below _ (T2.setTop (mkF m 39 #[.val (.long p0), .second, .val (.int p1), .val (.int p2), .val (.int p3), .val (.long mm_1), .second, .val (.int (1 : Int32)), .unset, .unset, .unset, .unset] []))
    refine own_up (fun _ k => XS.iconst X2.here hx rfl (hb hby at_39) k) ?_
    show own_Go p.tables e below _ (T2.setTop (mkF m 40 #[.val (.long p0), .second, .val (.int p1), .val (.int p2), .val (.int p3), .val (.long mm_1), .second, .val (.int (1 : Int32)), .unset, .unset, .unset, .unset] [(.int (1 : Int32))]))
    refine own_up (fun _ k => XS.goto X2.here hx rfl (pc0 := 40) (pc' := 44) rfl (hb hby at_40) (by decide) (by decide) k) ?_
    show own_Go p.tables e below _ (T2.setTop (mkF m 44 #[.val (.long p0), .second, .val (.int p1), .val (.int p2), .val (.int p3), .val (.long mm_1), .second, .val (.int (1 : Int32)), .unset, .unset, .unset, .unset] [(.int (1 : Int32))]))
    refine own_up (fun _ k => XS.istore X2.here hx rfl (hb hby at_44) rfl (l' := #[.val (.long p0), .second, .val (.int p1), .val (.int p2), .val (.int p3), .val (.long mm_1), .second, .val (.int (1 : Int32)), .val (.int (1 : Int32)), .unset, .unset, .unset]) rfl k) ?_
    show own_Go p.tables e below _ (T2.setTop (mkF m 46 #[.val (.long p0), .second, .val (.int p1), .val (.int p2), .val (.int p3), .val (.long mm_1), .second, .val (.int (1 : Int32)), .val (.int (1 : Int32)), .unset, .unset, .unset] []))
    refine own_up (fun _ k => XS.iloadN X2.here hx rfl (hb hby at_46) rfl k) ?_
    show own_Go p.tables e below _ (T2.setTop (mkF m 47 #[.val (.long p0), .second, .val (.int p1), .val (.int p2), .val (.int p3), .val (.long mm_1), .second, .val (.int (1 : Int32)), .val (.int (1 : Int32)), .unset, .unset, .unset] [(.int p2)]))
    refine own_up (fun _ k => XS.i2dS X2.here hx rfl (hb hby at_47) rfl (v := FP.i2d p2) rfl k) ?_
    show own_Go p.tables e below _ (T2.setTop (mkF m 48 #[.val (.long p0), .second, .val (.int p1), .val (.int p2), .val (.int p3), .val (.long mm_1), .second, .val (.int (1 : Int32)), .val (.int (1 : Int32)), .unset, .unset, .unset] [(.double (FP.i2d p2))]))
    refine own_up (fun _ k => XS.iload X2.here hx rfl (hb hby at_48) rfl k) ?_
    show own_Go p.tables e below _ (T2.setTop (mkF m 50 #[.val (.long p0), .second, .val (.int p1), .val (.int p2), .val (.int p3), .val (.long mm_1), .second, .val (.int (1 : Int32)), .val (.int (1 : Int32)), .unset, .unset, .unset] [(.int p3), (.double (FP.i2d p2))]))
    refine own_up (fun _ k => XS.i2dS X2.here hx rfl (hb hby at_50) rfl (v := FP.i2d p3) rfl k) ?_
    show own_Go p.tables e below _ (T2.setTop (mkF m 51 #[.val (.long p0), .second, .val (.int p1), .val (.int p2), .val (.int p3), .val (.long mm_1), .second, .val (.int (1 : Int32)), .val (.int (1 : Int32)), .unset, .unset, .unset] [(.double (FP.i2d p3)), (.double (FP.i2d p2))]))
    refine own_up (fun _ k => XS.dmulS X2.here hx rfl (hb hby at_51) rfl (own_v p2 p3).1 (v := (FP.dmul (FP.i2d p2) (FP.i2d p3))) rfl k) ?_
    show own_Go p.tables e below _ (T2.setTop (mkF m 52 #[.val (.long p0), .second, .val (.int p1), .val (.int p2), .val (.int p3), .val (.long mm_1), .second, .val (.int (1 : Int32)), .val (.int (1 : Int32)), .unset, .unset, .unset] [(.double (FP.dmul (FP.i2d p2) (FP.i2d p3)))]))
    refine own_up (fun _ k => XS.dstore X2.here hx rfl (hb hby at_52) rfl (l' := #[.val (.long p0), .second, .val (.int p1), .val (.int p2), .val (.int p3), .val (.long mm_1), .second, .val (.int (1 : Int32)), .val (.int (1 : Int32)), .val (.double (FP.dmul (FP.i2d p2) (FP.i2d p3))), .second, .unset]) rfl k) ?_
    show own_Go p.tables e below _ (T2.setTop (mkF m 54 #[.val (.long p0), .second, .val (.int p1), .val (.int p2), .val (.int p3), .val (.long mm_1), .second, .val (.int (1 : Int32)), .val (.int (1 : Int32)), .val (.double (FP.dmul (FP.i2d p2) (FP.i2d p3))), .second, .unset] []))
    refine own_up (fun _ k => XS.dload X2.here hx rfl (hb hby at_54) rfl k) ?_
    show own_Go p.tables e below _ (T2.setTop (mkF m 56 #[.val (.long p0), .second, .val (.int p1), .val (.int p2), .val (.int p3), .val (.long mm_1), .second, .val (.int (1 : Int32)), .val (.int (1 : Int32)), .val (.double (FP.dmul (FP.i2d p2) (FP.i2d p3))), .second, .unset] [(.double (FP.dmul (FP.i2d p2) (FP.i2d p3)))]))
    obtain ⟨_, _, ⟨T3, L3, k3, n3⟩, -, X3, ⟨Lc3, hQ3, l3, y3, z3⟩, st3⟩ := Jvm.LawKit.callS X2 hx (y := (⟨"com/example/querygraft/querygraft/format/Millionths", "of", "(D)J"⟩ : MethodName)) hown (mvT hZ (hw _ (List.mem_of_getElem? (i := 12) rfl))) (mvT hZ (hw _ (List.mem_of_getElem? (i := 13) rfl))) (mvT hZ (hw _ (List.mem_of_getElem? (i := 8) rfl))) (mvT hZ (hw _ (List.mem_of_getElem? (i := 14) rfl))) (by decide) (backOf (W := 0) (rm3 l Z a0 hw [] (FP.dmul (FP.i2d p2) (FP.i2d p3)) h0 n0 Z0 (own_v p2 p3).2) hZ (hw _ (List.mem_of_getElem? (i := 14) rfl)) (hw _ (List.mem_of_getElem? (i := 8) rfl)) (by decide) (by decide)) (g := (mkF m 56 #[.val (.long p0), .second, .val (.int p1), .val (.int p2), .val (.int p3), .val (.long mm_1), .second, .val (.int (1 : Int32)), .val (.int (1 : Int32)), .val (.double (FP.dmul (FP.i2d p2) (FP.i2d p3))), .second, .unset] [(.double (FP.dmul (FP.i2d p2) (FP.i2d p3)))])) rfl (by rw [hml]; rfl) (argsL := [(.double (FP.dmul (FP.i2d p2) (FP.i2d p3)))]) (rest := []) (lenOf own_pd0 rfl) rfl (by show 2 * 0 + _ ≤ _; exact Nat.le_of_eq rfl) (hb hby at_56) (fun _ _ => ⟨rfl, eq2, (by decide : 0 + 0 ≤ _), (by decide : 0 + 0 ≤ _)⟩)
    dsimp only [Pt.U, Pt.locs, Pt.cells, Pt.slots] at X3 l3 y3 z3 st3 hQ3
    subst l3 y3 z3
    obtain ⟨rfl, N3q, eq3⟩ := hQ3
    have N3 := Fr.app N2 N3q
    refine own_up (fun _ k => st3 _ k) ?_
    show own_Go p.tables e below _ (T3.setTop (mkF m 59 #[.val (.long p0), .second, .val (.int p1), .val (.int p2), .val (.int p3), .val (.long mm_1), .second, .val (.int (1 : Int32)), .val (.int (1 : Int32)), .val (.double (FP.dmul (FP.i2d p2) (FP.i2d p3))), .second, .unset] [(.long (Jvm.Free.Hsc.MRound.roundOf (FP.dmul (FP.dmul (FP.i2d p2) (FP.i2d p3)) (4696837146684686336 : UInt64))))]))
    obtain ⟨_, _, ⟨T4, L4, k4, n4⟩, -, X4, ⟨Lc4, hQ4, l4, y4, z4⟩, st4⟩ := Jvm.LawKit.callS X3 hx (y := (⟨"com/example/querygraft/querygraft/format/Millionths", "beyond", "(J)Z"⟩ : MethodName)) hown (mvT hZ (hw _ (List.mem_of_getElem? (i := 6) rfl))) (mvT hZ (hw _ (List.mem_of_getElem? (i := 7) rfl))) (mvT hZ (hw _ (List.mem_of_getElem? (i := 8) rfl))) (mvT hZ (hw _ (List.mem_of_getElem? (i := 9) rfl))) (by decide) (backOf (W := 0) (rm2 l Z a0 hw [] (Jvm.Free.Hsc.MRound.roundOf (FP.dmul (FP.dmul (FP.i2d p2) (FP.i2d p3)) (4696837146684686336 : UInt64))) h0 n0 Z0 ) hZ (hw _ (List.mem_of_getElem? (i := 9) rfl)) (hw _ (List.mem_of_getElem? (i := 8) rfl)) (by decide) (by decide)) (g := (mkF m 59 #[.val (.long p0), .second, .val (.int p1), .val (.int p2), .val (.int p3), .val (.long mm_1), .second, .val (.int (1 : Int32)), .val (.int (1 : Int32)), .val (.double (FP.dmul (FP.i2d p2) (FP.i2d p3))), .second, .unset] [(.long (Jvm.Free.Hsc.MRound.roundOf (FP.dmul (FP.dmul (FP.i2d p2) (FP.i2d p3)) (4696837146684686336 : UInt64))))])) rfl (by rw [hml]; rfl) (argsL := [(.long (Jvm.Free.Hsc.MRound.roundOf (FP.dmul (FP.dmul (FP.i2d p2) (FP.i2d p3)) (4696837146684686336 : UInt64))))]) (rest := []) (lenOf own_pd3 rfl) rfl (by show 2 * 0 + _ ≤ _; exact Nat.le_of_eq rfl) (hb hby at_59) (fun _ _ => ⟨rfl, eq3, (by decide : 0 + 0 ≤ _), (by decide : 0 + 0 ≤ _)⟩)
    dsimp only [Pt.U, Pt.locs, Pt.cells, Pt.slots] at X4 l4 y4 z4 st4 hQ4
    subst l4 y4 z4
    obtain ⟨rfl, N4q, eq4⟩ := hQ4
    have N4 := Fr.app N3 N4q
    refine own_up (fun _ k => st4 _ k) ?_
    show own_Go p.tables e below _ (T4.setTop (mkF m 62 #[.val (.long p0), .second, .val (.int p1), .val (.int p2), .val (.int p3), .val (.long mm_1), .second, .val (.int (1 : Int32)), .val (.int (1 : Int32)), .val (.double (FP.dmul (FP.i2d p2) (FP.i2d p3))), .second, .unset] [(.int (if (Jvm.Free.Hsc.MRound.roundOf (FP.dmul (FP.dmul (FP.i2d p2) (FP.i2d p3)) (4696837146684686336 : UInt64))) = (9223372036854775807 : Int64) ∨ (Jvm.Free.Hsc.MRound.roundOf (FP.dmul (FP.dmul (FP.i2d p2) (FP.i2d p3)) (4696837146684686336 : UInt64))) = (-9223372036854775808 : Int64) then (1 : Int32) else 0))]))
    refine own_up (fun _ k => XS.dload X4.here hx rfl (hb hby at_62) rfl k) ?_
    show own_Go p.tables e below _ (T4.setTop (mkF m 64 #[.val (.long p0), .second, .val (.int p1), .val (.int p2), .val (.int p3), .val (.long mm_1), .second, .val (.int (1 : Int32)), .val (.int (1 : Int32)), .val (.double (FP.dmul (FP.i2d p2) (FP.i2d p3))), .second, .unset] [(.double (FP.dmul (FP.i2d p2) (FP.i2d p3))), (.int (if (Jvm.Free.Hsc.MRound.roundOf (FP.dmul (FP.dmul (FP.i2d p2) (FP.i2d p3)) (4696837146684686336 : UInt64))) = (9223372036854775807 : Int64) ∨ (Jvm.Free.Hsc.MRound.roundOf (FP.dmul (FP.dmul (FP.i2d p2) (FP.i2d p3)) (4696837146684686336 : UInt64))) = (-9223372036854775808 : Int64) then (1 : Int32) else 0))]))
    obtain ⟨_, _, ⟨T5, L5, k5, n5⟩, -, X5, ⟨Lc5, hQ5, l5, y5, z5⟩, st5⟩ := Jvm.LawKit.callS X4 hx (y := (⟨"com/example/querygraft/querygraft/format/Millionths", "holds", "(D)Z"⟩ : MethodName)) hown (mvT hZ (hw _ (List.mem_of_getElem? (i := 27) rfl))) (mvT hZ (hw _ (List.mem_of_getElem? (i := 28) rfl))) (mvT hZ (hw _ (List.mem_of_getElem? (i := 8) rfl))) (mvT hZ (hw _ (List.mem_of_getElem? (i := 29) rfl))) (by decide) (backOf (W := 1) (rm4 l Z a0 hw [] (FP.dmul (FP.i2d p2) (FP.i2d p3)) h0 n0 Z0 (own_v p2 p3).2) hZ (hw _ (List.mem_of_getElem? (i := 29) rfl)) (hw _ (List.mem_of_getElem? (i := 8) rfl)) (by decide) (by decide)) (g := (mkF m 64 #[.val (.long p0), .second, .val (.int p1), .val (.int p2), .val (.int p3), .val (.long mm_1), .second, .val (.int (1 : Int32)), .val (.int (1 : Int32)), .val (.double (FP.dmul (FP.i2d p2) (FP.i2d p3))), .second, .unset] [(.double (FP.dmul (FP.i2d p2) (FP.i2d p3))), (.int (if (Jvm.Free.Hsc.MRound.roundOf (FP.dmul (FP.dmul (FP.i2d p2) (FP.i2d p3)) (4696837146684686336 : UInt64))) = (9223372036854775807 : Int64) ∨ (Jvm.Free.Hsc.MRound.roundOf (FP.dmul (FP.dmul (FP.i2d p2) (FP.i2d p3)) (4696837146684686336 : UInt64))) = (-9223372036854775808 : Int64) then (1 : Int32) else 0))])) rfl (by rw [hml]; rfl) (argsL := [(.double (FP.dmul (FP.i2d p2) (FP.i2d p3)))]) (rest := [(.int (if (Jvm.Free.Hsc.MRound.roundOf (FP.dmul (FP.dmul (FP.i2d p2) (FP.i2d p3)) (4696837146684686336 : UInt64))) = (9223372036854775807 : Int64) ∨ (Jvm.Free.Hsc.MRound.roundOf (FP.dmul (FP.dmul (FP.i2d p2) (FP.i2d p3)) (4696837146684686336 : UInt64))) = (-9223372036854775808 : Int64) then (1 : Int32) else 0))]) (lenOf own_pd4 rfl) rfl (by show 2 * 0 + _ ≤ _; exact Nat.le_of_eq rfl) (hb hby at_64) (fun _ _ => ⟨rfl, eq4, (by decide : 0 + 0 ≤ _), (by decide : 0 + 0 ≤ _)⟩)
    dsimp only [Pt.U, Pt.locs, Pt.cells, Pt.slots] at X5 l5 y5 z5 st5 hQ5
    subst l5 y5 z5
    obtain ⟨rfl, N5q, eq5⟩ := hQ5
    have N5 := Fr.app N4 N5q
    refine own_up (fun _ k => st5 _ k) ?_
    show own_Go p.tables e below _ (T5.setTop (mkF m 67 #[.val (.long p0), .second, .val (.int p1), .val (.int p2), .val (.int p3), .val (.long mm_1), .second, .val (.int (1 : Int32)), .val (.int (1 : Int32)), .val (.double (FP.dmul (FP.i2d p2) (FP.i2d p3))), .second, .unset] [(.int (if (cmpValue (FP.dcmp ((FP.dmul (FP.dmul (FP.i2d p2) (FP.i2d p3)) (4696837146684686336 : UInt64)) &&& 0x7fffffffffffffff) (4890909195324358656 : UInt64)) .g) < (0 : Int32) then (1 : Int32) else 0)), (.int (if (Jvm.Free.Hsc.MRound.roundOf (FP.dmul (FP.dmul (FP.i2d p2) (FP.i2d p3)) (4696837146684686336 : UInt64))) = (9223372036854775807 : Int64) ∨ (Jvm.Free.Hsc.MRound.roundOf (FP.dmul (FP.dmul (FP.i2d p2) (FP.i2d p3)) (4696837146684686336 : UInt64))) = (-9223372036854775808 : Int64) then (1 : Int32) else 0))]))
    have HR := own_round (own_v p2 p3).2
    by_cases q2 : (cmpValue (FP.dcmp ((FP.dmul (FP.dmul (FP.i2d p2) (FP.i2d p3)) (4696837146684686336 : UInt64)) &&& 0x7fffffffffffffff) (4890909195324358656 : UInt64)) .g) < (0 : Int32)
    ·
      rw [if_pos q2, if_neg (fun q => HR.mp q q2)]
      show own_Go p.tables e below _ (T5.setTop (mkF m 67 #[.val (.long p0), .second, .val (.int p1), .val (.int p2), .val (.int p3), .val (.long mm_1), .second, .val (.int (1 : Int32)), .val (.int (1 : Int32)), .val (.double (FP.dmul (FP.i2d p2) (FP.i2d p3))), .second, .unset] [(.int (1 : Int32)), (.int (0 : Int32))]))
      refine own_up (fun _ k => XS.ifYes X5.here hx rfl (pc0 := 67) (pc' := 74) rfl (hb hby at_67) rfl ((if0 _ _).trans (feq (by decide)).2) (by decide) (by decide) k) ?_
      show own_Go p.tables e below _ (T5.setTop (mkF m 74 #[.val (.long p0), .second, .val (.int p1), .val (.int p2), .val (.int p3), .val (.long mm_1), .second, .val (.int (1 : Int32)), .val (.int (1 : Int32)), .val (.double (FP.dmul (FP.i2d p2) (FP.i2d p3))), .second, .unset] [(.int (0 : Int32))]))
      refine own_up (fun _ k => XS.iconst X5.here hx rfl (hb hby at_74) k) ?_
      show own_Go p.tables e below _ (T5.setTop (mkF m 75 #[.val (.long p0), .second, .val (.int p1), .val (.int p2), .val (.int p3), .val (.long mm_1), .second, .val (.int (1 : Int32)), .val (.int (1 : Int32)), .val (.double (FP.dmul (FP.i2d p2) (FP.i2d p3))), .second, .unset] [(.int (0 : Int32)), (.int (0 : Int32))]))
      refine own_up (fun _ k => XS.icmpNo X5.here hx rfl (hb hby at_75) rfl (teq rfl).2 k) ?_
      show own_Go p.tables e below _ (T5.setTop (mkF m 78 #[.val (.long p0), .second, .val (.int p1), .val (.int p2), .val (.int p3), .val (.long mm_1), .second, .val (.int (1 : Int32)), .val (.int (1 : Int32)), .val (.double (FP.dmul (FP.i2d p2) (FP.i2d p3))), .second, .unset] []))
      refine own_up (fun _ k => XS.iconst X5.here hx rfl (hb hby at_78) k) ?_
      show own_Go p.tables e below _ (T5.setTop (mkF m 79 #[.val (.long p0), .second, .val (.int p1), .val (.int p2), .val (.int p3), .val (.long mm_1), .second, .val (.int (1 : Int32)), .val (.int (1 : Int32)), .val (.double (FP.dmul (FP.i2d p2) (FP.i2d p3))), .second, .unset] [(.int (1 : Int32))]))
      refine own_up (fun _ k => XS.goto X5.here hx rfl (pc0 := 79) (pc' := 83) rfl (hb hby at_79) (by decide) (by decide) k) ?_
      show own_Go p.tables e below _ (T5.setTop (mkF m 83 #[.val (.long p0), .second, .val (.int p1), .val (.int p2), .val (.int p3), .val (.long mm_1), .second, .val (.int (1 : Int32)), .val (.int (1 : Int32)), .val (.double (FP.dmul (FP.i2d p2) (FP.i2d p3))), .second, .unset] [(.int (1 : Int32))]))
      refine own_up (fun _ k => XS.istore X5.here hx rfl (hb hby at_83) rfl (l' := #[.val (.long p0), .second, .val (.int p1), .val (.int p2), .val (.int p3), .val (.long mm_1), .second, .val (.int (1 : Int32)), .val (.int (1 : Int32)), .val (.double (FP.dmul (FP.i2d p2) (FP.i2d p3))), .second, .val (.int (1 : Int32))]) rfl k) ?_
      show own_Go p.tables e below _ (T5.setTop (mkF m 85 #[.val (.long p0), .second, .val (.int p1), .val (.int p2), .val (.int p3), .val (.long mm_1), .second, .val (.int (1 : Int32)), .val (.int (1 : Int32)), .val (.double (FP.dmul (FP.i2d p2) (FP.i2d p3))), .second, .val (.int (1 : Int32))] []))
      refine own_up (fun _ k => XS.iload X5.here hx rfl (hb hby at_85) rfl k) ?_
      show own_Go p.tables e below _ (T5.setTop (mkF m 87 #[.val (.long p0), .second, .val (.int p1), .val (.int p2), .val (.int p3), .val (.long mm_1), .second, .val (.int (1 : Int32)), .val (.int (1 : Int32)), .val (.double (FP.dmul (FP.i2d p2) (FP.i2d p3))), .second, .val (.int (1 : Int32))] [(.int (1 : Int32))]))
      refine own_up (fun _ k => XS.ifNo X5.here hx rfl (hb hby at_87) rfl ((if0 _ _).trans (feq (by decide)).1) k) ?_
      show own_Go p.tables e below _ (T5.setTop (mkF m 90 #[.val (.long p0), .second, .val (.int p1), .val (.int p2), .val (.int p3), .val (.long mm_1), .second, .val (.int (1 : Int32)), .val (.int (1 : Int32)), .val (.double (FP.dmul (FP.i2d p2) (FP.i2d p3))), .second, .val (.int (1 : Int32))] []))
      refine own_up (fun _ k => XS.iload X5.here hx rfl (hb hby at_90) rfl k) ?_
      show own_Go p.tables e below _ (T5.setTop (mkF m 92 #[.val (.long p0), .second, .val (.int p1), .val (.int p2), .val (.int p3), .val (.long mm_1), .second, .val (.int (1 : Int32)), .val (.int (1 : Int32)), .val (.double (FP.dmul (FP.i2d p2) (FP.i2d p3))), .second, .val (.int (1 : Int32))] [(.int (1 : Int32))]))
      refine own_up (fun _ k => XS.ifNo X5.here hx rfl (hb hby at_92) rfl ((if0 _ _).trans (feq (by decide)).1) k) ?_
      show own_Go p.tables e below _ (T5.setTop (mkF m 95 #[.val (.long p0), .second, .val (.int p1), .val (.int p2), .val (.int p3), .val (.long mm_1), .second, .val (.int (1 : Int32)), .val (.int (1 : Int32)), .val (.double (FP.dmul (FP.i2d p2) (FP.i2d p3))), .second, .val (.int (1 : Int32))] []))
      refine own_up (fun _ k => XS.iconst X5.here hx rfl (hb hby at_95) k) ?_
      show own_Go p.tables e below _ (T5.setTop (mkF m 96 #[.val (.long p0), .second, .val (.int p1), .val (.int p2), .val (.int p3), .val (.long mm_1), .second, .val (.int (1 : Int32)), .val (.int (1 : Int32)), .val (.double (FP.dmul (FP.i2d p2) (FP.i2d p3))), .second, .val (.int (1 : Int32))] [(.int (1 : Int32))]))
      refine own_up (fun _ k => XS.goto X5.here hx rfl (pc0 := 96) (pc' := 100) rfl (hb hby at_96) (by decide) (by decide) k) ?_
      show own_Go p.tables e below _ (T5.setTop (mkF m 100 #[.val (.long p0), .second, .val (.int p1), .val (.int p2), .val (.int p3), .val (.long mm_1), .second, .val (.int (1 : Int32)), .val (.int (1 : Int32)), .val (.double (FP.dmul (FP.i2d p2) (FP.i2d p3))), .second, .val (.int (1 : Int32))] [(.int (1 : Int32))]))
      exact own_end X5 hlk (v := some (.int (1 : Int32))) (fun h => by rw [Bd.returns] at h; cases h) (fun fs hr => retN X5 hx (z := (1 : Int32)) (t := .boolean) Bd.returns (by simp) (hb hby at_100) hr) eq5 ⟨rfl, N5⟩ (by decide) (by decide)
    ·
      rw [if_neg q2, if_pos (HR.mpr q2)]
      show own_Go p.tables e below _ (T5.setTop (mkF m 67 #[.val (.long p0), .second, .val (.int p1), .val (.int p2), .val (.int p3), .val (.long mm_1), .second, .val (.int (1 : Int32)), .val (.int (1 : Int32)), .val (.double (FP.dmul (FP.i2d p2) (FP.i2d p3))), .second, .unset] [(.int (0 : Int32)), (.int (1 : Int32))]))
      refine own_up (fun _ k => XS.ifNo X5.here hx rfl (hb hby at_67) rfl ((if0 _ _).trans (teq rfl).2) k) ?_
      show own_Go p.tables e below _ (T5.setTop (mkF m 70 #[.val (.long p0), .second, .val (.int p1), .val (.int p2), .val (.int p3), .val (.long mm_1), .second, .val (.int (1 : Int32)), .val (.int (1 : Int32)), .val (.double (FP.dmul (FP.i2d p2) (FP.i2d p3))), .second, .unset] [(.int (1 : Int32))]))
      refine own_up (fun _ k => XS.iconst X5.here hx rfl (hb hby at_70) k) ?_
      show own_Go p.tables e below _ (T5.setTop (mkF m 71 #[.val (.long p0), .second, .val (.int p1), .val (.int p2), .val (.int p3), .val (.long mm_1), .second, .val (.int (1 : Int32)), .val (.int (1 : Int32)), .val (.double (FP.dmul (FP.i2d p2) (FP.i2d p3))), .second, .unset] [(.int (1 : Int32)), (.int (1 : Int32))]))
      refine own_up (fun _ k => XS.goto X5.here hx rfl (pc0 := 71) (pc' := 75) rfl (hb hby at_71) (by decide) (by decide) k) ?_
      show own_Go p.tables e below _ (T5.setTop (mkF m 75 #[.val (.long p0), .second, .val (.int p1), .val (.int p2), .val (.int p3), .val (.long mm_1), .second, .val (.int (1 : Int32)), .val (.int (1 : Int32)), .val (.double (FP.dmul (FP.i2d p2) (FP.i2d p3))), .second, .unset] [(.int (1 : Int32)), (.int (1 : Int32))]))
      refine own_up (fun _ k => XS.icmpNo X5.here hx rfl (hb hby at_75) rfl (teq rfl).2 k) ?_
      show own_Go p.tables e below _ (T5.setTop (mkF m 78 #[.val (.long p0), .second, .val (.int p1), .val (.int p2), .val (.int p3), .val (.long mm_1), .second, .val (.int (1 : Int32)), .val (.int (1 : Int32)), .val (.double (FP.dmul (FP.i2d p2) (FP.i2d p3))), .second, .unset] []))
      refine own_up (fun _ k => XS.iconst X5.here hx rfl (hb hby at_78) k) ?_
      show own_Go p.tables e below _ (T5.setTop (mkF m 79 #[.val (.long p0), .second, .val (.int p1), .val (.int p2), .val (.int p3), .val (.long mm_1), .second, .val (.int (1 : Int32)), .val (.int (1 : Int32)), .val (.double (FP.dmul (FP.i2d p2) (FP.i2d p3))), .second, .unset] [(.int (1 : Int32))]))
      refine own_up (fun _ k => XS.goto X5.here hx rfl (pc0 := 79) (pc' := 83) rfl (hb hby at_79) (by decide) (by decide) k) ?_
      show own_Go p.tables e below _ (T5.setTop (mkF m 83 #[.val (.long p0), .second, .val (.int p1), .val (.int p2), .val (.int p3), .val (.long mm_1), .second, .val (.int (1 : Int32)), .val (.int (1 : Int32)), .val (.double (FP.dmul (FP.i2d p2) (FP.i2d p3))), .second, .unset] [(.int (1 : Int32))]))
      refine own_up (fun _ k => XS.istore X5.here hx rfl (hb hby at_83) rfl (l' := #[.val (.long p0), .second, .val (.int p1), .val (.int p2), .val (.int p3), .val (.long mm_1), .second, .val (.int (1 : Int32)), .val (.int (1 : Int32)), .val (.double (FP.dmul (FP.i2d p2) (FP.i2d p3))), .second, .val (.int (1 : Int32))]) rfl k) ?_
      show own_Go p.tables e below _ (T5.setTop (mkF m 85 #[.val (.long p0), .second, .val (.int p1), .val (.int p2), .val (.int p3), .val (.long mm_1), .second, .val (.int (1 : Int32)), .val (.int (1 : Int32)), .val (.double (FP.dmul (FP.i2d p2) (FP.i2d p3))), .second, .val (.int (1 : Int32))] []))
      refine own_up (fun _ k => XS.iload X5.here hx rfl (hb hby at_85) rfl k) ?_
      show own_Go p.tables e below _ (T5.setTop (mkF m 87 #[.val (.long p0), .second, .val (.int p1), .val (.int p2), .val (.int p3), .val (.long mm_1), .second, .val (.int (1 : Int32)), .val (.int (1 : Int32)), .val (.double (FP.dmul (FP.i2d p2) (FP.i2d p3))), .second, .val (.int (1 : Int32))] [(.int (1 : Int32))]))
      refine own_up (fun _ k => XS.ifNo X5.here hx rfl (hb hby at_87) rfl ((if0 _ _).trans (feq (by decide)).1) k) ?_
      show own_Go p.tables e below _ (T5.setTop (mkF m 90 #[.val (.long p0), .second, .val (.int p1), .val (.int p2), .val (.int p3), .val (.long mm_1), .second, .val (.int (1 : Int32)), .val (.int (1 : Int32)), .val (.double (FP.dmul (FP.i2d p2) (FP.i2d p3))), .second, .val (.int (1 : Int32))] []))
      refine own_up (fun _ k => XS.iload X5.here hx rfl (hb hby at_90) rfl k) ?_
      show own_Go p.tables e below _ (T5.setTop (mkF m 92 #[.val (.long p0), .second, .val (.int p1), .val (.int p2), .val (.int p3), .val (.long mm_1), .second, .val (.int (1 : Int32)), .val (.int (1 : Int32)), .val (.double (FP.dmul (FP.i2d p2) (FP.i2d p3))), .second, .val (.int (1 : Int32))] [(.int (1 : Int32))]))
      refine own_up (fun _ k => XS.ifNo X5.here hx rfl (hb hby at_92) rfl ((if0 _ _).trans (feq (by decide)).1) k) ?_
      show own_Go p.tables e below _ (T5.setTop (mkF m 95 #[.val (.long p0), .second, .val (.int p1), .val (.int p2), .val (.int p3), .val (.long mm_1), .second, .val (.int (1 : Int32)), .val (.int (1 : Int32)), .val (.double (FP.dmul (FP.i2d p2) (FP.i2d p3))), .second, .val (.int (1 : Int32))] []))
      refine own_up (fun _ k => XS.iconst X5.here hx rfl (hb hby at_95) k) ?_
      show own_Go p.tables e below _ (T5.setTop (mkF m 96 #[.val (.long p0), .second, .val (.int p1), .val (.int p2), .val (.int p3), .val (.long mm_1), .second, .val (.int (1 : Int32)), .val (.int (1 : Int32)), .val (.double (FP.dmul (FP.i2d p2) (FP.i2d p3))), .second, .val (.int (1 : Int32))] [(.int (1 : Int32))]))
      refine own_up (fun _ k => XS.goto X5.here hx rfl (pc0 := 96) (pc' := 100) rfl (hb hby at_96) (by decide) (by decide) k) ?_
      show own_Go p.tables e below _ (T5.setTop (mkF m 100 #[.val (.long p0), .second, .val (.int p1), .val (.int p2), .val (.int p3), .val (.long mm_1), .second, .val (.int (1 : Int32)), .val (.int (1 : Int32)), .val (.double (FP.dmul (FP.i2d p2) (FP.i2d p3))), .second, .val (.int (1 : Int32))] [(.int (1 : Int32))]))
      exact own_end X5 hlk (v := some (.int (1 : Int32))) (fun h => by rw [Bd.returns] at h; cases h) (fun fs hr => retN X5 hx (z := (1 : Int32)) (t := .boolean) Bd.returns (by simp) (hb hby at_100) hr) eq5 ⟨rfl, N5⟩ (by decide) (by decide)
  ·
    refine own_up (fun _ k => XS.ifYes X1.here hx rfl (pc0 := 19) (pc' := 26) rfl (hb hby at_19) rfl ((if0 _ _).trans (feq (fun q => q1 ((lw_eq _ _).mp q))).2) (by decide) (by decide) k) ?_
    show own_Go p.tables e below _ (T1.setTop (mkF m 26 #[.val (.long p0), .second, .val (.int p1), .val (.int p2), .val (.int p3), .val (.long mm_1), .second, .unset, .unset, .unset, .unset, .unset] []))
    refine own_up (fun _ k => XS.iconst X1.here hx rfl (hb hby at_26) k) ?_
    show own_Go p.tables e below _ (T1.setTop (mkF m 27 #[.val (.long p0), .second, .val (.int p1), .val (.int p2), .val (.int p3), .val (.long mm_1), .second, .unset, .unset, .unset, .unset, .unset] [(.int (0 : Int32))]))
    refine own_up (fun _ k => XS.istore X1.here hx rfl (hb hby at_27) rfl (l' := #[.val (.long p0), .second, .val (.int p1), .val (.int p2), .val (.int p3), .val (.long mm_1), .second, .val (.int (0 : Int32)), .unset, .unset, .unset, .unset]) rfl k) ?_
    show own_Go p.tables e below _ (T1.setTop (mkF m 29 #[.val (.long p0), .second, .val (.int p1), .val (.int p2), .val (.int p3), .val (.long mm_1), .second, .val (.int (0 : Int32)), .unset, .unset, .unset, .unset] []))
    refine own_up (fun _ k => XS.lload X1.here hx rfl (hb hby at_29) rfl k) ?_
    show own_Go p.tables e below _ (T1.setTop (mkF m 31 #[.val (.long p0), .second, .val (.int p1), .val (.int p2), .val (.int p3), .val (.long mm_1), .second, .val (.int (0 : Int32)), .unset, .unset, .unset, .unset] [(.long mm_1)]))
    obtain ⟨_, _, ⟨T6, L6, k6, n6⟩, -, X6, ⟨Lc6, hQ6, l6, y6, z6⟩, st6⟩ := Jvm.LawKit.callS X1 hx (y := (⟨"com/example/querygraft/querygraft/format/Millionths", "beyond", "(J)Z"⟩ : MethodName)) hown (mvT hZ (hw _ (List.mem_of_getElem? (i := 6) rfl))) (mvT hZ (hw _ (List.mem_of_getElem? (i := 7) rfl))) (mvT hZ (hw _ (List.mem_of_getElem? (i := 8) rfl))) (mvT hZ (hw _ (List.mem_of_getElem? (i := 9) rfl))) (by decide) (backOf (W := 0) (rm2 l Z a0 hw [] mm_1 h0 n0 Z0 ) hZ (hw _ (List.mem_of_getElem? (i := 9) rfl)) (hw _ (List.mem_of_getElem? (i := 8) rfl)) (by decide) (by decide)) (g := (mkF m 31 #[.val (.long p0), .second, .val (.int p1), .val (.int p2), .val (.int p3), .val (.long mm_1), .second, .val (.int (0 : Int32)), .unset, .unset, .unset, .unset] [(.long mm_1)])) rfl (by rw [hml]; rfl) (argsL := [(.long mm_1)]) (rest := []) (lenOf own_pd3 rfl) rfl (by show 2 * 0 + _ ≤ _; exact Nat.le_of_eq rfl) (hb hby at_31) (fun _ _ => ⟨rfl, eq1, (by decide : 0 + 0 ≤ _), (by decide : 0 + 0 ≤ _)⟩)
    dsimp only [Pt.U, Pt.locs, Pt.cells, Pt.slots] at X6 l6 y6 z6 st6 hQ6
    subst l6 y6 z6
    obtain ⟨rfl, N6q, eq6⟩ := hQ6
    have N6 := Fr.app N1 N6q
    refine own_up (fun _ k => st6 _ k) ?_
    show own_Go p.tables e below _ (T6.setTop (mkF m 34 #[.val (.long p0), .second, .val (.int p1), .val (.int p2), .val (.int p3), .val (.long mm_1), .second, .val (.int (0 : Int32)), .unset, .unset, .unset, .unset] [(.int (if mm_1 = (9223372036854775807 : Int64) ∨ mm_1 = (-9223372036854775808 : Int64) then (1 : Int32) else 0))]))
    refine own_up (fun _ k => XS.iload X6.here hx rfl (hb hby at_34) rfl k) ?_
    show own_Go p.tables e below _ (T6.setTop (mkF m 36 #[.val (.long p0), .second, .val (.int p1), .val (.int p2), .val (.int p3), .val (.long mm_1), .second, .val (.int (0 : Int32)), .unset, .unset, .unset, .unset] [(.int (0 : Int32)), (.int (if mm_1 = (9223372036854775807 : Int64) ∨ mm_1 = (-9223372036854775808 : Int64) then (1 : Int32) else 0))]))
    rw [if_neg (fun q => q1 ((own_top _).mpr q))]
    show own_Go p.tables e below _ (T6.setTop (mkF m 36 #[.val (.long p0), .second, .val (.int p1), .val (.int p2), .val (.int p3), .val (.long mm_1), .second, .val (.int (0 : Int32)), .unset, .unset, .unset, .unset] [(.int (0 : Int32)), (.int (0 : Int32))]))
    refine own_up (fun _ k => XS.icmpNo X6.here hx rfl (hb hby at_36) rfl (teq rfl).2 k) ?_
    show own_Go p.tables e below _ (T6.setTop (mkF m 39 #[.val (.long p0), .second, .val (.int p1), .val (.int p2), .val (.int p3), .val (.long mm_1), .second, .val (.int (0 : Int32)), .unset, .unset, .unset, .unset] []))
    refine own_up (fun _ k => XS.iconst X6.here hx rfl (hb hby at_39) k) ?_
    show own_Go p.tables e below _ (T6.setTop (mkF m 40 #[.val (.long p0), .second, .val (.int p1), .val (.int p2), .val (.int p3), .val (.long mm_1), .second, .val (.int (0 : Int32)), .unset, .unset, .unset, .unset] [(.int (1 : Int32))]))
    refine own_up (fun _ k => XS.goto X6.here hx rfl (pc0 := 40) (pc' := 44) rfl (hb hby at_40) (by decide) (by decide) k) ?_
    show own_Go p.tables e below _ (T6.setTop (mkF m 44 #[.val (.long p0), .second, .val (.int p1), .val (.int p2), .val (.int p3), .val (.long mm_1), .second, .val (.int (0 : Int32)), .unset, .unset, .unset, .unset] [(.int (1 : Int32))]))
    refine own_up (fun _ k => XS.istore X6.here hx rfl (hb hby at_44) rfl (l' := #[.val (.long p0), .second, .val (.int p1), .val (.int p2), .val (.int p3), .val (.long mm_1), .second, .val (.int (0 : Int32)), .val (.int (1 : Int32)), .unset, .unset, .unset]) rfl k) ?_
    show own_Go p.tables e below _ (T6.setTop (mkF m 46 #[.val (.long p0), .second, .val (.int p1), .val (.int p2), .val (.int p3), .val (.long mm_1), .second, .val (.int (0 : Int32)), .val (.int (1 : Int32)), .unset, .unset, .unset] []))
    refine own_up (fun _ k => XS.iloadN X6.here hx rfl (hb hby at_46) rfl k) ?_
    show own_Go p.tables e below _ (T6.setTop (mkF m 47 #[.val (.long p0), .second, .val (.int p1), .val (.int p2), .val (.int p3), .val (.long mm_1), .second, .val (.int (0 : Int32)), .val (.int (1 : Int32)), .unset, .unset, .unset] [(.int p2)]))
    refine own_up (fun _ k => XS.i2dS X6.here hx rfl (hb hby at_47) rfl (v := FP.i2d p2) rfl k) ?_
    show own_Go p.tables e below _ (T6.setTop (mkF m 48 #[.val (.long p0), .second, .val (.int p1), .val (.int p2), .val (.int p3), .val (.long mm_1), .second, .val (.int (0 : Int32)), .val (.int (1 : Int32)), .unset, .unset, .unset] [(.double (FP.i2d p2))]))
    refine own_up (fun _ k => XS.iload X6.here hx rfl (hb hby at_48) rfl k) ?_
    show own_Go p.tables e below _ (T6.setTop (mkF m 50 #[.val (.long p0), .second, .val (.int p1), .val (.int p2), .val (.int p3), .val (.long mm_1), .second, .val (.int (0 : Int32)), .val (.int (1 : Int32)), .unset, .unset, .unset] [(.int p3), (.double (FP.i2d p2))]))
    refine own_up (fun _ k => XS.i2dS X6.here hx rfl (hb hby at_50) rfl (v := FP.i2d p3) rfl k) ?_
    show own_Go p.tables e below _ (T6.setTop (mkF m 51 #[.val (.long p0), .second, .val (.int p1), .val (.int p2), .val (.int p3), .val (.long mm_1), .second, .val (.int (0 : Int32)), .val (.int (1 : Int32)), .unset, .unset, .unset] [(.double (FP.i2d p3)), (.double (FP.i2d p2))]))
    refine own_up (fun _ k => XS.dmulS X6.here hx rfl (hb hby at_51) rfl (own_v p2 p3).1 (v := (FP.dmul (FP.i2d p2) (FP.i2d p3))) rfl k) ?_
    show own_Go p.tables e below _ (T6.setTop (mkF m 52 #[.val (.long p0), .second, .val (.int p1), .val (.int p2), .val (.int p3), .val (.long mm_1), .second, .val (.int (0 : Int32)), .val (.int (1 : Int32)), .unset, .unset, .unset] [(.double (FP.dmul (FP.i2d p2) (FP.i2d p3)))]))
    refine own_up (fun _ k => XS.dstore X6.here hx rfl (hb hby at_52) rfl (l' := #[.val (.long p0), .second, .val (.int p1), .val (.int p2), .val (.int p3), .val (.long mm_1), .second, .val (.int (0 : Int32)), .val (.int (1 : Int32)), .val (.double (FP.dmul (FP.i2d p2) (FP.i2d p3))), .second, .unset]) rfl k) ?_
    show own_Go p.tables e below _ (T6.setTop (mkF m 54 #[.val (.long p0), .second, .val (.int p1), .val (.int p2), .val (.int p3), .val (.long mm_1), .second, .val (.int (0 : Int32)), .val (.int (1 : Int32)), .val (.double (FP.dmul (FP.i2d p2) (FP.i2d p3))), .second, .unset] []))
    refine own_up (fun _ k => XS.dload X6.here hx rfl (hb hby at_54) rfl k) ?_
    show own_Go p.tables e below _ (T6.setTop (mkF m 56 #[.val (.long p0), .second, .val (.int p1), .val (.int p2), .val (.int p3), .val (.long mm_1), .second, .val (.int (0 : Int32)), .val (.int (1 : Int32)), .val (.double (FP.dmul (FP.i2d p2) (FP.i2d p3))), .second, .unset] [(.double (FP.dmul (FP.i2d p2) (FP.i2d p3)))]))
    obtain ⟨_, _, ⟨T7, L7, k7, n7⟩, -, X7, ⟨Lc7, hQ7, l7, y7, z7⟩, st7⟩ := Jvm.LawKit.callS X6 hx (y := (⟨"com/example/querygraft/querygraft/format/Millionths", "of", "(D)J"⟩ : MethodName)) hown (mvT hZ (hw _ (List.mem_of_getElem? (i := 12) rfl))) (mvT hZ (hw _ (List.mem_of_getElem? (i := 13) rfl))) (mvT hZ (hw _ (List.mem_of_getElem? (i := 8) rfl))) (mvT hZ (hw _ (List.mem_of_getElem? (i := 14) rfl))) (by decide) (backOf (W := 0) (rm3 l Z a0 hw [] (FP.dmul (FP.i2d p2) (FP.i2d p3)) h0 n0 Z0 (own_v p2 p3).2) hZ (hw _ (List.mem_of_getElem? (i := 14) rfl)) (hw _ (List.mem_of_getElem? (i := 8) rfl)) (by decide) (by decide)) (g := (mkF m 56 #[.val (.long p0), .second, .val (.int p1), .val (.int p2), .val (.int p3), .val (.long mm_1), .second, .val (.int (0 : Int32)), .val (.int (1 : Int32)), .val (.double (FP.dmul (FP.i2d p2) (FP.i2d p3))), .second, .unset] [(.double (FP.dmul (FP.i2d p2) (FP.i2d p3)))])) rfl (by rw [hml]; rfl) (argsL := [(.double (FP.dmul (FP.i2d p2) (FP.i2d p3)))]) (rest := []) (lenOf own_pd0 rfl) rfl (by show 2 * 0 + _ ≤ _; exact Nat.le_of_eq rfl) (hb hby at_56) (fun _ _ => ⟨rfl, eq6, (by decide : 0 + 0 ≤ _), (by decide : 0 + 0 ≤ _)⟩)
    dsimp only [Pt.U, Pt.locs, Pt.cells, Pt.slots] at X7 l7 y7 z7 st7 hQ7
    subst l7 y7 z7
    obtain ⟨rfl, N7q, eq7⟩ := hQ7
    have N7 := Fr.app N6 N7q
    refine own_up (fun _ k => st7 _ k) ?_
    show own_Go p.tables e below _ (T7.setTop (mkF m 59 #[.val (.long p0), .second, .val (.int p1), .val (.int p2), .val (.int p3), .val (.long mm_1), .second, .val (.int (0 : Int32)), .val (.int (1 : Int32)), .val (.double (FP.dmul (FP.i2d p2) (FP.i2d p3))), .second, .unset] [(.long (Jvm.Free.Hsc.MRound.roundOf (FP.dmul (FP.dmul (FP.i2d p2) (FP.i2d p3)) (4696837146684686336 : UInt64))))]))
    obtain ⟨_, _, ⟨T8, L8, k8, n8⟩, -, X8, ⟨Lc8, hQ8, l8, y8, z8⟩, st8⟩ := Jvm.LawKit.callS X7 hx (y := (⟨"com/example/querygraft/querygraft/format/Millionths", "beyond", "(J)Z"⟩ : MethodName)) hown (mvT hZ (hw _ (List.mem_of_getElem? (i := 6) rfl))) (mvT hZ (hw _ (List.mem_of_getElem? (i := 7) rfl))) (mvT hZ (hw _ (List.mem_of_getElem? (i := 8) rfl))) (mvT hZ (hw _ (List.mem_of_getElem? (i := 9) rfl))) (by decide) (backOf (W := 0) (rm2 l Z a0 hw [] (Jvm.Free.Hsc.MRound.roundOf (FP.dmul (FP.dmul (FP.i2d p2) (FP.i2d p3)) (4696837146684686336 : UInt64))) h0 n0 Z0 ) hZ (hw _ (List.mem_of_getElem? (i := 9) rfl)) (hw _ (List.mem_of_getElem? (i := 8) rfl)) (by decide) (by decide)) (g := (mkF m 59 #[.val (.long p0), .second, .val (.int p1), .val (.int p2), .val (.int p3), .val (.long mm_1), .second, .val (.int (0 : Int32)), .val (.int (1 : Int32)), .val (.double (FP.dmul (FP.i2d p2) (FP.i2d p3))), .second, .unset] [(.long (Jvm.Free.Hsc.MRound.roundOf (FP.dmul (FP.dmul (FP.i2d p2) (FP.i2d p3)) (4696837146684686336 : UInt64))))])) rfl (by rw [hml]; rfl) (argsL := [(.long (Jvm.Free.Hsc.MRound.roundOf (FP.dmul (FP.dmul (FP.i2d p2) (FP.i2d p3)) (4696837146684686336 : UInt64))))]) (rest := []) (lenOf own_pd3 rfl) rfl (by show 2 * 0 + _ ≤ _; exact Nat.le_of_eq rfl) (hb hby at_59) (fun _ _ => ⟨rfl, eq7, (by decide : 0 + 0 ≤ _), (by decide : 0 + 0 ≤ _)⟩)
    dsimp only [Pt.U, Pt.locs, Pt.cells, Pt.slots] at X8 l8 y8 z8 st8 hQ8
    subst l8 y8 z8
    obtain ⟨rfl, N8q, eq8⟩ := hQ8
    have N8 := Fr.app N7 N8q
    refine own_up (fun _ k => st8 _ k) ?_
    show own_Go p.tables e below _ (T8.setTop (mkF m 62 #[.val (.long p0), .second, .val (.int p1), .val (.int p2), .val (.int p3), .val (.long mm_1), .second, .val (.int (0 : Int32)), .val (.int (1 : Int32)), .val (.double (FP.dmul (FP.i2d p2) (FP.i2d p3))), .second, .unset] [(.int (if (Jvm.Free.Hsc.MRound.roundOf (FP.dmul (FP.dmul (FP.i2d p2) (FP.i2d p3)) (4696837146684686336 : UInt64))) = (9223372036854775807 : Int64) ∨ (Jvm.Free.Hsc.MRound.roundOf (FP.dmul (FP.dmul (FP.i2d p2) (FP.i2d p3)) (4696837146684686336 : UInt64))) = (-9223372036854775808 : Int64) then (1 : Int32) else 0))]))
    refine own_up (fun _ k => XS.dload X8.here hx rfl (hb hby at_62) rfl k) ?_
    show own_Go p.tables e below _ (T8.setTop (mkF m 64 #[.val (.long p0), .second, .val (.int p1), .val (.int p2), .val (.int p3), .val (.long mm_1), .second, .val (.int (0 : Int32)), .val (.int (1 : Int32)), .val (.double (FP.dmul (FP.i2d p2) (FP.i2d p3))), .second, .unset] [(.double (FP.dmul (FP.i2d p2) (FP.i2d p3))), (.int (if (Jvm.Free.Hsc.MRound.roundOf (FP.dmul (FP.dmul (FP.i2d p2) (FP.i2d p3)) (4696837146684686336 : UInt64))) = (9223372036854775807 : Int64) ∨ (Jvm.Free.Hsc.MRound.roundOf (FP.dmul (FP.dmul (FP.i2d p2) (FP.i2d p3)) (4696837146684686336 : UInt64))) = (-9223372036854775808 : Int64) then (1 : Int32) else 0))]))
    obtain ⟨_, _, ⟨T9, L9, k9, n9⟩, -, X9, ⟨Lc9, hQ9, l9, y9, z9⟩, st9⟩ := Jvm.LawKit.callS X8 hx (y := (⟨"com/example/querygraft/querygraft/format/Millionths", "holds", "(D)Z"⟩ : MethodName)) hown (mvT hZ (hw _ (List.mem_of_getElem? (i := 27) rfl))) (mvT hZ (hw _ (List.mem_of_getElem? (i := 28) rfl))) (mvT hZ (hw _ (List.mem_of_getElem? (i := 8) rfl))) (mvT hZ (hw _ (List.mem_of_getElem? (i := 29) rfl))) (by decide) (backOf (W := 1) (rm4 l Z a0 hw [] (FP.dmul (FP.i2d p2) (FP.i2d p3)) h0 n0 Z0 (own_v p2 p3).2) hZ (hw _ (List.mem_of_getElem? (i := 29) rfl)) (hw _ (List.mem_of_getElem? (i := 8) rfl)) (by decide) (by decide)) (g := (mkF m 64 #[.val (.long p0), .second, .val (.int p1), .val (.int p2), .val (.int p3), .val (.long mm_1), .second, .val (.int (0 : Int32)), .val (.int (1 : Int32)), .val (.double (FP.dmul (FP.i2d p2) (FP.i2d p3))), .second, .unset] [(.double (FP.dmul (FP.i2d p2) (FP.i2d p3))), (.int (if (Jvm.Free.Hsc.MRound.roundOf (FP.dmul (FP.dmul (FP.i2d p2) (FP.i2d p3)) (4696837146684686336 : UInt64))) = (9223372036854775807 : Int64) ∨ (Jvm.Free.Hsc.MRound.roundOf (FP.dmul (FP.dmul (FP.i2d p2) (FP.i2d p3)) (4696837146684686336 : UInt64))) = (-9223372036854775808 : Int64) then (1 : Int32) else 0))])) rfl (by rw [hml]; rfl) (argsL := [(.double (FP.dmul (FP.i2d p2) (FP.i2d p3)))]) (rest := [(.int (if (Jvm.Free.Hsc.MRound.roundOf (FP.dmul (FP.dmul (FP.i2d p2) (FP.i2d p3)) (4696837146684686336 : UInt64))) = (9223372036854775807 : Int64) ∨ (Jvm.Free.Hsc.MRound.roundOf (FP.dmul (FP.dmul (FP.i2d p2) (FP.i2d p3)) (4696837146684686336 : UInt64))) = (-9223372036854775808 : Int64) then (1 : Int32) else 0))]) (lenOf own_pd4 rfl) rfl (by show 2 * 0 + _ ≤ _; exact Nat.le_of_eq rfl) (hb hby at_64) (fun _ _ => ⟨rfl, eq8, (by decide : 0 + 0 ≤ _), (by decide : 0 + 0 ≤ _)⟩)
    dsimp only [Pt.U, Pt.locs, Pt.cells, Pt.slots] at X9 l9 y9 z9 st9 hQ9
    subst l9 y9 z9
    obtain ⟨rfl, N9q, eq9⟩ := hQ9
    have N9 := Fr.app N8 N9q
    refine own_up (fun _ k => st9 _ k) ?_
    show own_Go p.tables e below _ (T9.setTop (mkF m 67 #[.val (.long p0), .second, .val (.int p1), .val (.int p2), .val (.int p3), .val (.long mm_1), .second, .val (.int (0 : Int32)), .val (.int (1 : Int32)), .val (.double (FP.dmul (FP.i2d p2) (FP.i2d p3))), .second, .unset] [(.int (if (cmpValue (FP.dcmp ((FP.dmul (FP.dmul (FP.i2d p2) (FP.i2d p3)) (4696837146684686336 : UInt64)) &&& 0x7fffffffffffffff) (4890909195324358656 : UInt64)) .g) < (0 : Int32) then (1 : Int32) else 0)), (.int (if (Jvm.Free.Hsc.MRound.roundOf (FP.dmul (FP.dmul (FP.i2d p2) (FP.i2d p3)) (4696837146684686336 : UInt64))) = (9223372036854775807 : Int64) ∨ (Jvm.Free.Hsc.MRound.roundOf (FP.dmul (FP.dmul (FP.i2d p2) (FP.i2d p3)) (4696837146684686336 : UInt64))) = (-9223372036854775808 : Int64) then (1 : Int32) else 0))]))
    have HR := own_round (own_v p2 p3).2
    by_cases q2 : (cmpValue (FP.dcmp ((FP.dmul (FP.dmul (FP.i2d p2) (FP.i2d p3)) (4696837146684686336 : UInt64)) &&& 0x7fffffffffffffff) (4890909195324358656 : UInt64)) .g) < (0 : Int32)
    ·
      rw [if_pos q2, if_neg (fun q => HR.mp q q2)]
      show own_Go p.tables e below _ (T9.setTop (mkF m 67 #[.val (.long p0), .second, .val (.int p1), .val (.int p2), .val (.int p3), .val (.long mm_1), .second, .val (.int (0 : Int32)), .val (.int (1 : Int32)), .val (.double (FP.dmul (FP.i2d p2) (FP.i2d p3))), .second, .unset] [(.int (1 : Int32)), (.int (0 : Int32))]))
      refine own_up (fun _ k => XS.ifYes X9.here hx rfl (pc0 := 67) (pc' := 74) rfl (hb hby at_67) rfl ((if0 _ _).trans (feq (by decide)).2) (by decide) (by decide) k) ?_
      show own_Go p.tables e below _ (T9.setTop (mkF m 74 #[.val (.long p0), .second, .val (.int p1), .val (.int p2), .val (.int p3), .val (.long mm_1), .second, .val (.int (0 : Int32)), .val (.int (1 : Int32)), .val (.double (FP.dmul (FP.i2d p2) (FP.i2d p3))), .second, .unset] [(.int (0 : Int32))]))
      refine own_up (fun _ k => XS.iconst X9.here hx rfl (hb hby at_74) k) ?_
      show own_Go p.tables e below _ (T9.setTop (mkF m 75 #[.val (.long p0), .second, .val (.int p1), .val (.int p2), .val (.int p3), .val (.long mm_1), .second, .val (.int (0 : Int32)), .val (.int (1 : Int32)), .val (.double (FP.dmul (FP.i2d p2) (FP.i2d p3))), .second, .unset] [(.int (0 : Int32)), (.int (0 : Int32))]))
      refine own_up (fun _ k => XS.icmpNo X9.here hx rfl (hb hby at_75) rfl (teq rfl).2 k) ?_
      show own_Go p.tables e below _ (T9.setTop (mkF m 78 #[.val (.long p0), .second, .val (.int p1), .val (.int p2), .val (.int p3), .val (.long mm_1), .second, .val (.int (0 : Int32)), .val (.int (1 : Int32)), .val (.double (FP.dmul (FP.i2d p2) (FP.i2d p3))), .second, .unset] []))
      refine own_up (fun _ k => XS.iconst X9.here hx rfl (hb hby at_78) k) ?_
      show own_Go p.tables e below _ (T9.setTop (mkF m 79 #[.val (.long p0), .second, .val (.int p1), .val (.int p2), .val (.int p3), .val (.long mm_1), .second, .val (.int (0 : Int32)), .val (.int (1 : Int32)), .val (.double (FP.dmul (FP.i2d p2) (FP.i2d p3))), .second, .unset] [(.int (1 : Int32))]))
      refine own_up (fun _ k => XS.goto X9.here hx rfl (pc0 := 79) (pc' := 83) rfl (hb hby at_79) (by decide) (by decide) k) ?_
      show own_Go p.tables e below _ (T9.setTop (mkF m 83 #[.val (.long p0), .second, .val (.int p1), .val (.int p2), .val (.int p3), .val (.long mm_1), .second, .val (.int (0 : Int32)), .val (.int (1 : Int32)), .val (.double (FP.dmul (FP.i2d p2) (FP.i2d p3))), .second, .unset] [(.int (1 : Int32))]))
      refine own_up (fun _ k => XS.istore X9.here hx rfl (hb hby at_83) rfl (l' := #[.val (.long p0), .second, .val (.int p1), .val (.int p2), .val (.int p3), .val (.long mm_1), .second, .val (.int (0 : Int32)), .val (.int (1 : Int32)), .val (.double (FP.dmul (FP.i2d p2) (FP.i2d p3))), .second, .val (.int (1 : Int32))]) rfl k) ?_
      show own_Go p.tables e below _ (T9.setTop (mkF m 85 #[.val (.long p0), .second, .val (.int p1), .val (.int p2), .val (.int p3), .val (.long mm_1), .second, .val (.int (0 : Int32)), .val (.int (1 : Int32)), .val (.double (FP.dmul (FP.i2d p2) (FP.i2d p3))), .second, .val (.int (1 : Int32))] []))
      refine own_up (fun _ k => XS.iload X9.here hx rfl (hb hby at_85) rfl k) ?_
      show own_Go p.tables e below _ (T9.setTop (mkF m 87 #[.val (.long p0), .second, .val (.int p1), .val (.int p2), .val (.int p3), .val (.long mm_1), .second, .val (.int (0 : Int32)), .val (.int (1 : Int32)), .val (.double (FP.dmul (FP.i2d p2) (FP.i2d p3))), .second, .val (.int (1 : Int32))] [(.int (1 : Int32))]))
      refine own_up (fun _ k => XS.ifNo X9.here hx rfl (hb hby at_87) rfl ((if0 _ _).trans (feq (by decide)).1) k) ?_
      show own_Go p.tables e below _ (T9.setTop (mkF m 90 #[.val (.long p0), .second, .val (.int p1), .val (.int p2), .val (.int p3), .val (.long mm_1), .second, .val (.int (0 : Int32)), .val (.int (1 : Int32)), .val (.double (FP.dmul (FP.i2d p2) (FP.i2d p3))), .second, .val (.int (1 : Int32))] []))
      refine own_up (fun _ k => XS.iload X9.here hx rfl (hb hby at_90) rfl k) ?_
      show own_Go p.tables e below _ (T9.setTop (mkF m 92 #[.val (.long p0), .second, .val (.int p1), .val (.int p2), .val (.int p3), .val (.long mm_1), .second, .val (.int (0 : Int32)), .val (.int (1 : Int32)), .val (.double (FP.dmul (FP.i2d p2) (FP.i2d p3))), .second, .val (.int (1 : Int32))] [(.int (1 : Int32))]))
      refine own_up (fun _ k => XS.ifNo X9.here hx rfl (hb hby at_92) rfl ((if0 _ _).trans (feq (by decide)).1) k) ?_
      show own_Go p.tables e below _ (T9.setTop (mkF m 95 #[.val (.long p0), .second, .val (.int p1), .val (.int p2), .val (.int p3), .val (.long mm_1), .second, .val (.int (0 : Int32)), .val (.int (1 : Int32)), .val (.double (FP.dmul (FP.i2d p2) (FP.i2d p3))), .second, .val (.int (1 : Int32))] []))
      refine own_up (fun _ k => XS.iconst X9.here hx rfl (hb hby at_95) k) ?_
      show own_Go p.tables e below _ (T9.setTop (mkF m 96 #[.val (.long p0), .second, .val (.int p1), .val (.int p2), .val (.int p3), .val (.long mm_1), .second, .val (.int (0 : Int32)), .val (.int (1 : Int32)), .val (.double (FP.dmul (FP.i2d p2) (FP.i2d p3))), .second, .val (.int (1 : Int32))] [(.int (1 : Int32))]))
      refine own_up (fun _ k => XS.goto X9.here hx rfl (pc0 := 96) (pc' := 100) rfl (hb hby at_96) (by decide) (by decide) k) ?_
      show own_Go p.tables e below _ (T9.setTop (mkF m 100 #[.val (.long p0), .second, .val (.int p1), .val (.int p2), .val (.int p3), .val (.long mm_1), .second, .val (.int (0 : Int32)), .val (.int (1 : Int32)), .val (.double (FP.dmul (FP.i2d p2) (FP.i2d p3))), .second, .val (.int (1 : Int32))] [(.int (1 : Int32))]))
      exact own_end X9 hlk (v := some (.int (1 : Int32))) (fun h => by rw [Bd.returns] at h; cases h) (fun fs hr => retN X9 hx (z := (1 : Int32)) (t := .boolean) Bd.returns (by simp) (hb hby at_100) hr) eq9 ⟨rfl, N9⟩ (by decide) (by decide)
    ·
      rw [if_neg q2, if_pos (HR.mpr q2)]
      show own_Go p.tables e below _ (T9.setTop (mkF m 67 #[.val (.long p0), .second, .val (.int p1), .val (.int p2), .val (.int p3), .val (.long mm_1), .second, .val (.int (0 : Int32)), .val (.int (1 : Int32)), .val (.double (FP.dmul (FP.i2d p2) (FP.i2d p3))), .second, .unset] [(.int (0 : Int32)), (.int (1 : Int32))]))
      refine own_up (fun _ k => XS.ifNo X9.here hx rfl (hb hby at_67) rfl ((if0 _ _).trans (teq rfl).2) k) ?_
      show own_Go p.tables e below _ (T9.setTop (mkF m 70 #[.val (.long p0), .second, .val (.int p1), .val (.int p2), .val (.int p3), .val (.long mm_1), .second, .val (.int (0 : Int32)), .val (.int (1 : Int32)), .val (.double (FP.dmul (FP.i2d p2) (FP.i2d p3))), .second, .unset] [(.int (1 : Int32))]))
      refine own_up (fun _ k => XS.iconst X9.here hx rfl (hb hby at_70) k) ?_
      show own_Go p.tables e below _ (T9.setTop (mkF m 71 #[.val (.long p0), .second, .val (.int p1), .val (.int p2), .val (.int p3), .val (.long mm_1), .second, .val (.int (0 : Int32)), .val (.int (1 : Int32)), .val (.double (FP.dmul (FP.i2d p2) (FP.i2d p3))), .second, .unset] [(.int (1 : Int32)), (.int (1 : Int32))]))
      refine own_up (fun _ k => XS.goto X9.here hx rfl (pc0 := 71) (pc' := 75) rfl (hb hby at_71) (by decide) (by decide) k) ?_
      show own_Go p.tables e below _ (T9.setTop (mkF m 75 #[.val (.long p0), .second, .val (.int p1), .val (.int p2), .val (.int p3), .val (.long mm_1), .second, .val (.int (0 : Int32)), .val (.int (1 : Int32)), .val (.double (FP.dmul (FP.i2d p2) (FP.i2d p3))), .second, .unset] [(.int (1 : Int32)), (.int (1 : Int32))]))
      refine own_up (fun _ k => XS.icmpNo X9.here hx rfl (hb hby at_75) rfl (teq rfl).2 k) ?_
      show own_Go p.tables e below _ (T9.setTop (mkF m 78 #[.val (.long p0), .second, .val (.int p1), .val (.int p2), .val (.int p3), .val (.long mm_1), .second, .val (.int (0 : Int32)), .val (.int (1 : Int32)), .val (.double (FP.dmul (FP.i2d p2) (FP.i2d p3))), .second, .unset] []))
      refine own_up (fun _ k => XS.iconst X9.here hx rfl (hb hby at_78) k) ?_
      show own_Go p.tables e below _ (T9.setTop (mkF m 79 #[.val (.long p0), .second, .val (.int p1), .val (.int p2), .val (.int p3), .val (.long mm_1), .second, .val (.int (0 : Int32)), .val (.int (1 : Int32)), .val (.double (FP.dmul (FP.i2d p2) (FP.i2d p3))), .second, .unset] [(.int (1 : Int32))]))
      refine own_up (fun _ k => XS.goto X9.here hx rfl (pc0 := 79) (pc' := 83) rfl (hb hby at_79) (by decide) (by decide) k) ?_
      show own_Go p.tables e below _ (T9.setTop (mkF m 83 #[.val (.long p0), .second, .val (.int p1), .val (.int p2), .val (.int p3), .val (.long mm_1), .second, .val (.int (0 : Int32)), .val (.int (1 : Int32)), .val (.double (FP.dmul (FP.i2d p2) (FP.i2d p3))), .second, .unset] [(.int (1 : Int32))]))
      refine own_up (fun _ k => XS.istore X9.here hx rfl (hb hby at_83) rfl (l' := #[.val (.long p0), .second, .val (.int p1), .val (.int p2), .val (.int p3), .val (.long mm_1), .second, .val (.int (0 : Int32)), .val (.int (1 : Int32)), .val (.double (FP.dmul (FP.i2d p2) (FP.i2d p3))), .second, .val (.int (1 : Int32))]) rfl k) ?_
      show own_Go p.tables e below _ (T9.setTop (mkF m 85 #[.val (.long p0), .second, .val (.int p1), .val (.int p2), .val (.int p3), .val (.long mm_1), .second, .val (.int (0 : Int32)), .val (.int (1 : Int32)), .val (.double (FP.dmul (FP.i2d p2) (FP.i2d p3))), .second, .val (.int (1 : Int32))] []))
      refine own_up (fun _ k => XS.iload X9.here hx rfl (hb hby at_85) rfl k) ?_
      show own_Go p.tables e below _ (T9.setTop (mkF m 87 #[.val (.long p0), .second, .val (.int p1), .val (.int p2), .val (.int p3), .val (.long mm_1), .second, .val (.int (0 : Int32)), .val (.int (1 : Int32)), .val (.double (FP.dmul (FP.i2d p2) (FP.i2d p3))), .second, .val (.int (1 : Int32))] [(.int (1 : Int32))]))
      refine own_up (fun _ k => XS.ifNo X9.here hx rfl (hb hby at_87) rfl ((if0 _ _).trans (feq (by decide)).1) k) ?_
      show own_Go p.tables e below _ (T9.setTop (mkF m 90 #[.val (.long p0), .second, .val (.int p1), .val (.int p2), .val (.int p3), .val (.long mm_1), .second, .val (.int (0 : Int32)), .val (.int (1 : Int32)), .val (.double (FP.dmul (FP.i2d p2) (FP.i2d p3))), .second, .val (.int (1 : Int32))] []))
      refine own_up (fun _ k => XS.iload X9.here hx rfl (hb hby at_90) rfl k) ?_
      show own_Go p.tables e below _ (T9.setTop (mkF m 92 #[.val (.long p0), .second, .val (.int p1), .val (.int p2), .val (.int p3), .val (.long mm_1), .second, .val (.int (0 : Int32)), .val (.int (1 : Int32)), .val (.double (FP.dmul (FP.i2d p2) (FP.i2d p3))), .second, .val (.int (1 : Int32))] [(.int (1 : Int32))]))
      refine own_up (fun _ k => XS.ifNo X9.here hx rfl (hb hby at_92) rfl ((if0 _ _).trans (feq (by decide)).1) k) ?_
      show own_Go p.tables e below _ (T9.setTop (mkF m 95 #[.val (.long p0), .second, .val (.int p1), .val (.int p2), .val (.int p3), .val (.long mm_1), .second, .val (.int (0 : Int32)), .val (.int (1 : Int32)), .val (.double (FP.dmul (FP.i2d p2) (FP.i2d p3))), .second, .val (.int (1 : Int32))] []))
      refine own_up (fun _ k => XS.iconst X9.here hx rfl (hb hby at_95) k) ?_
      show own_Go p.tables e below _ (T9.setTop (mkF m 96 #[.val (.long p0), .second, .val (.int p1), .val (.int p2), .val (.int p3), .val (.long mm_1), .second, .val (.int (0 : Int32)), .val (.int (1 : Int32)), .val (.double (FP.dmul (FP.i2d p2) (FP.i2d p3))), .second, .val (.int (1 : Int32))] [(.int (1 : Int32))]))
      refine own_up (fun _ k => XS.goto X9.here hx rfl (pc0 := 96) (pc' := 100) rfl (hb hby at_96) (by decide) (by decide) k) ?_
      show own_Go p.tables e below _ (T9.setTop (mkF m 100 #[.val (.long p0), .second, .val (.int p1), .val (.int p2), .val (.int p3), .val (.long mm_1), .second, .val (.int (0 : Int32)), .val (.int (1 : Int32)), .val (.double (FP.dmul (FP.i2d p2) (FP.i2d p3))), .second, .val (.int (1 : Int32))] [(.int (1 : Int32))]))
      exact own_end X9 hlk (v := some (.int (1 : Int32))) (fun h => by rw [Bd.returns] at h; cases h) (fun fs hr => retN X9 hx (z := (1 : Int32)) (t := .boolean) Bd.returns (by simp) (hb hby at_100) hr) eq9 ⟨rfl, N9⟩ (by decide) (by decide)
set_option maxRecDepth 65536 in
set_option maxHeartbeats 40000000 in
theorem comes_1 {Post : Tables → Env → Array Value → State → Outcome → State → Prop} (hpost : ∀ tb e args s v u, (limb_1_1.after args s (.returned v) u = true ∧ limb_1_2.after args s (.returned v) u = true ∧ True) → FrameEnd s (.returned v) u (Jvm.fieldLocs frame_1_writes args s ++ Jvm.arrayLocs frame_1_arrays args s ++ Jvm.staticLocs frame_1_statics s) 0 0 → Post tb e args s (.returned v) u) :
    ArmFor flags0 classFile x code maxLocals ret World_1 tables_1 room_1 Calls_1 rest_1 Pre_1 Post := by
  intro l hfl _ _ p e ha hc hk s m args below hf hA hF happ hP
  obtain ⟨hcalls, hrest, hpre⟩ := hP
  obtain ⟨-, -, -, hnamed, -, -, -, hat⟩ := (Spec.applies_iff hf).mp happ
  obtain ⟨hg, hn⟩ := and_e (Cond.before_iff.mp (show (Jvm.Cond.and given_1 narrow_1).before args s = true from hpre))
  obtain ⟨hcnt, hgr0⟩ := and_e hg
  obtain ⟨ga0, hgr1⟩ := and_e hgr0
  obtain ⟨ga1, hgr2⟩ := and_e hgr1
  obtain ⟨ga2, hgr3⟩ := and_e hgr2
  obtain ⟨w0, w1, w2, w3, rfl⟩ : ∃ w0 w1 w2 w3 : Value, args = #[w0, w1, w2, w3] := by
    have hs : args.size = 4 := by simpa [Cond.value, given_1] using hcnt
    obtain ⟨L⟩ := args
    match L, hs with
    | [w0, w1, w2, w3], _ => exact ⟨w0, w1, w2, w3, rfl⟩
  have hw := fun d (hd : d ∈ tables_1) => atoms_spec (ws := Jvm.Cond.code x code maxLocals ret :: tables_1) hat d (List.mem_cons_of_mem _ hd)
  have hfit : Fit s := fun {y c} hc i hi => by
    obtain ⟨ha, rfl⟩ := Array.getElem?_eq_some_iff.mp hc
    have q := List.all_eq_true.mp ((Array.all_eq_true_iff_forall_mem.mp hF) _ (Array.getElem_mem ha)) i (List.mem_range.mpr hi)
    simpa [Array.getElem?_eq_getElem hi] using q
  obtain ⟨i0, ei0⟩ := isL_v ga0
  obtain rfl : w0 = (.long i0) := Option.some.inj ei0
  obtain ⟨i1, ei1⟩ := is_v ga1
  obtain rfl : w1 = (.int i1) := Option.some.inj ei1
  obtain ⟨i2, ei2⟩ := is_v ga2
  obtain rfl : w2 = (.int i2) := Option.some.inj ei2
  obtain ⟨i3, ei3⟩ := is_v hgr3
  obtain rfl : w3 = (.int i3) := Option.some.inj ei3
  obtain ⟨n, o, h1, h2, h3, _, L, rfl, ⟨rfl, N⟩, hq⟩ := rm0 l s _ hw tables_1 i0 i1 i2 i3 s.heap s.heap.size (Nat.le_refl _)  p e ha hc hk s m _ below hf ((Spec.applies_iff_loose hf).mp happ).1 ⟨rfl, State.Warmed39.refl s, rfl⟩ trivial
  refine ⟨n, _, h1, h2, h3, hpost _ _ _ _ _ _ ⟨Cond.after_iff.mpr rfl, Cond.after_iff.mpr (eq_i res_at (Term.int_eval (1)) rfl), trivial⟩ ⟨hq.1, hq.2.1, (hq.2.2.sift fun y hy => Or.inr (N y hy)).mono (by decide) (by decide)⟩⟩
theorem main_1_1 : Claimed_1_1 := comes_1 fun _ _ _ _ _ _ h hF => ⟨h.1, hF⟩
theorem main_1_2 : Claimed_1_2 := comes_1 fun _ _ _ _ _ _ h hF => ⟨h.2.1, hF⟩
end Jvm.Pilot.@@N@@
namespace Jvm.Pilot.@@N@@
open Jvm Jvm.ClassFile Sem Op Lib Jvm.Free Jvm.Stand Jvm.Pilot.@@N@@.Jvm.D
/-! MADE BY PROGRAM (witnessworld.py) out of the Statement's table words and the real class files: 15 classes; the members and pool entries that the words name. The judged class is class 1, her method 2. -/
namespace start1
open Jvm.ClassFile
def u (s : String) : CpInfo := .utf8 (stringToUtf16 s)
/-- a pool by its gaps: so many unusable entries, then the entry; so many at the end -/
def gap : Nat → List CpInfo → List CpInfo
  | 0, r => r
  | n + 1, r => .unusable :: gap n r
def poolList (es : List (Nat × CpInfo)) (last : Nat) : List CpInfo := es.foldr (fun e r => gap e.1 (e.2 :: r)) (gap last [])
def pool (es : List (Nat × CpInfo)) (last : Nat) : Array CpInfo := ⟨poolList es last⟩
def fileOf (pool : Array CpInfo) (this : Nat) (attrs : Array Attribute := #[]) (ms : Array MethodInfo := #[]) (fl : Nat := 33) (sup : Nat := 0) (ifs : Array Nat := #[]) (fds : Array FieldInfo := #[]) : ClassFile where
  minorVersion := 0
  majorVersion := 65
  constantPool := pool
  accessFlags := fl
  thisClass := this
  superClass := sup
  interfaces := ifs
  fields := fds
  methods := ms
  attributes := attrs
def plain (name : String) (sup : Option ClassId) : Class where
  name := name
  kind := .ordinary
  loader := none
  accessFlags := 33
  super := sup
  interfaces := #[]
  cf := none
  fields := #[]
  methods := #[]
  instanceTypes := #[]
  staticTypes := #[]
  resolved := #[]
  callSites := []
  init := .initialized
  statics := none
  mirror := none

def pool0 : Array CpInfo := pool [(5, u "<init>"), (0, u "()V"), (1, .class_ 10), (1, u "java/lang/Object")] 113

def k0m0 : Method := { name := "<init>", desc := "()V", sig := { parameters := [], returnType := none }, accessFlags := 1, code := none }
/-- java/lang/Object -/
def k0 : Class := { plain "java/lang/Object" none with
  accessFlags := 33
  interfaces := #[]
  cf := some (fileOf pool0 8 #[] #[{ accessFlags := 1, nameIndex := 5, descriptorIndex := 6, attributes := #[] }] 33 0 #[] #[])
  fields := #[]
  methods := #[k0m0]
  instanceTypes := #[]
  staticTypes := #[]
  resolved := Array.replicate 124 none
  statics := none }

def pool1 : Array CpInfo := pool [(2, .class_ 4), (1, u "java/lang/Object"), (0, u "<init>"), (0, u "()V"), (2, .long 9223372036854775807), (1, .long 9223372036854775808), (1, .long 9223372036854775806), (1, .long 9223372036854775809), (1, .long 18446744073709551615), (1, .methodref 20 21), (0, .class_ 22), (0, .nameAndType 23 24), (0, u "com/example/querygraft/querygraft/format/MillionthsBeyondPinLaw"), (0, u "pick"), (0, u "(JI)J"), (0, .methodref 26 27), (0, .class_ 28), (0, .nameAndType 29 30), (0, u "com/example/querygraft/querygraft/format/Millionths"), (0, u "beyond"), (0, u "(J)Z"), (0, .methodref 26 32), (0, .nameAndType 33 34), (0, u "of"), (0, u "(D)J"), (0, .methodref 26 36), (0, .nameAndType 37 38), (0, u "holds"), (0, u "(D)Z"), (3, u "law"), (0, u "(JIII)Z")] 2

def k1m0 : Method := { name := "<init>", desc := "()V", sig := { parameters := [], returnType := none }, accessFlags := 2, code := none }
def k1c1 : Code := { maxStack := 2, maxLocals := 4, code := method_2_code, exceptionTable := #[], attributes := #[] }
def k1m1 : Method := { name := "pick", desc := "(JI)J", sig := { parameters := [.long, .int], returnType := some .long }, accessFlags := 10, code := some k1c1 }
def k1c2 : Code := { maxStack := 5, maxLocals := 12, code := code, exceptionTable := #[], attributes := #[] }
def k1m2 : Method := { name := "law", desc := "(JIII)Z", sig := { parameters := [.long, .int, .int, .int], returnType := some .boolean }, accessFlags := 9, code := some k1c2 }
/-- com/example/querygraft/querygraft/format/MillionthsBeyondPinLaw -/
def k1 : Class := { plain "com/example/querygraft/querygraft/format/MillionthsBeyondPinLaw" (some 0) with
  accessFlags := 49
  interfaces := #[]
  cf := some (fileOf pool1 20 #[] #[{ accessFlags := 2, nameIndex := 5, descriptorIndex := 6, attributes := #[] }, { accessFlags := 10, nameIndex := 23, descriptorIndex := 24, attributes := #[] }, { accessFlags := 9, nameIndex := 42, descriptorIndex := 43, attributes := #[] }] 49 2 #[] #[])
  fields := #[]
  methods := #[k1m0, k1m1, k1m2]
  instanceTypes := #[]
  staticTypes := #[]
  resolved := Array.replicate 46 none
  statics := none }

def pool2 : Array CpInfo := pool [(2, .class_ 4), (1, u "java/lang/Object"), (0, u "<init>"), (0, u "()V"), (0, .class_ 8), (0, u "com/example/querygraft/querygraft/format/Millionths"), (0, .double 4696837146684686336), (1, .methodref 12 13), (0, .class_ 14), (0, .nameAndType 15 16), (0, u "java/lang/Math"), (0, u "round"), (0, u "(D)J"), (0, .methodref 12 18), (0, .nameAndType 19 20), (0, u "abs"), (0, u "(D)D"), (0, .double 4890909195324358656), (3, .long 9223372036854775807), (1, .long 9223372036854775808), (68, u "holds"), (0, u "(D)Z"), (2, u "of"), (9, u "HALF"), (0, u "Ljava/math/BigDecimal;"), (36, u "DECIMALS"), (0, u "I"), (2, u "ONE"), (0, u "J"), (3, u "beyond"), (0, u "(J)Z")] 55

def k2m0 : Method := { name := "<init>", desc := "()V", sig := { parameters := [], returnType := none }, accessFlags := 2, code := none }
def k2c1 : Code := { maxStack := 4, maxLocals := 2, code := prog_41_method_2_code, exceptionTable := #[], attributes := #[] }
def k2m1 : Method := { name := "of", desc := "(D)J", sig := { parameters := [.double], returnType := some .long }, accessFlags := 8, code := some k2c1 }
def k2c2 : Code := { maxStack := 4, maxLocals := 2, code := prog_41_method_3_code, exceptionTable := #[], attributes := #[] }
def k2m2 : Method := { name := "holds", desc := "(D)Z", sig := { parameters := [.double], returnType := some .boolean }, accessFlags := 8, code := some k2c2 }
def k2c3 : Code := { maxStack := 4, maxLocals := 2, code := prog_41_method_4_code, exceptionTable := #[], attributes := #[] }
def k2m3 : Method := { name := "beyond", desc := "(J)Z", sig := { parameters := [.long], returnType := some .boolean }, accessFlags := 8, code := some k2c3 }
/-- com/example/querygraft/querygraft/format/Millionths -/
def k2 : Class := { plain "com/example/querygraft/querygraft/format/Millionths" (some 0) with
  accessFlags := 48
  interfaces := #[]
  cf := some (fileOf pool2 7 #[] #[{ accessFlags := 2, nameIndex := 5, descriptorIndex := 6, attributes := #[] }, { accessFlags := 8, nameIndex := 100, descriptorIndex := 16, attributes := #[] }, { accessFlags := 8, nameIndex := 96, descriptorIndex := 97, attributes := #[] }, { accessFlags := 8, nameIndex := 157, descriptorIndex := 158, attributes := #[] }] 48 2 #[] #[{ accessFlags := 26, nameIndex := 148, descriptorIndex := 149, attributes := #[] }, { accessFlags := 26, nameIndex := 152, descriptorIndex := 153, attributes := #[] }, { accessFlags := 26, nameIndex := 110, descriptorIndex := 111, attributes := #[] }])
  fields := #[{ name := "DECIMALS", type := .int, accessFlags := 26, slot := 0, constantValue := 0 }, { name := "ONE", type := .long, accessFlags := 26, slot := 1, constantValue := 0 }, { name := "HALF", type := (.object "java/math/BigDecimal"), accessFlags := 26, slot := 2, constantValue := 0 }]
  methods := #[k2m0, k2m1, k2m2, k2m3]
  instanceTypes := #[]
  staticTypes := #[.int, .long, (.object "java/math/BigDecimal")]
  resolved := Array.replicate 214 none
  statics := none }

def pool3 : Array CpInfo := pool [(1, .class_ 2), (0, u "java/lang/Math"), (1, .class_ 6), (1, u "java/lang/Object"), (0, u "<init>"), (0, u "()V"), (5, u "(D)D"), (64, .methodref 80 81), (0, .class_ 82), (0, .nameAndType 83 84), (0, u "java/lang/Double"), (0, u "doubleToRawLongBits"), (0, u "(D)J"), (2, .long 9218868437227405312), (1, .long 1074), (1, .long 18446744073709551552), (1, .long 4503599627370495), (1, .long 4503599627370496), (2, .class_ 100), (1, u "java/lang/Math$RandomNumberGeneratorHolder"), (23, u "abs"), (47, u "negativeZeroFloatBits"), (0, u "J"), (2, u "negativeZeroDoubleBits"), (68, u "$assertionsDisabled"), (0, u "Z"), (91, u "twoToTheDoubleScaleDown"), (0, u "D"), (4, u "twoToTheDoubleScaleUp"), (9, u "E"), (3, u "PI"), (2, u "TAU"), (2, u "DEGREES_TO_RADIANS"), (0, u "RADIANS_TO_DEGREES"), (17, u "round")] 76

def k3m0 : Method := { name := "<init>", desc := "()V", sig := { parameters := [], returnType := none }, accessFlags := 2, code := none }
def k3c1 : Code := { maxStack := 4, maxLocals := 10, code := jdk_29_method_22_code, exceptionTable := #[], attributes := #[] }
def k3m1 : Method := { name := "round", desc := "(D)J", sig := { parameters := [.double], returnType := some .long }, accessFlags := 9, code := some k3c1 }
def k3c2 : Code := { maxStack := 4, maxLocals := 2, code := jdk_29_method_64_code, exceptionTable := #[], attributes := #[] }
def k3m2 : Method := { name := "abs", desc := "(D)D", sig := { parameters := [.double], returnType := some .double }, accessFlags := 9, code := some k3c2 }
/-- java/lang/Math -/
def k3 : Class := { plain "java/lang/Math" (some 0) with
  accessFlags := 49
  interfaces := #[]
  cf := some (fileOf pool3 1 #[.nestMembers #[98]] #[{ accessFlags := 2, nameIndex := 7, descriptorIndex := 8, attributes := #[] }, { accessFlags := 9, nameIndex := 383, descriptorIndex := 84, attributes := #[] }, { accessFlags := 9, nameIndex := 124, descriptorIndex := 14, attributes := #[] }] 49 4 #[] #[{ accessFlags := 25, nameIndex := 354, descriptorIndex := 339, attributes := #[] }, { accessFlags := 25, nameIndex := 358, descriptorIndex := 339, attributes := #[] }, { accessFlags := 25, nameIndex := 361, descriptorIndex := 339, attributes := #[] }, { accessFlags := 26, nameIndex := 364, descriptorIndex := 339, attributes := #[] }, { accessFlags := 26, nameIndex := 365, descriptorIndex := 339, attributes := #[] }, { accessFlags := 26, nameIndex := 172, descriptorIndex := 173, attributes := #[] }, { accessFlags := 26, nameIndex := 176, descriptorIndex := 173, attributes := #[] }, { accessFlags := 8, nameIndex := 344, descriptorIndex := 339, attributes := #[] }, { accessFlags := 8, nameIndex := 338, descriptorIndex := 339, attributes := #[] }, { accessFlags := 4120, nameIndex := 245, descriptorIndex := 246, attributes := #[] }])
  fields := #[{ name := "E", type := .double, accessFlags := 25, slot := 0, constantValue := 0 }, { name := "PI", type := .double, accessFlags := 25, slot := 1, constantValue := 0 }, { name := "TAU", type := .double, accessFlags := 25, slot := 2, constantValue := 0 }, { name := "DEGREES_TO_RADIANS", type := .double, accessFlags := 26, slot := 3, constantValue := 0 }, { name := "RADIANS_TO_DEGREES", type := .double, accessFlags := 26, slot := 4, constantValue := 0 }, { name := "negativeZeroFloatBits", type := .long, accessFlags := 26, slot := 5, constantValue := 0 }, { name := "negativeZeroDoubleBits", type := .long, accessFlags := 26, slot := 6, constantValue := 0 }, { name := "twoToTheDoubleScaleUp", type := .double, accessFlags := 8, slot := 7, constantValue := 0 }, { name := "twoToTheDoubleScaleDown", type := .double, accessFlags := 8, slot := 8, constantValue := 0 }, { name := "$assertionsDisabled", type := .boolean, accessFlags := 4120, slot := 9, constantValue := 0 }]
  methods := #[k3m0, k3m1, k3m2]
  instanceTypes := #[]
  staticTypes := #[.double, .double, .double, .double, .double, .long, .long, .double, .double, .boolean]
  resolved := Array.replicate 460 none
  statics := none }

def pool4 : Array CpInfo := pool [(1, .class_ 2), (0, u "java/io/Serializable"), (0, .class_ 4), (0, u "java/lang/Object")] 2

/-- java/io/Serializable -/
def k4 : Class := { plain "java/io/Serializable" (some 0) with
  accessFlags := 1537
  interfaces := #[]
  cf := some (fileOf pool4 1 #[] #[] 1537 3 #[] #[])
  fields := #[]
  methods := #[]
  instanceTypes := #[]
  staticTypes := #[]
  resolved := Array.replicate 7 none
  statics := none }

def pool5 : Array CpInfo := pool [(2, .class_ 4), (1, u "java/lang/Object"), (0, u "<init>"), (0, u "()V"), (1, .class_ 10), (1, u "java/lang/Number"), (2, .class_ 14), (0, u "java/io/Serializable"), (0, u "serialVersionUID"), (0, u "J")] 20

def k5m0 : Method := { name := "<init>", desc := "()V", sig := { parameters := [], returnType := none }, accessFlags := 1, code := none }
/-- java/lang/Number -/
def k5 : Class := { plain "java/lang/Number" (some 0) with
  accessFlags := 1057
  interfaces := #[4]
  cf := some (fileOf pool5 8 #[] #[{ accessFlags := 1, nameIndex := 5, descriptorIndex := 6, attributes := #[] }] 1057 2 #[13] #[{ accessFlags := 26, nameIndex := 15, descriptorIndex := 16, attributes := #[] }])
  fields := #[{ name := "serialVersionUID", type := .long, accessFlags := 26, slot := 0, constantValue := 0 }]
  methods := #[k5m0]
  instanceTypes := #[]
  staticTypes := #[.long]
  resolved := Array.replicate 37 none
  statics := none }

def pool6 : Array CpInfo := pool [(1, .class_ 2), (0, u "java/lang/Comparable"), (0, .class_ 4), (0, u "java/lang/Object")] 7

/-- java/lang/Comparable -/
def k6 : Class := { plain "java/lang/Comparable" (some 0) with
  accessFlags := 1537
  interfaces := #[]
  cf := some (fileOf pool6 1 #[] #[] 1537 3 #[] #[])
  fields := #[]
  methods := #[]
  instanceTypes := #[]
  staticTypes := #[]
  resolved := Array.replicate 12 none
  statics := none }

def pool7 : Array CpInfo := pool [(1, .class_ 2), (0, u "java/lang/constant/Constable"), (0, .class_ 4), (0, u "java/lang/Object")] 6

/-- java/lang/constant/Constable -/
def k7 : Class := { plain "java/lang/constant/Constable" (some 0) with
  accessFlags := 1537
  interfaces := #[]
  cf := some (fileOf pool7 1 #[] #[] 1537 3 #[] #[])
  fields := #[]
  methods := #[]
  instanceTypes := #[]
  staticTypes := #[]
  resolved := Array.replicate 11 none
  statics := none }

def pool8 : Array CpInfo := pool [(1, .class_ 2), (0, u "java/lang/constant/ConstantDesc"), (0, .class_ 4), (0, u "java/lang/Object")] 32

/-- java/lang/constant/ConstantDesc -/
def k8 : Class := { plain "java/lang/constant/ConstantDesc" (some 0) with
  accessFlags := 1537
  interfaces := #[]
  cf := some (fileOf pool8 1 #[] #[] 1537 3 #[] #[])
  fields := #[]
  methods := #[]
  instanceTypes := #[]
  staticTypes := #[]
  resolved := Array.replicate 37 none
  statics := none }

def pool9 : Array CpInfo := pool [(1, .class_ 2), (0, u "java/lang/Double"), (46, u "(D)J"), (64, .class_ 116), (1, u "java/lang/Number"), (3, u "value"), (0, u "D"), (14, u "doubleToRawLongBits"), (36, u "TYPE"), (0, u "Ljava/lang/Class;"), (0, .class_ 176), (0, u "java/lang/Comparable"), (0, .class_ 178), (0, u "java/lang/constant/Constable"), (0, .class_ 180), (0, u "java/lang/constant/ConstantDesc"), (0, u "POSITIVE_INFINITY"), (3, u "NEGATIVE_INFINITY"), (2, u "NaN"), (2, u "MAX_VALUE"), (0, u "MIN_NORMAL"), (0, u "MIN_VALUE"), (2, u "SIZE"), (0, u "I"), (1, u "PRECISION"), (1, u "MAX_EXPONENT"), (1, u "MIN_EXPONENT"), (1, u "BYTES"), (3, u "serialVersionUID"), (0, u "J")] 79

def k9m0 : Method := { name := "doubleToRawLongBits", desc := "(D)J", sig := { parameters := [.double], returnType := some .long }, accessFlags := 265, code := none }
/-- java/lang/Double -/
def k9 : Class := { plain "java/lang/Double" (some 5) with
  accessFlags := 49
  interfaces := #[6, 7, 8]
  cf := some (fileOf pool9 1 #[] #[{ accessFlags := 265, nameIndex := 136, descriptorIndex := 49, attributes := #[] }] 49 114 #[175, 177, 179] #[{ accessFlags := 25, nameIndex := 181, descriptorIndex := 121, attributes := #[] }, { accessFlags := 25, nameIndex := 185, descriptorIndex := 121, attributes := #[] }, { accessFlags := 25, nameIndex := 188, descriptorIndex := 121, attributes := #[] }, { accessFlags := 25, nameIndex := 191, descriptorIndex := 121, attributes := #[] }, { accessFlags := 25, nameIndex := 192, descriptorIndex := 121, attributes := #[] }, { accessFlags := 25, nameIndex := 193, descriptorIndex := 121, attributes := #[] }, { accessFlags := 25, nameIndex := 196, descriptorIndex := 197, attributes := #[] }, { accessFlags := 25, nameIndex := 199, descriptorIndex := 197, attributes := #[] }, { accessFlags := 25, nameIndex := 201, descriptorIndex := 197, attributes := #[] }, { accessFlags := 25, nameIndex := 203, descriptorIndex := 197, attributes := #[] }, { accessFlags := 25, nameIndex := 205, descriptorIndex := 197, attributes := #[] }, { accessFlags := 25, nameIndex := 173, descriptorIndex := 174, attributes := #[] }, { accessFlags := 18, nameIndex := 120, descriptorIndex := 121, attributes := #[] }, { accessFlags := 26, nameIndex := 209, descriptorIndex := 210, attributes := #[] }])
  fields := #[{ name := "POSITIVE_INFINITY", type := .double, accessFlags := 25, slot := 0, constantValue := 0 }, { name := "NEGATIVE_INFINITY", type := .double, accessFlags := 25, slot := 1, constantValue := 0 }, { name := "NaN", type := .double, accessFlags := 25, slot := 2, constantValue := 0 }, { name := "MAX_VALUE", type := .double, accessFlags := 25, slot := 3, constantValue := 0 }, { name := "MIN_NORMAL", type := .double, accessFlags := 25, slot := 4, constantValue := 0 }, { name := "MIN_VALUE", type := .double, accessFlags := 25, slot := 5, constantValue := 0 }, { name := "SIZE", type := .int, accessFlags := 25, slot := 6, constantValue := 0 }, { name := "PRECISION", type := .int, accessFlags := 25, slot := 7, constantValue := 0 }, { name := "MAX_EXPONENT", type := .int, accessFlags := 25, slot := 8, constantValue := 0 }, { name := "MIN_EXPONENT", type := .int, accessFlags := 25, slot := 9, constantValue := 0 }, { name := "BYTES", type := .int, accessFlags := 25, slot := 10, constantValue := 0 }, { name := "TYPE", type := (.object "java/lang/Class"), accessFlags := 25, slot := 11, constantValue := 0 }, { name := "value", type := .double, accessFlags := 18, slot := 0, constantValue := 0 }, { name := "serialVersionUID", type := .long, accessFlags := 26, slot := 12, constantValue := 0 }]
  methods := #[k9m0]
  instanceTypes := #[.double]
  staticTypes := #[.double, .double, .double, .double, .double, .double, .int, .int, .int, .int, .int, (.object "java/lang/Class"), .long]
  resolved := Array.replicate 290 none
  statics := none }

def pool10 : Array CpInfo := pool [(1, u "java/lang/Cloneable"), (0, .class_ 1), (0, u "java/lang/Object"), (0, .class_ 3)] 3

/-- java/lang/Cloneable -/
def k10 : Class := { plain "java/lang/Cloneable" (some 0) with
  accessFlags := 1537
  interfaces := #[]
  cf := some (fileOf pool10 2 #[] #[] 1537 4 #[] #[])
  fields := #[]
  methods := #[]
  instanceTypes := #[]
  staticTypes := #[]
  resolved := Array.replicate 8 none
  statics := none }

/-- the primitive byte -/
def k11 : Class := { plain "byte" none with kind := .primitive 'B', accessFlags := 0x411 }
/-- [B -/
def k12 : Class := { plain "[B" (some 0) with kind := .array 11 .byte, interfaces := #[10, 4], accessFlags := 1041 }

/-- the primitive int -/
def k13 : Class := { plain "int" none with kind := .primitive 'I', accessFlags := 0x411 }
/-- [I -/
def k14 : Class := { plain "[I" (some 0) with kind := .array 13 .int, interfaces := #[10, 4], accessFlags := 1041 }

def heap : Heap := #[]
def classes : Array Class := #[k0, k1, k2, k3, k4, k5, k6, k7, k8, k9, k10, k11, k12, k13, k14]
def interned : List (Array UInt16 × Addr) := []
def slotsUsed : Nat := 0
def theMethod : MethodId := ⟨1, 2⟩
def args0 : Array Value := #[.long 5, .int 6, .int 7, .int 8]
def aboutOver (below : List Frame) : State where
  vm := { classes := classes, interned := interned.toArray }
  heap := heap
  slotsUsed := slotsUsed
  threads := #[{ frames := .invoking theMethod args0 :: below }]
def below0 : List Frame := [.native { method := ⟨0, 0⟩, args := #[] }]
def about1 : State := aboutOver below0
def p0 : Program := .bare "" "" ""
def e0 : Env := launch0.env 0 0 0
theorem w_frames : about1.frames = Frame.invoking theMethod args0 :: below0 := rfl
set_option maxRecDepth 65536 in
theorem w_args : argsFit about1.vm theMethod args0 = true := by decide +kernel
set_option maxRecDepth 65536 in
theorem w_heap : heapFits about1 = true := by decide +kernel
set_option maxRecDepth 65536 in
theorem w_runnable : about1.curStatus? = some .runnable := by decide +kernel
set_option maxRecDepth 65536 in
theorem w_alone : about1.alone = true := by decide +kernel
set_option maxRecDepth 65536 in
theorem w_named : about1.methodNamed? x = some theMethod := by decide +kernel
set_option maxRecDepth 65536 in
theorem w_hears : about1.hears theMethod below0 = true := by decide +kernel
set_option maxRecDepth 65536 in
theorem w_ripe : about1.ripe theMethod args0 below0 = true := by decide +kernel
theorem w_running : about1.status = .running := rfl
set_option maxRecDepth 65536 in
theorem w_room : about1.hasRoom e0.platform room_1 = true :=
  launch0.hasRoom_least _ room_1 (by decide +kernel) (by decide +kernel) (by decide +kernel) (by decide +kernel) (by decide +kernel) (by decide +kernel)
theorem allAtoms_all (ts : List Jvm.Cond) (a : Array Jvm.Value) (st : Jvm.State) : (allAtoms ts).before a st = ts.all (fun c => c.before a st) := by
  induction ts with
  | nil => rfl
  | cons c t ih =>
    show (Jvm.Cond.and c (allAtoms t)).before a st = _
    rw [Jvm.Cond.before_and, ih, List.all_cons]
def words1 : List Jvm.Cond := Jvm.Cond.code x code maxLocals ret :: tables_1
/-- a 'code' word, met by the world's own term for the bytes: nothing is compared byte by byte -/
theorem code_word {y : MethodName} {bytes : ByteArray} {mx : Nat} {rt : Option FieldType} {a : Array Value} {s : State} {m : MethodId} {meth : Method} {c : Code} (h1 : s.methodNamed? y = some m) (h2 : s.vm.method? m = some meth) (h3 : meth.code = some c) (h4 : c.code = bytes)
    (h5 : (c.maxLocals == mx && c.exceptionTable.isEmpty && decide (c.maxStack ≤ mostOperands) && decide (meth.sig.returnType = rt) && !meth.locks && decide (parseMethodDescriptor y.desc = some meth.sig)) = true) : (Jvm.Cond.code y bytes mx rt).before a s = true := by
  simp only [Bool.and_eq_true, beq_iff_eq, Bool.not_eq_true', decide_eq_true_eq] at h5
  obtain ⟨⟨⟨⟨⟨g1, g2⟩, g3⟩, g4⟩, g5⟩, g6⟩ := h5
  simp [Cond.before, Cond.holds, Cond.value, h1, h2, h3, h4, g1, g2, g3, g4, g5, g6]
def isCode : Jvm.Cond → Bool
  | .code _ _ _ _ => true
  | _ => false
theorem all_split {L : List Jvm.Cond} {P : Jvm.Cond → Bool} (h1 : L.all (fun c => isCode c || P c) = true) (h2 : ∀ c ∈ L.filter isCode, P c = true) : L.all P = true := by
  refine List.all_eq_true.mpr fun c hc => ?_
  have h := List.all_eq_true.mp h1 c hc
  rcases Bool.eq_false_or_eq_true (isCode c) with hi | hi
  · exact h2 c (List.mem_filter.mpr ⟨hc, hi⟩)
  · simpa [hi] using h
set_option maxRecDepth 65536 in
theorem w_c0 : (Jvm.Cond.code x code maxLocals ret).before args0 about1 = true := code_word (m := ⟨1, 2⟩) (meth := k1m2) (c := k1c2) (by decide +kernel) rfl rfl rfl (by decide +kernel)
set_option maxRecDepth 65536 in
theorem w_c1 : (Jvm.Cond.code ({ cls := "com/example/querygraft/querygraft/format/MillionthsBeyondPinLaw", name := "pick", desc := "(JI)J" } : Jvm.MethodName) method_2_code (4 : Nat) (Option.some Jvm.ClassFile.FieldType.long)).before args0 about1 = true := code_word (m := ⟨1, 1⟩) (meth := k1m1) (c := k1c1) (by decide +kernel) rfl rfl rfl (by decide +kernel)
set_option maxRecDepth 65536 in
theorem w_c2 : (Jvm.Cond.code ({ cls := "com/example/querygraft/querygraft/format/Millionths", name := "beyond", desc := "(J)Z" } : Jvm.MethodName) prog_41_method_4_code (2 : Nat) (Option.some Jvm.ClassFile.FieldType.boolean)).before args0 about1 = true := code_word (m := ⟨2, 3⟩) (meth := k2m3) (c := k2c3) (by decide +kernel) rfl rfl rfl (by decide +kernel)
set_option maxRecDepth 65536 in
theorem w_c3 : (Jvm.Cond.code ({ cls := "com/example/querygraft/querygraft/format/Millionths", name := "of", desc := "(D)J" } : Jvm.MethodName) prog_41_method_2_code (2 : Nat) (Option.some Jvm.ClassFile.FieldType.long)).before args0 about1 = true := code_word (m := ⟨2, 1⟩) (meth := k2m1) (c := k2c1) (by decide +kernel) rfl rfl rfl (by decide +kernel)
set_option maxRecDepth 65536 in
theorem w_c4 : (Jvm.Cond.code ({ cls := "java/lang/Math", name := "round", desc := "(D)J" } : Jvm.MethodName) jdk_29_method_22_code (10 : Nat) (Option.some Jvm.ClassFile.FieldType.long)).before args0 about1 = true := code_word (m := ⟨3, 1⟩) (meth := k3m1) (c := k3c1) (by decide +kernel) rfl rfl rfl (by decide +kernel)
set_option maxRecDepth 65536 in
theorem w_c5 : (Jvm.Cond.code ({ cls := "com/example/querygraft/querygraft/format/Millionths", name := "holds", desc := "(D)Z" } : Jvm.MethodName) prog_41_method_3_code (2 : Nat) (Option.some Jvm.ClassFile.FieldType.boolean)).before args0 about1 = true := code_word (m := ⟨2, 2⟩) (meth := k2m2) (c := k2c2) (by decide +kernel) rfl rfl rfl (by decide +kernel)
set_option maxRecDepth 65536 in
theorem w_c6 : (Jvm.Cond.code ({ cls := "java/lang/Math", name := "abs", desc := "(D)D" } : Jvm.MethodName) jdk_29_method_64_code (2 : Nat) (Option.some Jvm.ClassFile.FieldType.double)).before args0 about1 = true := code_word (m := ⟨3, 2⟩) (meth := k3m2) (c := k3c2) (by decide +kernel) rfl rfl rfl (by decide +kernel)
def codes1 : List Jvm.Cond := [Jvm.Cond.code x code maxLocals ret, Jvm.Cond.code ({ cls := "com/example/querygraft/querygraft/format/MillionthsBeyondPinLaw", name := "pick", desc := "(JI)J" } : Jvm.MethodName) method_2_code (4 : Nat) (Option.some Jvm.ClassFile.FieldType.long), Jvm.Cond.code ({ cls := "com/example/querygraft/querygraft/format/Millionths", name := "beyond", desc := "(J)Z" } : Jvm.MethodName) prog_41_method_4_code (2 : Nat) (Option.some Jvm.ClassFile.FieldType.boolean), Jvm.Cond.code ({ cls := "com/example/querygraft/querygraft/format/Millionths", name := "of", desc := "(D)J" } : Jvm.MethodName) prog_41_method_2_code (2 : Nat) (Option.some Jvm.ClassFile.FieldType.long), Jvm.Cond.code ({ cls := "java/lang/Math", name := "round", desc := "(D)J" } : Jvm.MethodName) jdk_29_method_22_code (10 : Nat) (Option.some Jvm.ClassFile.FieldType.long), Jvm.Cond.code ({ cls := "com/example/querygraft/querygraft/format/Millionths", name := "holds", desc := "(D)Z" } : Jvm.MethodName) prog_41_method_3_code (2 : Nat) (Option.some Jvm.ClassFile.FieldType.boolean), Jvm.Cond.code ({ cls := "java/lang/Math", name := "abs", desc := "(D)D" } : Jvm.MethodName) jdk_29_method_64_code (2 : Nat) (Option.some Jvm.ClassFile.FieldType.double)]
set_option maxRecDepth 65536 in
theorem codes_eq : words1.filter isCode = codes1 := rfl
theorem w_codes : ∀ c ∈ words1.filter isCode, c.before args0 about1 = true := by
  rw [codes_eq]
  intro c hc
  simp only [codes1, List.mem_cons, List.not_mem_nil, or_false] at hc
  rcases hc with rfl | rfl | rfl | rfl | rfl | rfl | rfl
  · exact w_c0
  · exact w_c1
  · exact w_c2
  · exact w_c3
  · exact w_c4
  · exact w_c5
  · exact w_c6
set_option maxRecDepth 65536 in
theorem w_t1 : (words1.take 24).all (fun c => isCode c || c.before args0 about1) = true := by decide +kernel
set_option maxRecDepth 65536 in
theorem w_t2 : (words1.drop 24).all (fun c => isCode c || c.before args0 about1) = true := by decide +kernel
theorem w_tables : (allAtoms (Jvm.Cond.code x code maxLocals ret :: tables_1)).before args0 about1 = true := by
  rw [allAtoms_all]
  show words1.all (fun c => c.before args0 about1) = true
  refine all_split ?_ w_codes
  rw [← List.take_append_drop 24 words1, List.all_append, w_t1, w_t2]
  rfl
set_option maxRecDepth 65536 in
theorem w_case : (Jvm.Cond.and given_1 narrow_1).before args0 about1 = true := by decide +kernel
theorem w_applies : (headSpec (Jvm.Cond.code x code maxLocals ret :: tables_1) room_1).applies x e0.platform about1 = true :=
  (Spec.applies_iff w_frames).mpr ⟨w_running, w_runnable, w_alone, w_named, w_hears, w_ripe, w_room, w_tables⟩
theorem atStart : AtStart classFile x code maxLocals ret World_1 tables_1 room_1 Calls_1 rest_1 Pre_1 launch0 p0 e0 about1 theMethod args0 below0 :=
  ⟨lists_1, trivial, launch0.admits_env _ _ _, launch0.least_env, fairChoices_fair.cas, fairChoices_fair.clock, w_frames, w_args, w_heap, w_applies, trivial, trivial, w_case⟩
end start1
theorem witness_1 : WitnessClaimed_1 := ⟨start1.p0, start1.e0, start1.about1, start1.theMethod, start1.args0, start1.below0, start1.atStart⟩
end Jvm.Pilot.@@N@@
