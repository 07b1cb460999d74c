import JvmDerived
import JvmDerived.Pilot.@@N@@Statement
import JvmDerived.Pilot.@@N@@Code
set_option linter.unusedVariables false
set_option linter.unusedSimpArgs false
/- laws to paste: Road.backV, Road.eqW, Road.codOf (cut by pick.py; bodies as the Statement names them) -/
namespace Jvm.Pilot.@@N@@
namespace StrChars
open Jvm Sem ClassFile Op Lib Jvm.Stand Jvm.Free.XT Jvm.Free.ALB Jvm.Free.JM Jvm.Free
open Jvm.Lib.Cold (StaticIs)
/-- a char array whose places are chars -/
def Ch (a : Addr) (A : Cell) (U : State) : Prop := Arr .char a A U ∧ Typed .char A
theorem Ch.mv {a : Addr} {A : Cell} {U U' : State} (h : Ch a A U) (hal : U.vm.Alike U'.vm) (hh : U'.heap = U.heap) : Ch a A U' := ⟨h.1.mv hal hh, h.2⟩
theorem Ch.keep {a : Addr} {A : Cell} {U U' : State} (h : Ch a A U) (hal : U.vm.Alike U'.vm) (hk : U'.heap[a]? = some A) : Ch a A U' := ⟨h.1.keep hal hk, h.2⟩
/-- what place i of a char[]'s cell holds -/
def cv (A : Cell) (i : Nat) : Int32 := match A.slots[i]? with | some (.int x) => x | _ => 0
theorem Ch.get {a : Addr} {A : Cell} {U : State} (h : Ch a A U) {i : Nat} (hi : i < A.slots.size) : A.slots[i]? = some (.int (cv A i)) := by
  have e := Array.getElem?_eq_getElem hi
  have f := h.2 i _ e
  unfold cv; rw [e]
  generalize A.slots[i] = v at f
  cases v <;> simp [fits] at f ⊢
/-- the byte that i2b leaves of a char -/
def lo8 (x : Int32) : Int32 := x.toInt8.toInt32
theorem fits_lo8 (y : Int32) : fits .byte (.int (lo8 y)) = true := by
  have h1 := y.toInt8.le_toInt
  have h2 := y.toInt8.toInt_lt
  simp only [lo8, fits, Bool.and_eq_true, decide_eq_true_eq, Int32.le_iff_toInt_le, Int8.toInt_toInt32, show (-128 : Int32).toInt = -128 from by decide, show (127 : Int32).toInt = 127 from by decide]
  omega
/-- A' is A but that each place j of lo .. hi - 1 holds f j -/
def Laid (A A' : Cell) (lo hi : Nat) (f : Nat → Value) : Prop := A'.cls = A.cls ∧ A'.vm = A.vm ∧ A'.slots.size = A.slots.size ∧ ∀ i, A'.slots[i]? = if lo ≤ i ∧ i < hi then some (f i) else A.slots[i]?
theorem Laid.zero (A : Cell) (lo : Nat) (f : Nat → Value) : Laid A A lo (lo + 0) f := ⟨rfl, rfl, rfl, fun i => by rw [if_neg (by omega)]⟩
theorem Laid.step {A Ak : Cell} {lo k : Nat} {f : Nat → Value} {v : Value} (h : Laid A Ak lo k f) (hlo : lo ≤ k) (hk : k < Ak.slots.size) (hv : v = f k) : Laid A (Ak.setSlot k v) lo (k + 1) f := by
  refine ⟨h.1, h.2.1, by simpa [Cell.setSlot] using h.2.2.1, fun i => ?_⟩
  by_cases e : k = i
  · subst e; rw [Cell.slots_setSlot_self v hk, if_pos (by omega), hv]
  · rw [Cell.slots_setSlot_ne v e, h.2.2.2 i]
    by_cases q : lo ≤ i ∧ i < k
    · rw [if_pos q, if_pos (by omega)]
    · rw [if_neg q, if_neg (by omega)]
def U16 : String := "java/lang/StringUTF16"
namespace Cmp5
def yN : MethodName := ⟨"java/lang/StringUTF16", "compress", "([CI[BII)I"⟩
abbrev yB : ByteArray := jdk_52_method_21_code
theorem d0 : decode yB 0 = .ok (.iconst 0, 1) := by decide +kernel
theorem d1 : decode yB 1 = .ok (.istore 5, 2) := by decide +kernel
theorem d3 : decode yB 3 = .ok (.iload 5, 2) := by decide +kernel
theorem d5 : decode yB 5 = .ok (.iload 4, 2) := by decide +kernel
theorem d7 : decode yB 7 = .ok (.if_icmp (.ge) 37, 3) := by decide +kernel
theorem d10 : decode yB 10 = .ok (.aload_n 0, 1) := by decide +kernel
theorem d11 : decode yB 11 = .ok (.iload_n 1, 1) := by decide +kernel
theorem d12 : decode yB 12 = .ok (.caload, 1) := by decide +kernel
theorem d13 : decode yB 13 = .ok (.istore 6, 2) := by decide +kernel
theorem d15 : decode yB 15 = .ok (.iload 6, 2) := by decide +kernel
theorem d17 : decode yB 17 = .ok (.sipush 255, 3) := by decide +kernel
theorem d20 : decode yB 20 = .ok (.if_icmp (.le) 6, 3) := by decide +kernel
theorem d26 : decode yB 26 = .ok (.aload_n 2, 1) := by decide +kernel
theorem d27 : decode yB 27 = .ok (.iload_n 3, 1) := by decide +kernel
theorem d28 : decode yB 28 = .ok (.iload 6, 2) := by decide +kernel
theorem d30 : decode yB 30 = .ok (.i2b, 1) := by decide +kernel
theorem d31 : decode yB 31 = .ok (.bastore, 1) := by decide +kernel
theorem d32 : decode yB 32 = .ok (.iinc 1 1, 3) := by decide +kernel
theorem d35 : decode yB 35 = .ok (.iinc 3 1, 3) := by decide +kernel
theorem d38 : decode yB 38 = .ok (.iinc 5 1, 3) := by decide +kernel
theorem d41 : decode yB 41 = .ok (.goto (-38), 3) := by decide +kernel
theorem d44 : decode yB 44 = .ok (.iload 4, 2) := by decide +kernel
theorem d46 : decode yB 46 = .ok (.ireturn, 1) := by decide +kernel
def site : List Cond := []
def tab : Cond := tabOf yN yB 7 (some .int) site
def P (b : Addr) (A : Cell) (d : Addr) (B : Cell) (o q len : Nat) (args : Array Value) (s : State) : Prop := args = #[.ref b, .int (Int32.ofNat o), .ref d, .int (Int32.ofNat q), .int (Int32.ofNat len)] ∧ Ch b A s ∧ Arr .byte d B s ∧ b ≠ d ∧ o + len ≤ A.slots.size ∧ q + len ≤ B.slots.size ∧ ∀ i, i < len → ¬ 255 < cv A (o + i)
def E (b : Addr) (A : Cell) (d : Addr) (B : Cell) (o q len : Nat) (r : Option Value) (s u : State) : Prop := r = some (.int (Int32.ofNat len)) ∧ ∃ B', Put d B' s u ∧ Laid B B' q (q + len) (fun j => Value.int (lo8 (cv A (o + (j - q)))))
/-- no char of the range above 255: len; the places written hold each char's low byte -/
theorem law (l : Launch) (b : Addr) (A : Cell) (d : Addr) (B : Cell) (o q len : Nat) : Law l yN 5 5 0 0 yB 7 (some .int) site (P b A d B o q len) (E b A d B o q len) (copyLocs d q len) 0 0 := by
  refine Law.of_walk (plainFor_of_name (by decide +kernel)) (by decide +kernel) (by decide +kernel) (by decide) (fun _ _ h => by rw [h.1]; rfl) (fun _ U U' hal hh h => ⟨h.1, h.2.1.mv hal hh, h.2.2.1.mv hal hh, h.2.2.2⟩) (fun r U U' V V' h1 hal h2 h => ⟨h.1, h.2.elim fun B' q => ⟨B', q.1.mv h1 h2, q.2⟩⟩) ?_
  intro p e s m args below meth c s₁ X0 hexec hbytes hml hret hlk hnm hown hh0 W hP
  obtain ⟨rfl, hA, hB, hne, l1, l2, hp⟩ := hP
  have c1 : Steps p.tables e below (s₁.setTop (entryFrame m #[.ref b, .int (Int32.ofNat o), .ref d, .int (Int32.ofNat q), .int (Int32.ofNat len)] 7)) (s₁.setTop (mkF m 0 #[.val (.ref b), .val (.int (Int32.ofNat o)), .val (.ref d), .val (.int (Int32.ofNat q)), .val (.int (Int32.ofNat len)), .unset, .unset] [])) := entry rfl
  have hA0 := hA.1.mv X0.warmed.alike hh0
  have hB0 := hB.mv X0.warmed.alike hh0
  have a31 := hA.1.2.2.2
  have c2 : Steps p.tables e below (s₁.setTop (entryFrame m #[.ref b, .int (Int32.ofNat o), .ref d, .int (Int32.ofNat q), .int (Int32.ofNat len)] 7)) (s₁.setTop (mkF m 3 #[.val (.ref b), .val (.int (Int32.ofNat o)), .val (.ref d), .val (.int (Int32.ofNat q)), .val (.int (Int32.ofNat len)), .val (.int 0), .unset] [])) := c1.trans (by
    refine iconstV X0.here hexec rfl 0 (hb hbytes d0) (by decide) ?_
    refine XS.istore X0.here hexec rfl (hb hbytes d1) rfl rfl ?_
    exact Steps.refl _)
  have loop : ∀ (r i : Nat), i + r = len → ∀ (z : Slot), (z = .unset ∨ ∃ w, z = .val w ∧ w.category = 1) → ∀ (Tl : State) (Bk : Cell), Stand p l e { frames := 0, locals := 0, cells := 0, slots := 0 } s m #[.ref b, .int (Int32.ofNat o), .ref d, .int (Int32.ofNat q), .int (Int32.ofNat len)] below meth c Tl ([] ++ copyLocs d q i) 0 0 → Put d Bk s₁ Tl → Laid B Bk q (q + i) (fun j => Value.int (lo8 (cv A (o + (j - q))))) →
      Steps p.tables e below (s₁.setTop (entryFrame m #[.ref b, .int (Int32.ofNat o), .ref d, .int (Int32.ofNat q), .int (Int32.ofNat len)] 7)) (Tl.setTop (mkF m 3 #[.val (.ref b), .val (.int (Int32.ofNat (o + i))), .val (.ref d), .val (.int (Int32.ofNat (q + i))), .val (.int (Int32.ofNat len)), .val (.int (Int32.ofNat i)), z] [])) → ∃ (T' : State) (B' : Cell) (z' : Slot), Stand p l e { frames := 0, locals := 0, cells := 0, slots := 0 } s m #[.ref b, .int (Int32.ofNat o), .ref d, .int (Int32.ofNat q), .int (Int32.ofNat len)] below meth c T' ([] ++ copyLocs d q len) 0 0 ∧ Put d B' s₁ T' ∧ Laid B B' q (q + len) (fun j => Value.int (lo8 (cv A (o + (j - q))))) ∧
      Steps p.tables e below (s₁.setTop (entryFrame m #[.ref b, .int (Int32.ofNat o), .ref d, .int (Int32.ofNat q), .int (Int32.ofNat len)] 7)) (T'.setTop (mkF m 3 #[.val (.ref b), .val (.int (Int32.ofNat (o + len))), .val (.ref d), .val (.int (Int32.ofNat (q + len))), .val (.int (Int32.ofNat len)), .val (.int (Int32.ofNat len)), z'] [])) := by
    intro r
    induction r with
    | zero =>
      intro i hi z hz Tl Bk Xl pl fl cl
      have hil : i = len := by omega
      rw [hil] at Xl fl cl
      exact ⟨Tl, Bk, z, Xl, pl, fl, cl⟩
    | succ r ih =>
      intro i hi z hz Tl Bk Xl pl fl cl
      have all := X0.warmed.alike.symm.trans Xl.warmed.alike
      have hAl := hA0.keep all (pl.other hne hA0.1)
      have hBk := hB0.like all pl.1 fl.1 fl.2.1 fl.2.2.1
      have hlt : q + i < Bk.slots.size := by rw [fl.2.2.1]; omega
      have c3 : Steps p.tables e below (s₁.setTop (entryFrame m #[.ref b, .int (Int32.ofNat o), .ref d, .int (Int32.ofNat q), .int (Int32.ofNat len)] 7)) (Tl.setTop (mkF m 12 #[.val (.ref b), .val (.int (Int32.ofNat (o + i))), .val (.ref d), .val (.int (Int32.ofNat (q + i))), .val (.int (Int32.ofNat len)), .val (.int (Int32.ofNat i)), z] [.int (Int32.ofNat (o + i)), .ref b])) := cl.trans (by
        refine XS.iload Xl.here hexec rfl (hb hbytes d3) rfl ?_
        refine XS.iload Xl.here hexec rfl (hb hbytes d5) rfl ?_
        refine XS.icmpNo Xl.here hexec rfl (hb hbytes d7) rfl (ii_ge_f (lt32 (by omega) (by omega))) ?_
        refine XS.aloadN Xl.here hexec rfl (hb hbytes d10) rfl rfl ?_
        refine XS.iloadN Xl.here hexec rfl (hb hbytes d11) rfl ?_
        exact Steps.refl _)
      have c4 : Steps p.tables e below (s₁.setTop (entryFrame m #[.ref b, .int (Int32.ofNat o), .ref d, .int (Int32.ofNat q), .int (Int32.ofNat len)] 7)) (Tl.setTop (mkF m 13 #[.val (.ref b), .val (.int (Int32.ofNat (o + i))), .val (.ref d), .val (.int (Int32.ofNat (q + i))), .val (.int (Int32.ofNat len)), .val (.int (Int32.ofNat i)), z] [.int (cv A (o + i))])) := c3.trans (by
        refine Xl.aget hexec hAl rfl (hA.get (i := o + i) (by omega)) rfl rfl (hb hbytes d12) ?_
        exact Steps.refl _)
      have c5 : Steps p.tables e below (s₁.setTop (entryFrame m #[.ref b, .int (Int32.ofNat o), .ref d, .int (Int32.ofNat q), .int (Int32.ofNat len)] 7)) (Tl.setTop (mkF m 15 #[.val (.ref b), .val (.int (Int32.ofNat (o + i))), .val (.ref d), .val (.int (Int32.ofNat (q + i))), .val (.int (Int32.ofNat len)), .val (.int (Int32.ofNat i)), .val (.int (cv A (o + i)))] [])) := c4.trans (by
        refine XS.istoreS Xl.here hexec rfl (hb hbytes d13) rfl rfl hz ?_
        exact Steps.refl _)
      have c6 : Steps p.tables e below (s₁.setTop (entryFrame m #[.ref b, .int (Int32.ofNat o), .ref d, .int (Int32.ofNat q), .int (Int32.ofNat len)] 7)) (Tl.setTop (mkF m 31 #[.val (.ref b), .val (.int (Int32.ofNat (o + i))), .val (.ref d), .val (.int (Int32.ofNat (q + i))), .val (.int (Int32.ofNat len)), .val (.int (Int32.ofNat i)), .val (.int (cv A (o + i)))] [.int (lo8 (cv A (o + i))), .int (Int32.ofNat (q + i)), .ref d])) := c5.trans (by
        refine XS.iload Xl.here hexec rfl (hb hbytes d15) rfl ?_
        refine sipushV Xl.here hexec rfl 255 (hb hbytes d17) (by decide) ?_
        refine XS.icmpYes Xl.here hexec rfl (pc0 := 20) rfl (hb hbytes d20) rfl (ii_le_t (hp i (by omega))) (by decide) rfl ?_
        refine XS.aloadN Xl.here hexec rfl (hb hbytes d26) rfl rfl ?_
        refine XS.iloadN Xl.here hexec rfl (hb hbytes d27) rfl ?_
        refine XS.iload Xl.here hexec rfl (hb hbytes d28) rfl ?_
        refine i2b Xl.here hexec rfl (hb hbytes d30) rfl ?_
        exact Steps.refl _)
      obtain ⟨T7, X7, p7, st7⟩ := Xl.aput hexec hBk rfl hlt rfl (fits_lo8 (cv A (o + i))) (g := (mkF m 31 #[.val (.ref b), .val (.int (Int32.ofNat (o + i))), .val (.ref d), .val (.int (Int32.ofNat (q + i))), .val (.int (Int32.ofNat len)), .val (.int (Int32.ofNat i)), .val (.int (cv A (o + i)))] [.int (lo8 (cv A (o + i))), .int (Int32.ofNat (q + i)), .ref d])) rfl (rest := []) rfl (hb hbytes d31)
      have c8 : Steps p.tables e below (s₁.setTop (entryFrame m #[.ref b, .int (Int32.ofNat o), .ref d, .int (Int32.ofNat q), .int (Int32.ofNat len)] 7)) (T7.setTop (mkF m 32 #[.val (.ref b), .val (.int (Int32.ofNat (o + i))), .val (.ref d), .val (.int (Int32.ofNat (q + i))), .val (.int (Int32.ofNat len)), .val (.int (Int32.ofNat i)), .val (.int (cv A (o + i)))] [])) := c6.trans (st7 _ (Steps.refl _))
      have c9 : Steps p.tables e below (s₁.setTop (entryFrame m #[.ref b, .int (Int32.ofNat o), .ref d, .int (Int32.ofNat q), .int (Int32.ofNat len)] 7)) (T7.setTop (mkF m 3 #[.val (.ref b), .val (.int (Int32.ofNat (o + i) + 1)), .val (.ref d), .val (.int (Int32.ofNat (q + i) + 1)), .val (.int (Int32.ofNat len)), .val (.int (Int32.ofNat i + 1)), .val (.int (cv A (o + i)))] [])) := c8.trans (by
        refine iincV X7.here hexec rfl 1 (hb hbytes d32) (by decide) rfl rfl ?_
        refine iincV X7.here hexec rfl 1 (hb hbytes d35) (by decide) rfl rfl ?_
        refine iincV X7.here hexec rfl 1 (hb hbytes d38) (by decide) rfl rfl ?_
        refine XS.goto X7.here hexec rfl (pc0 := 41) rfl (hb hbytes d41) (by decide) rfl ?_
        exact Steps.refl _)
      have c10 : Steps p.tables e below (s₁.setTop (entryFrame m #[.ref b, .int (Int32.ofNat o), .ref d, .int (Int32.ofNat q), .int (Int32.ofNat len)] 7)) (T7.setTop (mkF m 3 #[.val (.ref b), .val (.int (Int32.ofNat (o + (i + 1)))), .val (.ref d), .val (.int (Int32.ofNat (q + (i + 1)))), .val (.int (Int32.ofNat len)), .val (.int (Int32.ofNat (i + 1))), .val (.int (cv A (o + i)))] [])) := by
        have := c9
        rw [succ32, succ32, succ32] at this
        exact this
      exact ih (i + 1) (by omega) _ (Or.inr ⟨_, rfl, rfl⟩) T7 _ (by rw [copyLocs_step, ← List.append_assoc]; exact X7) (pl.trans p7) (fl.step (by omega) hlt (by simp)) c10
  obtain ⟨T9, B9, z9, X9, p9, f9, g9⟩ := loop len 0 (by omega) .unset (Or.inl rfl) s₁ B (by simpa [copyLocs] using X0) ⟨hB0.1, fun _ _ => rfl, rfl⟩ (Laid.zero _ _ _) c2
  have c11 : Steps p.tables e below (s₁.setTop (entryFrame m #[.ref b, .int (Int32.ofNat o), .ref d, .int (Int32.ofNat q), .int (Int32.ofNat len)] 7)) (T9.setTop (mkF m 46 #[.val (.ref b), .val (.int (Int32.ofNat (o + len))), .val (.ref d), .val (.int (Int32.ofNat (q + len))), .val (.int (Int32.ofNat len)), .val (.int (Int32.ofNat len)), z9] [.int (Int32.ofNat len)])) := g9.trans (by
    refine XS.iload X9.here hexec rfl (hb hbytes d3) rfl ?_
    refine XS.iload X9.here hexec rfl (hb hbytes d5) rfl ?_
    refine XS.icmpYes X9.here hexec rfl (pc0 := 7) rfl (hb hbytes d7) rfl (ii_ge_t (nlt32 (by omega) (Nat.le_refl _))) (by decide) rfl ?_
    refine XS.iload X9.here hexec rfl (hb hbytes d44) rfl ?_
    exact Steps.refl _)
  exact ⟨T9, some (.int (Int32.ofNat len)), _, _, _, X9, by simp, rfl, rfl, (fun h => by cases h), ⟨rfl, B9, p9.from hh0, f9⟩, fun fs hl => c11.trans (X9.ireturnOut hexec hret rfl (Or.inl rfl) (hb hbytes d46) hl)⟩
end Cmp5
namespace Cmp3
def yN : MethodName := ⟨"java/lang/StringUTF16", "compress", "([CII)[B"⟩
abbrev yB : ByteArray := jdk_52_method_16_code
theorem d0 : decode yB 0 = .ok (.iload_n 2, 1) := by decide +kernel
theorem d1 : decode yB 1 = .ok (.newarray .byte, 2) := by decide +kernel
theorem d3 : decode yB 3 = .ok (.astore_n 3, 1) := by decide +kernel
theorem d4 : decode yB 4 = .ok (.aload_n 0, 1) := by decide +kernel
theorem d5 : decode yB 5 = .ok (.iload_n 1, 1) := by decide +kernel
theorem d6 : decode yB 6 = .ok (.aload_n 3, 1) := by decide +kernel
theorem d7 : decode yB 7 = .ok (.iconst 0, 1) := by decide +kernel
theorem d8 : decode yB 8 = .ok (.iload_n 2, 1) := by decide +kernel
theorem d9 : decode yB 9 = .ok (.invokestatic 115, 3) := by decide +kernel
theorem d12 : decode yB 12 = .ok (.istore 4, 2) := by decide +kernel
theorem d14 : decode yB 14 = .ok (.iload 4, 2) := by decide +kernel
theorem d16 : decode yB 16 = .ok (.iload_n 2, 1) := by decide +kernel
theorem d17 : decode yB 17 = .ok (.if_icmp (.eq) 40, 3) := by decide +kernel
theorem d57 : decode yB 57 = .ok (.aload_n 3, 1) := by decide +kernel
theorem d58 : decode yB 58 = .ok (.areturn, 1) := by decide +kernel
def site : List Cond := [.arrayClass .byte, Cmp5.tab] ++ staticW U16 115 Cmp5.yN
def tab : Cond := tabOf yN yB 6 (some (.array .byte)) site
def P (b : Addr) (A : Cell) (o len : Nat) (args : Array Value) (s : State) : Prop := args = #[.ref b, .int (Int32.ofNat o), .int (Int32.ofNat len)] ∧ Ch b A s ∧ o + len ≤ A.slots.size ∧ len ≤ 536870912 ∧ ∀ i, i < len → ¬ 255 < cv A (o + i)
def E (b : Addr) (A : Cell) (o len : Nat) (r : Option Value) (s u : State) : Prop := NewArr .byte "[B" len (fun j => .int (lo8 (cv A (o + j)))) r s u ∧ u.heap.size = s.heap.size + 1
/-- no char of the range above 255: a new byte[] of their low bytes -/
theorem law (l : Launch) (b : Addr) (A : Cell) (o len : Nat) : Law l yN 3 3 1 18 yB 6 (some (.array .byte)) site (P b A o len) (E b A o len) [] 1 len := by
  refine Law.of_walk (plainFor_of_name (by decide +kernel)) (by decide +kernel) (by decide +kernel) (by decide) (fun _ _ h => by rw [h.1]; rfl) (fun _ U U' hal hh h => ⟨h.1, h.2.1.mv hal hh, h.2.2⟩) (fun r U U' V V' h1 hal h2 h => ⟨NewArr.mv r U U' V V' h1 hal h2 h.1, by rw [h1, h2]; exact h.2⟩) ?_
  intro p e s m args below meth c s₁ X0 hexec hbytes hml hret hlk hnm hown hh0 W hP
  obtain ⟨rfl, hA, l1, l2, hp⟩ := hP
  have a31 := hA.1.2.2.2
  have c1 : Steps p.tables e below (s₁.setTop (entryFrame m #[.ref b, .int (Int32.ofNat o), .int (Int32.ofNat len)] 6)) (s₁.setTop (mkF m 0 #[.val (.ref b), .val (.int (Int32.ofNat o)), .val (.int (Int32.ofNat len)), .unset, .unset, .unset] [])) := entry rfl
  have c2 : Steps p.tables e below (s₁.setTop (entryFrame m #[.ref b, .int (Int32.ofNat o), .int (Int32.ofNat len)] 6)) (s₁.setTop (mkF m 1 #[.val (.ref b), .val (.int (Int32.ofNat o)), .val (.int (Int32.ofNat len)), .unset, .unset, .unset] [.int (Int32.ofNat len)])) := c1.trans (by
    refine XS.iloadN X0.here hexec rfl (hb hbytes d0) rfl ?_
    exact Steps.refl _)
  obtain ⟨T3, B3, X3, ba3, bs3, bv3, bh3, bf3, st3⟩ := X0.anew hexec (atype := .byte) (wk W (.arrayClass .byte)) rfl (by show len * 1 ≤ _; omega) (by omega) (g := (mkF m 1 #[.val (.ref b), .val (.int (Int32.ofNat o)), .val (.int (Int32.ofNat len)), .unset, .unset, .unset] [.int (Int32.ofNat len)])) rfl (hb hbytes d1) (rest := []) rfl (Nat.le_refl _) (by show 0 + len ≤ len; omega)
  rw [hh0] at ba3 st3
  have kp3 : XT.Kept s T3 := (XT.Kept.of_eq hh0).push bh3
  have hA3 := hA.keep X3.warmed.alike (kp3 _ _ hA.1.1)
  have hne : b ≠ s.heap.size := hA.1.ne
  have c4 : Steps p.tables e below (s₁.setTop (entryFrame m #[.ref b, .int (Int32.ofNat o), .int (Int32.ofNat len)] 6)) (T3.setTop (mkF m 3 #[.val (.ref b), .val (.int (Int32.ofNat o)), .val (.int (Int32.ofNat len)), .unset, .unset, .unset] [.ref s.heap.size])) := c2.trans (st3 _ (Steps.refl _))
  have c5 : Steps p.tables e below (s₁.setTop (entryFrame m #[.ref b, .int (Int32.ofNat o), .int (Int32.ofNat len)] 6)) (T3.setTop (mkF m 9 #[.val (.ref b), .val (.int (Int32.ofNat o)), .val (.int (Int32.ofNat len)), .val (.ref s.heap.size), .unset, .unset] [.int (Int32.ofNat len), .int 0, .ref s.heap.size, .int (Int32.ofNat o), .ref b])) := c4.trans (by
    refine XS.astoreN X3.here hexec rfl (hb hbytes d3) rfl rfl rfl ?_
    refine XS.aloadN X3.here hexec rfl (hb hbytes d4) rfl rfl ?_
    refine XS.iloadN X3.here hexec rfl (hb hbytes d5) rfl ?_
    refine XS.aloadN X3.here hexec rfl (hb hbytes d6) rfl rfl ?_
    refine iconstV X3.here hexec rfl 0 (hb hbytes d7) (by decide) ?_
    refine XS.iloadN X3.here hexec rfl (hb hbytes d8) rfl ?_
    exact Steps.refl _)
  obtain ⟨v6, T6, X6, E6, g6⟩ := X3.callS hexec (Cmp5.law l b A s.heap.size B3 o 0 len) hown (wks W (staticW U16 115 Cmp5.yN)) (wk W Cmp5.tab) (W := 0) (Nat.le_of_ble_eq_true rfl) (Nat.le_of_ble_eq_true rfl) (Nat.le_refl _) (by show 0 + len + 0 ≤ len; omega) (g := (mkF m 9 #[.val (.ref b), .val (.int (Int32.ofNat o)), .val (.int (Int32.ofNat len)), .val (.ref s.heap.size), .unset, .unset] [.int (Int32.ofNat len), .int (Int32.ofNat 0), .ref s.heap.size, .int (Int32.ofNat o), .ref b])) rfl (by rw [hml]; rfl) c5 (argsL := [.ref b, .int (Int32.ofNat o), .ref s.heap.size, .int (Int32.ofNat 0), .int (Int32.ofNat len)]) (rest := []) rfl rfl (by show 2 * 0 + 0 ≤ _; decide) (hb hbytes d9) (⟨rfl, hA3, ba3, hne, l1, by rw [bs3]; simp, hp⟩)
  obtain ⟨rfl, B6, p6, f6⟩ := E6
  have c7 : Steps p.tables e below (s₁.setTop (entryFrame m #[.ref b, .int (Int32.ofNat o), .int (Int32.ofNat len)] 6)) (T6.setTop (mkF m 12 #[.val (.ref b), .val (.int (Int32.ofNat o)), .val (.int (Int32.ofNat len)), .val (.ref s.heap.size), .unset, .unset] [.int (Int32.ofNat len)])) := g6
  have c8 : Steps p.tables e below (s₁.setTop (entryFrame m #[.ref b, .int (Int32.ofNat o), .int (Int32.ofNat len)] 6)) (T6.setTop (mkF m 58 #[.val (.ref b), .val (.int (Int32.ofNat o)), .val (.int (Int32.ofNat len)), .val (.ref s.heap.size), .val (.int (Int32.ofNat len)), .unset] [.ref s.heap.size])) := c7.trans (by
    refine XS.istore X6.here hexec rfl (hb hbytes d12) rfl rfl ?_
    refine XS.iload X6.here hexec rfl (hb hbytes d14) rfl ?_
    refine XS.iloadN X6.here hexec rfl (hb hbytes d16) rfl ?_
    refine XS.icmpYes X6.here hexec rfl (pc0 := 17) rfl (hb hbytes d17) rfl (ii_eq_t rfl) (by decide) rfl ?_
    refine XS.aloadN X6.here hexec rfl (hb hbytes d57) rfl rfl ?_
    exact Steps.refl _)
  have X8 := X6.wide (L' := []) (cells' := 1) (slots' := len) (fun x hx hlt => by
    simp only [List.nil_append, copyLocs, List.mem_map, List.mem_range] at hx
    obtain ⟨i, -, rfl⟩ := hx
    exact absurd hlt (Nat.lt_irrefl _)) (Nat.le_refl _) (by omega)
  exact ⟨T6, some (.ref s.heap.size), _, _, _, X8, rfl, rfl, rfl, (fun h => by cases h), ⟨⟨rfl, B6, ba3.like (X3.warmed.alike.symm.trans X6.warmed.alike) p6.1 f6.1 f6.2.1 f6.2.2.1, f6.2.1.trans bv3, by rw [X6.warmed.alike.findClass, f6.1]; exact bf3, by rw [f6.2.2.1, bs3]; simp, fun j hj => by rw [f6.2.2.2 j, if_pos (by omega)]; rfl, kp3.put p6 (Nat.le_refl _)⟩, by rw [p6.2.2, bh3, hh0]; simp⟩, fun fs hl => c8.trans (X8.areturnOut hexec rfl hret rfl (hb hbytes d58) hl)⟩
end Cmp3
namespace CodL
def yN : MethodName := ⟨"java/lang/StringUTF16", "coderFromArrayLen", "([BI)B"⟩
abbrev yB : ByteArray := jdk_52_method_15_code
theorem d0 : decode yB 0 = .ok (.iload_n 1, 1) := by decide +kernel
theorem d1 : decode yB 1 = .ok (.aload_n 0, 1) := by decide +kernel
theorem d2 : decode yB 2 = .ok (.arraylength, 1) := by decide +kernel
theorem d3 : decode yB 3 = .ok (.isub, 1) := by decide +kernel
theorem d4 : decode yB 4 = .ok (.bipush 31, 2) := by decide +kernel
theorem d6 : decode yB 6 = .ok (.iushr, 1) := by decide +kernel
theorem d7 : decode yB 7 = .ok (.i2b, 1) := by decide +kernel
theorem d8 : decode yB 8 = .ok (.ireturn, 1) := by decide +kernel
def site : List Cond := []
def tab : Cond := tabOf yN yB 2 (some .byte) site
def P (d : Addr) (B : Cell) (args : Array Value) (s : State) : Prop := args = #[.ref d, .int (Int32.ofNat B.slots.size)] ∧ Arr .byte d B s
def E (r : Option Value) (s u : State) : Prop := XT.PureE (some (.int 0)) r s u
/-- an array as long as the number of chars: LATIN1 -/
theorem law (l : Launch) (d : Addr) (B : Cell) : Law l yN 2 2 0 0 yB 2 (some .byte) site (P d B) E [] 0 0 := by
  refine Law.of_walk (plainFor_of_name (by decide +kernel)) (by decide +kernel) (by decide +kernel) (by decide) (fun _ _ h => by rw [h.1]; rfl) (fun _ U U' hal hh h => ⟨h.1, h.2.mv hal hh⟩) (fun r U U' V V' h1 hal h2 h => XT.PureE.mv r U U' V V' h1 hal h2 h) ?_
  intro p e s m args below meth c s₁ X0 hexec hbytes hml hret hlk hnm hown hh0 W hP
  obtain ⟨rfl, hB⟩ := hP
  have hB0 := hB.mv X0.warmed.alike hh0
  have c1 : Steps p.tables e below (s₁.setTop (entryFrame m #[.ref d, .int (Int32.ofNat B.slots.size)] 2)) (s₁.setTop (mkF m 0 #[.val (.ref d), .val (.int (Int32.ofNat B.slots.size))] [])) := entry rfl
  have c2 : Steps p.tables e below (s₁.setTop (entryFrame m #[.ref d, .int (Int32.ofNat B.slots.size)] 2)) (s₁.setTop (mkF m 2 #[.val (.ref d), .val (.int (Int32.ofNat B.slots.size))] [.ref d, .int (Int32.ofNat B.slots.size)])) := c1.trans (by
    refine XS.iloadN X0.here hexec rfl (hb hbytes d0) rfl ?_
    refine XS.aloadN X0.here hexec rfl (hb hbytes d1) rfl rfl ?_
    exact Steps.refl _)
  have c3 : Steps p.tables e below (s₁.setTop (entryFrame m #[.ref d, .int (Int32.ofNat B.slots.size)] 2)) (s₁.setTop (mkF m 8 #[.val (.ref d), .val (.int (Int32.ofNat B.slots.size))] [.int (lo8 (ushr (Int32.ofNat B.slots.size - Int32.ofNat B.slots.size) 31))])) := c2.trans (by
    refine X0.alen hexec hB0 rfl rfl (hb hbytes d2) ?_
    refine XS.isub X0.here hexec rfl (hb hbytes d3) rfl ?_
    refine bipushV X0.here hexec rfl 31 (hb hbytes d4) (by decide) ?_
    refine iushr X0.here hexec rfl (hb hbytes d6) rfl ?_
    refine i2b X0.here hexec rfl (hb hbytes d7) rfl ?_
    exact Steps.refl _)
  have e0 : lo8 (ushr (Int32.ofNat B.slots.size - Int32.ofNat B.slots.size) 31) = 0 := by rw [Int32.sub_self]; decide
  rw [e0] at c3
  exact ⟨s₁, some (.int 0), _, _, _, X0, rfl, rfl, rfl, (fun h => by cases h), ⟨rfl, hh0⟩, fun fs hl => c3.trans (X0.ireturnOut hexec hret rfl (Or.inr (Or.inr (Or.inl rfl))) (hb hbytes d8) hl)⟩
end CodL
/-- the String at a is Latin-1 over a new byte[] (the heap's one new cell): the low bytes of the len chars of A from o on; every cell but a is kept -/
def Got (a : Addr) (D : Cell) (fV fC : Field) (A : Cell) (o len : Nat) (r : Option Value) (s u : State) : Prop := r = none ∧ ∃ D' V : Cell, Blank "java/lang/String" a D' u ∧ Same D D' [fV.slot, fC.slot] ∧ D'.slots[fV.slot]? = some (.ref s.heap.size) ∧ D'.slots[fC.slot]? = some (.int 0) ∧ Arr .byte s.heap.size V u ∧ V.vm = .none ∧ u.vm.findClass "[B" = some V.cls ∧ V.slots.size = len ∧ (∀ j, j < len → V.slots[j]? = some (.int (lo8 (cv A (o + j))))) ∧ (∀ (y : Addr) (c : Cell), y ≠ a → s.heap[y]? = some c → u.heap[y]? = some c) ∧ u.heap.size = s.heap.size + 1
theorem Got.mv {a : Addr} {D A : Cell} {fV fC : Field} {o len : Nat} : ∀ r (U U' V V' : State), U'.heap = U.heap → V.vm.Alike V'.vm → V'.heap = V.heap → Got a D fV fC A o len r U V → Got a D fV fC A o len r U' V' :=
  fun r U U' V V' h1 hal h2 ⟨e0, D', X, a1, a2, a3, a4, a5, a6, a7, a8, a9, a10, a11⟩ => ⟨e0, D', X, a1.mv hal h2, a2, by rw [h1]; exact a3, a4, by rw [h1]; exact a5.mv hal h2, a6, by rw [hal.findClass]; exact a7, a8, a9, by rw [h1, h2]; exact a10, by rw [h1, h2]; exact a11⟩
namespace New4
def yN : MethodName := ⟨"java/lang/String", "<init>", "([CIILjava/lang/Void;)V"⟩
abbrev yB : ByteArray := jdk_42_method_149_code
theorem d0 : decode yB 0 = .ok (.aload_n 0, 1) := by decide +kernel
theorem d1 : decode yB 1 = .ok (.invokespecial 1, 3) := by decide +kernel
theorem d4 : decode yB 4 = .ok (.iload_n 3, 1) := by decide +kernel
theorem d5 : decode yB 5 = .ok (.ifCond (.ne) 22, 3) := by decide +kernel
theorem d27 : decode yB 27 = .ok (.getstatic 38, 3) := by decide +kernel
theorem d30 : decode yB 30 = .ok (.ifCond (.eq) 28, 3) := by decide +kernel
theorem d33 : decode yB 33 = .ok (.aload_n 1, 1) := by decide +kernel
theorem d34 : decode yB 34 = .ok (.iload_n 2, 1) := by decide +kernel
theorem d35 : decode yB 35 = .ok (.iload_n 3, 1) := by decide +kernel
theorem d36 : decode yB 36 = .ok (.invokestatic 177, 3) := by decide +kernel
theorem d39 : decode yB 39 = .ok (.astore 5, 2) := by decide +kernel
theorem d41 : decode yB 41 = .ok (.aload_n 0, 1) := by decide +kernel
theorem d42 : decode yB 42 = .ok (.aload 5, 2) := by decide +kernel
theorem d44 : decode yB 44 = .ok (.iload_n 3, 1) := by decide +kernel
theorem d45 : decode yB 45 = .ok (.invokestatic 47, 3) := by decide +kernel
theorem d48 : decode yB 48 = .ok (.putfield 15, 3) := by decide +kernel
theorem d51 : decode yB 51 = .ok (.aload_n 0, 1) := by decide +kernel
theorem d52 : decode yB 52 = .ok (.aload 5, 2) := by decide +kernel
theorem d54 : decode yB 54 = .ok (.putfield 9, 3) := by decide +kernel
theorem d57 : decode yB 57 = .ok (.return_, 1) := by decide +kernel
def site : List Cond := [.fieldLink "java/lang/String" 38 "java/lang/String" "COMPACT_STRINGS" "Z", Cmp3.tab, CodL.tab, .laysFinal "java/lang/String" "java/lang/String" "value" "[B", .fieldLink "java/lang/String" 9 "java/lang/String" "value" "[B", .laysFinal "java/lang/String" "java/lang/String" "coder" "B", .fieldLink "java/lang/String" 15 "java/lang/String" "coder" "B"] ++ objW "java/lang/String" 1 ++ staticW "java/lang/String" 177 Cmp3.yN ++ staticW "java/lang/String" 47 CodL.yN
def tab : Cond := tabOf yN yB 6 none site
def P (a : Addr) (D : Cell) (fV fC : Field) (b : Addr) (A : Cell) (z : Int32) (o len : Nat) (args : Array Value) (s : State) : Prop := args = #[.ref a, .ref b, .int (Int32.ofNat o), .int (Int32.ofNat len), .null] ∧ Blank "java/lang/String" a D s ∧ Found "java/lang/String" "value" "[B" fV s ∧ Found "java/lang/String" "coder" "B" fC s ∧ Ch b A s ∧ StaticIs s "java/lang/String" "COMPACT_STRINGS" "Z" (.int z) ∧ ¬ z = 0 ∧ 0 < len ∧ o + len ≤ A.slots.size ∧ len ≤ 536870912 ∧ ∀ i, i < len → ¬ 255 < cv A (o + i)
def E (a : Addr) (D : Cell) (fV fC : Field) (A : Cell) (o len : Nat) (r : Option Value) (s u : State) : Prop := Got a D fV fC A o len r s u
/-- len > 0, no char of the range above 255: a Latin-1 String of their low bytes -/
theorem law (l : Launch) (a : Addr) (D : Cell) (fV fC : Field) (b : Addr) (A : Cell) (z : Int32) (o len : Nat) : Law l yN 5 4 2 35 yB 6 none site (P a D fV fC b A z o len) (E a D fV fC A o len) [⟨a, fC.slot⟩, ⟨a, fV.slot⟩] 1 len := by
  refine Law.of_walk (plainFor_of_name (by decide +kernel)) (by decide +kernel) (by decide +kernel) (by decide) (fun _ _ h => by rw [h.1]; rfl) (fun _ U U' hal hh h => ⟨h.1, h.2.1.mv hal hh, h.2.2.1.al hal, h.2.2.2.1.al hal, h.2.2.2.2.1.mv hal hh, h.2.2.2.2.2.1.there hal hh, h.2.2.2.2.2.2⟩) (fun r U U' V V' h1 hal h2 h => Got.mv r U U' V V' h1 hal h2 h) ?_
  intro p e s m args below meth c s₁ X0 hexec hbytes hml hret hlk hnm hown hh0 W hP
  obtain ⟨rfl, hB, f1, f2, hA, s1, hz, l0, l1, l2, hp⟩ := hP
  have a31 := hA.1.2.2.2
  have c1 : Steps p.tables e below (s₁.setTop (entryFrame m #[.ref a, .ref b, .int (Int32.ofNat o), .int (Int32.ofNat len), .null] 6)) (s₁.setTop (mkF m 0 #[.val (.ref a), .val (.ref b), .val (.int (Int32.ofNat o)), .val (.int (Int32.ofNat len)), .val .null, .unset] [])) := entry rfl
  have c2 : Steps p.tables e below (s₁.setTop (entryFrame m #[.ref a, .ref b, .int (Int32.ofNat o), .int (Int32.ofNat len), .null] 6)) (s₁.setTop (mkF m 1 #[.val (.ref a), .val (.ref b), .val (.int (Int32.ofNat o)), .val (.int (Int32.ofNat len)), .val .null, .unset] [.ref a])) := c1.trans (by
    refine XS.aloadN X0.here hexec rfl (hb hbytes d0) rfl rfl ?_
    exact Steps.refl _)
  obtain ⟨T3, X3, q3, st3⟩ := X0.oinit hexec hown (wks W (objW "java/lang/String" 1)) (g := (mkF m 1 #[.val (.ref a), .val (.ref b), .val (.int (Int32.ofNat o)), .val (.int (Int32.ofNat len)), .val .null, .unset] [.ref a])) rfl (by rw [hml]; rfl) (rest := []) rfl (hb hbytes d1) (W := 0) (by show 2 * 0 + 0 ≤ _; decide) (Nat.le_of_ble_eq_true rfl) (Nat.le_of_ble_eq_true rfl)
  have hh3 := q3.trans hh0
  have c4 : Steps p.tables e below (s₁.setTop (entryFrame m #[.ref a, .ref b, .int (Int32.ofNat o), .int (Int32.ofNat len), .null] 6)) (T3.setTop (mkF m 27 #[.val (.ref a), .val (.ref b), .val (.int (Int32.ofNat o)), .val (.int (Int32.ofNat len)), .val .null, .unset] [])) := (c2.trans (st3 _ (Steps.refl _))).trans (by
    refine XS.iloadN X3.here hexec rfl (hb hbytes d4) rfl ?_
    refine XS.ifYes X3.here hexec rfl (pc0 := 5) rfl (hb hbytes d5) rfl (i0_ne_t (nz32 (by omega) l0)) (by decide) rfl ?_
    exact Steps.refl _)
  obtain ⟨T5, X5, q5, st5⟩ := X3.sget hexec hown (wk W (.fieldLink "java/lang/String" 38 "java/lang/String" "COMPACT_STRINGS" "Z")) s1 (fun _ _ h => by rw [hh3]; exact h) (g := (mkF m 27 #[.val (.ref a), .val (.ref b), .val (.int (Int32.ofNat o)), .val (.int (Int32.ofNat len)), .val .null, .unset] [])) rfl (hb hbytes d27)
  have hh5 := q5.trans hh3
  have c6 : Steps p.tables e below (s₁.setTop (entryFrame m #[.ref a, .ref b, .int (Int32.ofNat o), .int (Int32.ofNat len), .null] 6)) (T5.setTop (mkF m 30 #[.val (.ref a), .val (.ref b), .val (.int (Int32.ofNat o)), .val (.int (Int32.ofNat len)), .val .null, .unset] [.int z])) := c4.trans (st5 _ (Steps.refl _))
  have c7 : Steps p.tables e below (s₁.setTop (entryFrame m #[.ref a, .ref b, .int (Int32.ofNat o), .int (Int32.ofNat len), .null] 6)) (T5.setTop (mkF m 36 #[.val (.ref a), .val (.ref b), .val (.int (Int32.ofNat o)), .val (.int (Int32.ofNat len)), .val .null, .unset] [.int (Int32.ofNat len), .int (Int32.ofNat o), .ref b])) := c6.trans (by
    refine XS.ifNo X5.here hexec rfl (hb hbytes d30) rfl (i0_eq_f hz) ?_
    refine XS.aloadN X5.here hexec rfl (hb hbytes d33) rfl rfl ?_
    refine XS.iloadN X5.here hexec rfl (hb hbytes d34) rfl ?_
    refine XS.iloadN X5.here hexec rfl (hb hbytes d35) rfl ?_
    exact Steps.refl _)
  obtain ⟨v8, T8, X8, E8, g8⟩ := X5.callS hexec (Cmp3.law l b A o len) hown (wks W (staticW "java/lang/String" 177 Cmp3.yN)) (wk W Cmp3.tab) (W := 0) (Nat.le_of_ble_eq_true rfl) (Nat.le_of_ble_eq_true rfl) (Nat.le_refl _) (by show 0 + len ≤ len; omega) (g := (mkF m 36 #[.val (.ref a), .val (.ref b), .val (.int (Int32.ofNat o)), .val (.int (Int32.ofNat len)), .val .null, .unset] [.int (Int32.ofNat len), .int (Int32.ofNat o), .ref b])) rfl (by rw [hml]; rfl) c7 (argsL := [.ref b, .int (Int32.ofNat o), .int (Int32.ofNat len)]) (rest := []) rfl rfl (by show 2 * 0 + 0 ≤ _; decide) (hb hbytes d36) (⟨rfl, hA.mv X5.warmed.alike hh5, l1, l2, hp⟩)
  obtain ⟨e8, z8⟩ := E8
  obtain ⟨rfl, N, n1, n2, n3, n4, n5, n6⟩ := NewArr.mv _ T5 s _ _ hh5.symm (Vm.Alike.refl _) rfl e8
  rw [hh5] at z8
  have hB1 := hB.keep X8.warmed.alike (n6 _ _ hB.1)
  have hne : s.heap.size ≠ a := (Nat.ne_of_lt (Array.getElem?_eq_some_iff.mp hB.1).1).symm
  have c9 : Steps p.tables e below (s₁.setTop (entryFrame m #[.ref a, .ref b, .int (Int32.ofNat o), .int (Int32.ofNat len), .null] 6)) (T8.setTop (mkF m 39 #[.val (.ref a), .val (.ref b), .val (.int (Int32.ofNat o)), .val (.int (Int32.ofNat len)), .val .null, .unset] [.ref s.heap.size])) := g8
  have c10 : Steps p.tables e below (s₁.setTop (entryFrame m #[.ref a, .ref b, .int (Int32.ofNat o), .int (Int32.ofNat len), .null] 6)) (T8.setTop (mkF m 45 #[.val (.ref a), .val (.ref b), .val (.int (Int32.ofNat o)), .val (.int (Int32.ofNat len)), .val .null, .val (.ref s.heap.size)] [.int (Int32.ofNat N.slots.size), .ref s.heap.size, .ref a])) := by
    have hc : Steps p.tables e below (s₁.setTop (entryFrame m #[.ref a, .ref b, .int (Int32.ofNat o), .int (Int32.ofNat len), .null] 6)) (T8.setTop (mkF m 45 #[.val (.ref a), .val (.ref b), .val (.int (Int32.ofNat o)), .val (.int (Int32.ofNat len)), .val .null, .val (.ref s.heap.size)] [.int (Int32.ofNat len), .ref s.heap.size, .ref a])) := c9.trans (by
      refine XS.astore X8.here hexec rfl (hb hbytes d39) rfl rfl rfl ?_
      refine XS.aloadN X8.here hexec rfl (hb hbytes d41) rfl rfl ?_
      refine XS.aload X8.here hexec rfl (hb hbytes d42) rfl rfl ?_
      refine XS.iloadN X8.here hexec rfl (hb hbytes d44) rfl ?_
      exact Steps.refl _)
    rw [n4]; exact hc
  obtain ⟨v11, T11, X11, E11, g11⟩ := X8.callS hexec (CodL.law l s.heap.size N) hown (wks W (staticW "java/lang/String" 47 CodL.yN)) (wk W CodL.tab) (W := 1) (Nat.le_of_ble_eq_true rfl) (Nat.le_of_ble_eq_true rfl) (Nat.le_refl _) (by show 0 + len + 0 ≤ len; omega) (g := (mkF m 45 #[.val (.ref a), .val (.ref b), .val (.int (Int32.ofNat o)), .val (.int (Int32.ofNat len)), .val .null, .val (.ref s.heap.size)] [.int (Int32.ofNat N.slots.size), .ref s.heap.size, .ref a])) rfl (by rw [hml]; rfl) c10 (argsL := [.ref s.heap.size, .int (Int32.ofNat N.slots.size)]) (rest := [.ref a]) rfl rfl (by show 2 * 0 + (1 + 0) ≤ _; decide) (hb hbytes d45) (⟨rfl, n1⟩)
  obtain ⟨rfl, q11⟩ := E11
  have hB11 := hB1.mv (X8.warmed.alike.symm.trans X11.warmed.alike) q11
  have c12 : Steps p.tables e below (s₁.setTop (entryFrame m #[.ref a, .ref b, .int (Int32.ofNat o), .int (Int32.ofNat len), .null] 6)) (T11.setTop (mkF m 48 #[.val (.ref a), .val (.ref b), .val (.int (Int32.ofNat o)), .val (.int (Int32.ofNat len)), .val .null, .val (.ref s.heap.size)] [.int 0, .ref a])) := g11
  obtain ⟨T13, X13, p13, bl13, sl13, st13⟩ := X11.finit hexec hown (wk W (.fieldLink "java/lang/String" 15 "java/lang/String" "coder" "B")) (Or.inr ⟨_, (wk W (.laysFinal "java/lang/String" "java/lang/String" "coder" "B"))⟩) (Or.inl ⟨rfl, hnm⟩) f2 (Or.inl rfl) hB11 (t := .byte) (by decide +kernel) rfl (g := (mkF m 48 #[.val (.ref a), .val (.ref b), .val (.int (Int32.ofNat o)), .val (.int (Int32.ofNat len)), .val .null, .val (.ref s.heap.size)] [.int 0, .ref a])) rfl (rest := []) rfl (hb hbytes d48)
  have c14 : Steps p.tables e below (s₁.setTop (entryFrame m #[.ref a, .ref b, .int (Int32.ofNat o), .int (Int32.ofNat len), .null] 6)) (T13.setTop (mkF m 54 #[.val (.ref a), .val (.ref b), .val (.int (Int32.ofNat o)), .val (.int (Int32.ofNat len)), .val .null, .val (.ref s.heap.size)] [.ref s.heap.size, .ref a])) := (c12.trans (st13 _ (Steps.refl _))).trans (by
    refine XS.aloadN X13.here hexec rfl (hb hbytes d51) rfl rfl ?_
    refine XS.aload X13.here hexec rfl (hb hbytes d52) rfl rfl ?_
    exact Steps.refl _)
  obtain ⟨T15, X15, p15, bl15, sl15, st15⟩ := X13.finit hexec hown (wk W (.fieldLink "java/lang/String" 9 "java/lang/String" "value" "[B")) (Or.inr ⟨_, (wk W (.laysFinal "java/lang/String" "java/lang/String" "value" "[B"))⟩) (Or.inl ⟨rfl, hnm⟩) f1 (Or.inl rfl) bl13 (t := (.array .byte)) (by decide +kernel) rfl (g := (mkF m 54 #[.val (.ref a), .val (.ref b), .val (.int (Int32.ofNat o)), .val (.int (Int32.ofNat len)), .val .null, .val (.ref s.heap.size)] [.ref s.heap.size, .ref a])) rfl (rest := []) rfl (hb hbytes d54)
  have c16 : Steps p.tables e below (s₁.setTop (entryFrame m #[.ref a, .ref b, .int (Int32.ofNat o), .int (Int32.ofNat len), .null] 6)) (T15.setTop (mkF m 57 #[.val (.ref a), .val (.ref b), .val (.int (Int32.ofNat o)), .val (.int (Int32.ofNat len)), .val .null, .val (.ref s.heap.size)] [])) := c14.trans (st15 _ (Steps.refl _))
  have ap := apart (Or.inr ⟨_, (wk W (.laysFinal "java/lang/String" "java/lang/String" "value" "[B"))⟩) (Or.inr ⟨_, (wk W (.laysFinal "java/lang/String" "java/lang/String" "coder" "B"))⟩) f1 f2 (t₁ := .array .byte) (t₂ := .byte) (by decide +kernel) (by decide +kernel) (by decide)
  have al := X8.warmed.alike.symm.trans X15.warmed.alike
  have n7 : T11.heap[s.heap.size]? = some N := by rw [q11]; exact n1.1
  exact ⟨T15, none, _, _, _, X15, by simp, rfl, by omega, (fun _ => rfl), ⟨rfl, _, N, bl15, ((Same.refl D _).set _ (by simp)).set _ (by simp), sl15, (Cell.slots_setSlot_ne _ ap).trans sl13, n1.keep al (p15.other hne (p13.other hne n7)), n2, by rw [al.findClass]; exact n3, n4, n5, fun y c h1 h2 => p15.other h1 (p13.other h1 (by rw [q11]; exact n6 y c h2)), by rw [p15.2.2, p13.2.2, q11]; exact z8⟩, fun fs hl => c16.trans (X15.returnOut hexec hret (hb hbytes d57) hl)⟩
end New4
namespace New1
def yN : MethodName := ⟨"java/lang/String", "<init>", "([C)V"⟩
abbrev yB : ByteArray := jdk_42_method_3_code
theorem d0 : decode yB 0 = .ok (.aload_n 0, 1) := by decide +kernel
theorem d1 : decode yB 1 = .ok (.aload_n 1, 1) := by decide +kernel
theorem d2 : decode yB 2 = .ok (.iconst 0, 1) := by decide +kernel
theorem d3 : decode yB 3 = .ok (.aload_n 1, 1) := by decide +kernel
theorem d4 : decode yB 4 = .ok (.arraylength, 1) := by decide +kernel
theorem d5 : decode yB 5 = .ok (.aconst_null, 1) := by decide +kernel
theorem d6 : decode yB 6 = .ok (.invokespecial 27, 3) := by decide +kernel
theorem d9 : decode yB 9 = .ok (.return_, 1) := by decide +kernel
def site : List Cond := [New4.tab] ++ initW "java/lang/String" 27 New4.yN
def tab : Cond := tabOf yN yB 2 none site
def P (a : Addr) (D : Cell) (fV fC : Field) (b : Addr) (A : Cell) (z : Int32) (args : Array Value) (s : State) : Prop := args = #[.ref a, .ref b] ∧ Blank "java/lang/String" a D s ∧ Found "java/lang/String" "value" "[B" fV s ∧ Found "java/lang/String" "coder" "B" fC s ∧ Ch b A s ∧ StaticIs s "java/lang/String" "COMPACT_STRINGS" "Z" (.int z) ∧ ¬ z = 0 ∧ 0 < A.slots.size ∧ A.slots.size ≤ 536870912 ∧ ∀ i, i < A.slots.size → ¬ 255 < cv A i
def E (a : Addr) (D : Cell) (fV fC : Field) (A : Cell) (r : Option Value) (s u : State) : Prop := Got a D fV fC A 0 A.slots.size r s u
/-- new String(chars), not empty, no char above 255: a Latin-1 String of their low bytes -/
theorem law (l : Launch) (a : Addr) (D : Cell) (fV fC : Field) (b : Addr) (A : Cell) (z : Int32) : Law l yN 2 1 3 52 yB 2 none site (P a D fV fC b A z) (E a D fV fC A) [⟨a, fC.slot⟩, ⟨a, fV.slot⟩] 1 A.slots.size := by
  refine Law.of_walk (plainFor_of_name (by decide +kernel)) (by decide +kernel) (by decide +kernel) (by decide) (fun _ _ h => by rw [h.1]; rfl) (fun _ U U' hal hh h => ⟨h.1, h.2.1.mv hal hh, h.2.2.1.al hal, h.2.2.2.1.al hal, h.2.2.2.2.1.mv hal hh, h.2.2.2.2.2.1.there hal hh, h.2.2.2.2.2.2⟩) (fun r U U' V V' h1 hal h2 h => Got.mv r U U' V V' h1 hal h2 h) ?_
  intro p e s m args below meth c s₁ X0 hexec hbytes hml hret hlk hnm hown hh0 W hP
  obtain ⟨rfl, hB, f1, f2, hA, s1, hz, l0, l2, hp⟩ := hP
  have c1 : Steps p.tables e below (s₁.setTop (entryFrame m #[.ref a, .ref b] 2)) (s₁.setTop (mkF m 0 #[.val (.ref a), .val (.ref b)] [])) := entry rfl
  have c2 : Steps p.tables e below (s₁.setTop (entryFrame m #[.ref a, .ref b] 2)) (s₁.setTop (mkF m 6 #[.val (.ref a), .val (.ref b)] [.null, .int (Int32.ofNat A.slots.size), .int 0, .ref b, .ref a])) := c1.trans (by
    refine XS.aloadN X0.here hexec rfl (hb hbytes d0) rfl rfl ?_
    refine XS.aloadN X0.here hexec rfl (hb hbytes d1) rfl rfl ?_
    refine iconstV X0.here hexec rfl 0 (hb hbytes d2) (by decide) ?_
    refine XS.aloadN X0.here hexec rfl (hb hbytes d3) rfl rfl ?_
    refine X0.alen hexec (hA.1.mv X0.warmed.alike hh0) rfl rfl (hb hbytes d4) ?_
    refine XS.aconstNull X0.here hexec rfl (hb hbytes d5) ?_
    exact Steps.refl _)
  obtain ⟨v3, T3, X3, E3, g3⟩ := X0.callN hexec (New4.law l a D fV fC b A z 0 A.slots.size) rfl hown (wks W (initW "java/lang/String" 27 New4.yN)) (W New4.tab (by simp only [site, List.mem_cons, List.mem_append, true_or, or_true])) (W := 0) (Nat.le_of_ble_eq_true rfl) (Nat.le_of_ble_eq_true rfl) (Nat.le_refl _) (by show 0 + A.slots.size ≤ A.slots.size; omega) (g := (mkF m 6 #[.val (.ref a), .val (.ref b)] [.null, .int (Int32.ofNat A.slots.size), .int (Int32.ofNat 0), .ref b, .ref a])) rfl (by rw [hml]; rfl) c2 (argsL := [.ref b, .int (Int32.ofNat 0), .int (Int32.ofNat A.slots.size), .null]) (rest := []) rfl rfl (by show 2 * 0 + 0 ≤ _; decide) (hb hbytes d6) (⟨rfl, hB.mv X0.warmed.alike hh0, f1.al X0.warmed.alike, f2.al X0.warmed.alike, hA.mv X0.warmed.alike hh0, s1.there X0.warmed.alike hh0, hz, l0, by omega, l2, fun i hi => by rw [Nat.zero_add]; exact hp i hi⟩)
  have e0 := Got.mv _ s₁ s _ _ hh0.symm (Vm.Alike.refl _) rfl E3
  obtain rfl := e0.1
  have c4 : Steps p.tables e below (s₁.setTop (entryFrame m #[.ref a, .ref b] 2)) (T3.setTop (mkF m 9 #[.val (.ref a), .val (.ref b)] [])) := g3
  exact ⟨T3, none, _, _, _, X3, by simp, rfl, by omega, (fun _ => rfl), e0, fun fs hl => c4.trans (X3.returnOut hexec hret (hb hbytes d9) hl)⟩
theorem pays {l : Launch} {R : Room} {p : Program} {e : Env} {below : List Frame} {s : State} {sargs : Array Value} {len W : Nat} (a : Addr) (D : Cell) (fV fC : Field) (b : Addr) (A : Cell) (z : Int32) (htab : tab.before sargs s = true) (hfr : 4 ≤ R.frames) (hlo : W + 65 ≤ R.locals) :
    Back l R p e below s sargs yN len W (fun A₁ a₁ => A₁.cells + 1 ≤ R.cells ∧ A₁.slots + A.slots.size ≤ R.slots ∧ P a D fV fC b A z a₁ A₁.U) (fun A₁ _ v₁ B₁ => E a D fV fC A v₁ A₁.U B₁.U ∧ B₁.locs = A₁.locs ++ [⟨a, fC.slot⟩, ⟨a, fV.slot⟩] ∧ B₁.cells = A₁.cells + 1 ∧ B₁.slots = A₁.slots + A.slots.size) :=
  (law l a D fV fC b A z).pays htab hfr (by omega)
end New1
/-- the byte, read back as charAt reads it, is the char -/
theorem lo8_mask {x : Int32} (h0 : ¬ x < 0) (h1 : ¬ 255 < x) : lo8 x &&& 255 = x := by
  have t : ∀ k : Fin 256, lo8 (Int32.ofNat k.val) &&& 255 = Int32.ofNat k.val := by decide +kernel
  rw [Int32.lt_iff_toInt_lt] at h0 h1
  have e0 : (0 : Int32).toInt = 0 := rfl
  have e1 : (255 : Int32).toInt = 255 := rfl
  obtain ⟨k, hk⟩ : ∃ k : Nat, x.toInt = k := ⟨x.toInt.toNat, by omega⟩
  have hx : x = Int32.ofNat k := Int32.toInt_inj.mp (by rw [hk, Int32.toInt_ofNat_small (by omega)])
  rw [hx]
  exact t ⟨k, by omega⟩
end StrChars
namespace StrChars.Road
open Jvm Sem ClassFile Op Lib Jvm.Stand Jvm.Free Jvm.Free.XT
open Jvm.Lib.Cold (StaticIs)
abbrev ST : String := "java/lang/String"
/-- every table word that New1's law asks, flat -/
abbrev words : List Jvm.Cond := [.code New1.yN New1.yB 2 none, .initialized ST, .methodLink ST 27 New4.yN, .instanceMethod New4.yN,
  .code New4.yN New4.yB 6 none, .fieldLink ST 38 ST "COMPACT_STRINGS" "Z", .laysFinal ST ST "value" "[B", .fieldLink ST 9 ST "value" "[B", .laysFinal ST ST "coder" "B", .fieldLink ST 15 ST "coder" "B",
  .methodLink ST 1 Lib.objectInit, .instanceMethod Lib.objectInit, .code Lib.objectInit ⟨#[0xb1]⟩ 1 none, .methodLink ST 177 Cmp3.yN, .static Cmp3.yN, .methodLink ST 47 CodL.yN, .static CodL.yN,
  .code Cmp3.yN Cmp3.yB 6 (some (.array .byte)), .initialized U16, .arrayClass .byte, .methodLink U16 115 Cmp5.yN, .static Cmp5.yN, .code Cmp5.yN Cmp5.yB 7 (some .int), .code CodL.yN CodL.yB 2 (some .byte)]
theorem tab_of {a : Array Value} {s : State} (h : ∀ w ∈ words, w.before a s = true) : New1.tab.before a s = true := by
  have h5 : Cmp5.tab.before a s = true := unparts (wk h (.code Cmp5.yN Cmp5.yB 7 (some .int))) (wks h (.initialized Cmp5.yN.cls :: Cmp5.site))
  have hc : CodL.tab.before a s = true := unparts (wk h (.code CodL.yN CodL.yB 2 (some .byte))) (wks h (.initialized CodL.yN.cls :: CodL.site))
  have q5 : ∀ w ∈ Cmp5.tab :: words, w.before a s = true := fun w hw => (List.mem_cons.mp hw).elim (fun e => e ▸ h5) (h w)
  have h3 : Cmp3.tab.before a s = true := unparts (wk q5 (.code Cmp3.yN Cmp3.yB 6 (some (.array .byte)))) (wks q5 (.initialized Cmp3.yN.cls :: Cmp3.site))
  have q3 : ∀ w ∈ Cmp3.tab :: CodL.tab :: words, w.before a s = true := fun w hw => (List.mem_cons.mp hw).elim (fun e => e ▸ h3) fun hw => (List.mem_cons.mp hw).elim (fun e => e ▸ hc) (h w)
  have h4 : New4.tab.before a s = true := unparts (wk q3 (.code New4.yN New4.yB 6 none)) (wks q3 (.initialized New4.yN.cls :: New4.site))
  have q4 : ∀ w ∈ New4.tab :: words, w.before a s = true := fun w hw => (List.mem_cons.mp hw).elim (fun e => e ▸ h4) (h w)
  exact unparts (wk q4 (.code New1.yN New1.yB 2 none)) (wks q4 (.initialized New1.yN.cls :: New1.site))
/-- the words ride from the start Z to the walk's own state -/
theorem moved {Z s : State} {a0 args : Array Value} (hZ : Z.Warmed39 s.vm) (hw : ∀ d ∈ words, d.before a0 Z = true) : ∀ d ∈ words, d.before args s = true := fun d hd => by
  have q := hw d hd
  have t : ∀ d ∈ words, d = .arrayClass .byte ∨ (d.onTables && d.keepsFace) = true := by decide +kernel
  rcases t d hd with rfl | t
  · exact RoadKit.mvA hZ q
  · exact RoadKit.mv hZ q t
/-- WHAT COMES BACK, over the tables of the start Z: h the heap at the call, h' behind it -/
def Q (Z : State) (x : Addr) (A : Cell) (h : Heap) (v : Option Value) (h' : Heap) (L : List Loc) : Prop := v = none ∧ (∀ y ∈ L, y.base = x) ∧ RoadKit.Keep h h' [x] ∧ h'.size = h.size + 1 ∧ RoadKit.Exa Z h' x ST ∧ RoadKit.Fld Z h' x ST "value" "[B" (.ref h.size) ∧ RoadKit.Fld Z h' x ST "coder" "B" (.int 0) ∧
  (∃ V : Cell, RoadKit.Arr Z h' h.size V .byte ∧ V.vm = .none ∧ Z.vm.findClass "[B" = some V.cls ∧ V.slots.size = A.slots.size ∧ ∀ j, j < A.slots.size → V.slots[j]? = some (.int (lo8 (cv A j)))) ∧
  ∀ (O n d : String) (w : Value), RoadKit.Fld Z h x O n d w → RoadKit.slotOf Z O n d ≠ RoadKit.slotOf Z ST "value" "[B" → RoadKit.slotOf Z O n d ≠ RoadKit.slotOf Z ST "coder" "B" → RoadKit.Fld Z h' x O n d w
/-- **new String(chars) AT A CALL, IN THE ROAD'S FORM**: for specialBack behind newO: x the fresh String, b the char[] with the cell A -/
theorem back {p : Program} {l : Launch} {e : Env} {R : Room} {s : State} {args : Array Value} {below : List Frame} {len W : Nat} {Z : State} {a0 : Array Value} {h : Heap} (hZ : Z.Warmed39 s.vm) (hw : ∀ d ∈ words, d.before a0 Z = true) {kI : Nat} (wi : (Jvm.Cond.instantiable ST kI).before a0 Z = true)
    {x b : Addr} {A : Cell} {z : Int32} {v0 c0 : Value} (E : RoadKit.Exa Z h x ST) (V : RoadKit.Fld Z h x ST "value" "[B" v0) (C : RoadKit.Fld Z h x ST "coder" "B" c0) (K : RoadKit.Arr Z h b A .char) (hty : Typed .char A) (S : RoadKit.Sta Z h ST "COMPACT_STRINGS" "Z" (.int z)) (hz : ¬ z = 0)
    (l0 : 0 < A.slots.size) (l2 : A.slots.size ≤ 536870912) (hp : ∀ i, i < A.slots.size → ¬ 255 < cv A i) (hfr : 4 ≤ R.frames) (hlo : W + 65 ≤ R.locals) :
    Back l R p e below s args New1.yN len W (fun P a => a = #[.ref x, .ref b] ∧ P.U.heap = h ∧ P.cells + 1 ≤ R.cells ∧ P.slots + A.slots.size ≤ R.slots)
      (fun P _ v B => ∃ L, Q Z x A h v B.U.heap L ∧ B.locs = P.locs ++ L ∧ B.cells = P.cells + 1 ∧ B.slots = P.slots + A.slots.size) := by
  intro m meth c P g ig mk a X hg hsize hdg hW hn hp'
  obtain ⟨rfl, rfl, r1, r2⟩ := hp'
  have al : Z.vm.Alike P.U.vm := hZ.alike.trans X.warmed.alike
  obtain ⟨D, cfV, kV, iV, fV, hD, gV, stV, knV, obV, asV, slV⟩ := id V
  obtain ⟨D', cfC, kC, iC, fC, hD', gC, stC, -, -, asC, slC⟩ := id C
  cases hD.symm.trans hD'
  obtain ⟨D2, kD, e1, e2, e3, e4, e5⟩ := id E
  cases hD.symm.trans e1
  obtain ⟨c2, k2, i1, i2, i3, -⟩ := Cond.instantiable_spec wi
  cases e2.symm.trans i1
  cases e3.symm.trans i2
  obtain ⟨kU, u1, u2⟩ := al.2.2 _ _ e3
  have hB : Blank ST x D P.U := ⟨hD, ⟨knV, fun q hq => by rw [hq] at obV; cases obV⟩, by rw [al.findClass]; exact e2, kU, u1, by rw [u2]; exact i3, by rw [u2]; exact e5 i3⟩
  have F1 : Found ST "value" "[B" fV P.U := ⟨SBG.found_only al ⟨cfV, kV, iV, gV⟩, stV⟩
  have F2 : Found ST "coder" "B" fC P.U := ⟨SBG.found_only al ⟨cfC, kC, iC, gC⟩, stC⟩
  have hA : Ch b A P.U := ⟨⟨K.1, State.isArrayOf_alike al K.2.1, K.2.2, by omega⟩, hty⟩
  have hS : StaticIs P.U ST "COMPACT_STRINGS" "Z" (.int z) := by
    obtain ⟨cfS, iS, kS, fS, st, cS, t1, t2, t3, t4, t5, t6, t7⟩ := S
    exact StaticIs.there (s := { Z with heap := P.U.heap }) ⟨cfS, iS, kS, fS, st, cS, t1, t2, t3, t4, t5, (fun q => by rw [q] at t6; cases t6), t7⟩ al rfl
  obtain ⟨v, B, X', ⟨⟨hv, E', V', q1, q2, q3, q4, q5, q6, q7, q8, q9, q10, q11⟩, hl, hc, hs⟩, st⟩ := New1.pays x D fV fC b A z (tab_of (moved hZ hw)) hfr hlo m meth c P g ig mk _ X hg hsize hdg hW hn ⟨r1, r2, rfl, hB, F1, F2, hA, hS, hz, l0, l2, hp⟩
  have al' : Z.vm.Alike B.U.vm := hZ.alike.trans X'.warmed.alike
  have hsz : E'.slots.size = D.slots.size := by
    obtain ⟨-, -, -, kB, w1, w2, w3⟩ := q1
    obtain ⟨kB', y1, y2⟩ := al'.2.2 _ _ e3
    rw [q2.2.1] at w1
    cases w1.symm.trans y1
    rw [w3, e5 i3, y2]
  refine ⟨v, B, X', ⟨_, ⟨hv, ?_, ⟨by omega, fun y cy hy hn' => q10 y cy (by simpa using hn') hy, fun y cy hy => ?_⟩, q11, ⟨E', _, q1.1, by rw [q2.2.1]; exact e2, by rw [q2.2.1]; exact e3, by rw [q2.1]; exact obV, fun _ => by rw [hsz]; exact e5 i3⟩,
    ⟨E', cfV, kV, iV, fV, q1.1, gV, stV, by rw [q2.1]; exact knV, by rw [q2.1]; exact obV, by rw [q2.2.1]; exact asV, q3⟩, ⟨E', cfC, kC, iC, fC, q1.1, gC, stC, by rw [q2.1]; exact knV, by rw [q2.1]; exact obV, by rw [q2.2.1]; exact asC, q4⟩,
    ⟨V', ⟨q5.1, State.isArrayOf_alike al'.symm q5.2.1, q5.2.2.1⟩, q6, by rw [← al'.findClass]; exact q7, q8, fun j hj => by have := q9 j hj; rwa [Nat.zero_add] at this⟩, fun O n d w F n1 n2 => ?_⟩, hl, hc, hs⟩, st⟩
  · intro y hy
    simp only [List.mem_cons, List.not_mem_nil, or_false] at hy
    rcases hy with rfl | rfl <;> rfl
  · by_cases q : y = x
    · subst q
      cases hD.symm.trans hy
      exact ⟨E', q1.1, q2.2.1, q2.1, hsz⟩
    · exact ⟨cy, q10 y cy q hy, rfl, rfl, rfl⟩
  · obtain ⟨D3, cf, k, i, f, g1, g2, g3, g4, g5, g6, g7⟩ := F
    cases hD.symm.trans g1
    simp only [RoadKit.slotOf, g2, gV, gC, Option.map_some, Option.getD_some] at n1 n2
    exact ⟨E', cf, k, i, f, q1.1, g2, g3, by rw [q2.1]; exact g4, by rw [q2.1]; exact g5, by rw [q2.2.1]; exact g6, by rw [q2.2.2 f.slot (by simp [n1, n2])]; exact g7⟩
end StrChars.Road
namespace StrChars.Road
open Jvm Sem ClassFile Op Lib Jvm.Stand Jvm.Free Jvm.Free.XT
/-- WHAT COMES BACK, the byte[] as a list of values -/
def QA (Z : State) (x : Addr) (zn : Int32) (cs : List Int32) (h : Heap) (v : Option Value) (h' : Heap) (L : List Loc) : Prop := v = none ∧ (∀ y ∈ L, y.base = x) ∧ RoadKit.Keep h h' [x] ∧ h'.size = h.size + 1 ∧ RoadKit.Exa Z h' x ST ∧ RoadKit.Fld Z h' x ST "value" "[B" (.ref h.size) ∧ RoadKit.Fld Z h' x ST "coder" "B" (.int 0) ∧
  (∃ kb, Z.vm.findClass "[B" = some kb ∧ RoadKit.Arv Z h' h.size kb .byte zn (cs.map fun c => .int (lo8 c)) (.int 0)) ∧
  ∀ (O n d : String) (w : Value), RoadKit.Fld Z h x O n d w → RoadKit.slotOf Z O n d ≠ RoadKit.slotOf Z ST "value" "[B" → RoadKit.slotOf Z O n d ≠ RoadKit.slotOf Z ST "coder" "B" → RoadKit.Fld Z h' x O n d w
/-- **new String(chars) AT A CALL, THE ARRAYS AS LISTS**: the char[] at b holds cs, not empty, no char above 255 -/
theorem backArv {p : Program} {l : Launch} {e : Env} {R : Room} {s : State} {args : Array Value} {below : List Frame} {len W : Nat} {Z : State} {a0 : Array Value} {h : Heap} (hZ : Z.Warmed39 s.vm) (hw : ∀ d ∈ words, d.before a0 Z = true) {kI : Nat} (wi : (Jvm.Cond.instantiable ST kI).before a0 Z = true)
    {x b : Addr} {k : ClassId} {zn z : Int32} {cs : List Int32} {dv v0 c0 : Value} (E : RoadKit.Exa Z h x ST) (V : RoadKit.Fld Z h x ST "value" "[B" v0) (C : RoadKit.Fld Z h x ST "coder" "B" c0) (K : RoadKit.Arv Z h b k .char zn (cs.map Value.int) dv) (S : RoadKit.Sta Z h ST "COMPACT_STRINGS" "Z" (.int z)) (hz : ¬ z = 0)
    (hlen : zn.toNatClampNeg = cs.length) (h0 : 0 < cs.length) (hbig : cs.length ≤ 536870912) (hall : ∀ c ∈ cs, ¬ 255 < c) (hfr : 4 ≤ R.frames) (hlo : W + 65 ≤ R.locals) :
    Back l R p e below s args New1.yN len W (fun P a => a = #[.ref x, .ref b] ∧ P.U.heap = h ∧ P.cells + 1 ≤ R.cells ∧ P.slots + cs.length ≤ R.slots)
      (fun P _ v B => ∃ L, QA Z x zn cs h v B.U.heap L ∧ B.locs = P.locs ++ L ∧ B.cells = P.cells + 1 ∧ B.slots = P.slots + cs.length) := by
  obtain ⟨A, K1, K2, K3, K4, K5, K6⟩ := K
  have e : A.slots.size = cs.length := K3.trans hlen
  have hat : ∀ (i : Nat) (hi : i < cs.length), A.slots[i]? = some (.int cs[i]) := fun i hi => by rw [K5 i (by omega)]; simp [List.getD_eq_getElem?_getD, hi]
  have hcv : ∀ (i : Nat) (hi : i < cs.length), cv A i = cs[i] := fun i hi => by unfold cv; rw [hat i hi]
  have hty : Typed .char A := fun i v hv => by
    have hi : i < A.slots.size := (Array.getElem?_eq_some_iff.mp hv).1
    have q := K5 i hi
    rw [hv] at q
    rw [Option.some.inj q]
    exact K6 i hi
  refine Back.mono (back hZ hw wi E V C K1 hty S hz (by omega) (by omega) (fun i hi => by rw [hcv i (by omega)]; exact hall _ (List.getElem_mem _)) hfr hlo) (fun P a hp => ⟨hp.1, hp.2.1, hp.2.2.1, by rw [e]; exact hp.2.2.2⟩) (fun P a v B hp hq => ?_)
  obtain ⟨L, ⟨q1, q2, q3, q4, q5, q6, q7, ⟨V', v1, v2, v3, v4, v5⟩, q9⟩, hl, hc, hs⟩ := hq
  refine ⟨L, ⟨q1, q2, q3, q4, q5, q6, q7, ⟨V'.cls, v3, V', v1, rfl, by rw [v4, e, hlen], K4, fun i hi => ?_, fun i hi => ?_⟩, q9⟩, hl, hc, by rw [hs, e]⟩
  · have hi' : i < cs.length := by omega
    rw [v5 i (by omega), hcv i hi']; simp [List.getD_eq_getElem?_getD, hi']
  · have hi' : i < cs.length := by omega
    simp only [List.getD_eq_getElem?_getD, List.getElem?_map, List.getElem?_eq_getElem hi', Option.map_some, Option.getD_some]
    exact fits_lo8 _
end StrChars.Road
namespace StrChars.Road
open Jvm Sem ClassFile Op Lib Jvm.Stand Jvm.Free Jvm.Free.XT
/-- WHAT COMES BACK, in the writer's own shape -/
def QV (Z : State) (x : Addr) (N : Int32) (bs : List Int32) (h : Heap) (n0 : Nat) (v : Option Value) (h' : Heap) (L : List Loc) : Prop := v = none ∧ RoadKit.Fr n0 L ∧ RoadKit.Keep h h' [x] ∧ RoadKit.Exa Z h' x ST ∧ RoadKit.Fld Z h' x ST "coder" "B" (.int 0) ∧
  ∃ (t : Addr) (kb : ClassId), n0 ≤ t ∧ h.size ≤ t ∧ ¬ t = x ∧ RoadKit.Fld Z h' x ST "value" "[B" (.ref t) ∧ RoadKit.Arv Z h' t kb .byte N (bs.map Value.int) (.int 0)
/-- **new String(chars) AT A CALL, FOR THE WRITER**: a char[] of n known ints, each 0 to 255 -/
theorem backV {p : Program} {l : Launch} {e : Env} {R : Room} {s : State} {args : Array Value} {below : List Frame} {len W : Nat} {Z : State} {a0 : Array Value} {h : Heap} (hZ : Z.Warmed39 s.vm) (hw : ∀ d ∈ words, d.before a0 Z = true) {kI : Nat} (wi : (Jvm.Cond.instantiable ST kI).before a0 Z = true)
    {x b : Addr} {kC : ClassId} {cs bs : List Int32} {d v0 c0 : Value} {z N : Int32} {n n0 : Nat} (hx0 : n0 ≤ x) (hh0 : n0 ≤ h.size) (E : RoadKit.Exa Z h x ST) (V : RoadKit.Fld Z h x ST "value" "[B" v0) (C : RoadKit.Fld Z h x ST "coder" "B" c0) (K : RoadKit.Arv Z h b kC .char N (cs.map Value.int) d) (S : RoadKit.Sta Z h ST "COMPACT_STRINGS" "Z" (.int z)) (hz : ¬ z = 0)
    (hn : cs.length = n) (hN : N = Int32.ofNat n) (l0 : 0 < n) (l2 : n ≤ 4000) (hp : ∀ c ∈ cs, ¬ c < 0 ∧ ¬ (255 : Int32) < c) (hb : bs = cs.map (fun c => c.toInt8.toInt32)) (hfr : 4 ≤ R.frames) (hlo : W + 65 ≤ R.locals) :
    Back l R p e below s args (⟨"java/lang/String", "<init>", "([C)V"⟩ : MethodName) len W (fun P a => a = #[.ref x, .ref b] ∧ P.U.heap = h ∧ P.cells + 1 ≤ R.cells ∧ P.slots + n ≤ R.slots)
      (fun P _ v B => ∃ L, QV Z x N bs h n0 v B.U.heap L ∧ B.locs = P.locs ++ L ∧ B.cells = P.cells + 1 ∧ B.slots = P.slots + n) := by
  subst hn hN hb
  refine Back.mono (backArv hZ hw wi E V C K S hz (n32 (by omega)) l0 (by omega) (fun c hc => (hp c hc).2) hfr hlo) (fun P a hp => hp) (fun P a v B hp hq => ?_)
  obtain ⟨L, ⟨q1, q2, q3, q4, q5, q6, q7, ⟨kb, v1, v2⟩, q9⟩, hl, hc, hs⟩ := hq
  exact ⟨L, ⟨q1, fun y hy => by rw [q2 y hy]; exact hx0, q3, q5, q7, h.size, kb, hh0, Nat.le_refl _, Nat.ne_of_gt E.lt, q6, by rw [List.map_map]; exact v2⟩, hl, hc, hs⟩
end StrChars.Road
namespace StrChars
open Jvm Sem ClassFile Op Lib Jvm.Stand Jvm.Free.XT Jvm.Free.ALB Jvm.Free.JM Jvm.Free
open Jvm.Lib.Cold (StaticIs)
def hi8 (x : Int32) : Int32 := lo8 (x >>> ((8 : Int32) &&& 31))
/-- what StringUTF16.getChar makes of two bytes -/
def pairCh (u v : Int32) : Int32 := (((u &&& 255) <<< ((0 : Int32) &&& 31)) ||| ((v &&& 255) <<< ((8 : Int32) &&& 31))).toUInt32.toUInt16.toUInt32.toInt32
theorem lo8_and (x : Int32) : (lo8 x &&& 255).toBitVec.toNat = x.toBitVec.toNat % 256 := by
  have h : (lo8 x).toBitVec = (x.toBitVec.signExtend 8).signExtend 32 := by rw [lo8, Int8.toBitVec_toInt32, Int32.toBitVec_toInt8]
  rw [Int32.toBitVec_and, BitVec.toNat_and, h]
  have e : ((x.toBitVec.signExtend 8).signExtend 32).toNat % 256 = x.toBitVec.toNat % 256 := by
    rw [BitVec.toNat_signExtend]
    have hlt := x.toBitVec.isLt
    simp only [BitVec.toNat_setWidth, BitVec.toNat_signExtend]
    split <;> split <;> omega
  rw [← e]
  exact Nat.and_two_pow_sub_one_eq_mod _ 8
theorem pair_says {c : Int32} (h0 : ¬ c < 0) (h1 : ¬ 65535 < c) : pairCh (lo8 c) (hi8 c) = c := by
  rw [Int32.lt_iff_toInt_lt] at h0 h1
  have e0 : (0 : Int32).toInt = 0 := rfl
  have e1 : (65535 : Int32).toInt = 65535 := rfl
  have hc : c.toInt = c.toBitVec.toNat := by
    have := c.toBitVec.isLt
    have e : c.toInt = c.toBitVec.toInt := rfl
    rw [e] at h0 h1
    rw [e]
    rw [BitVec.toInt_eq_toNat_cond] at h0 h1 ⊢
    split at h0 <;> split <;> omega
  have hn : c.toBitVec.toNat < 65536 := by omega
  have a1 := lo8_and c
  have a2 : (hi8 c &&& 255).toBitVec.toNat = c.toBitVec.toNat / 256 := by
    rw [hi8, lo8_and]
    have e : ((8 : Int32) &&& 31) = 8 := by decide
    rw [e, Int32.toBitVec_shiftRight]
    have e2 : ((8 : Int32).toBitVec.smod 32) = 8#32 := by decide
    rw [e2, BitVec.sshiftRight_eq', BitVec.toNat_sshiftRight_of_msb_false (by rw [BitVec.msb_eq_false_iff_two_mul_lt]; omega)]
    show c.toBitVec.toNat >>> 8 % 256 = _
    rw [Nat.shiftRight_eq_div_pow]
    omega
  unfold pairCh
  apply Int32.toBitVec_inj.mp
  apply BitVec.eq_of_toNat_eq
  have f0 : ((0 : Int32) &&& 31) = 0 := by decide
  have f8 : ((8 : Int32) &&& 31) = 8 := by decide
  rw [f0, f8]
  have g : (((lo8 c &&& 255) <<< (0 : Int32)) ||| ((hi8 c &&& 255) <<< (8 : Int32))).toBitVec.toNat = c.toBitVec.toNat := by
    rw [Int32.toBitVec_or, Int32.toBitVec_shiftLeft, Int32.toBitVec_shiftLeft]
    have s0 : ((0 : Int32).toBitVec.smod 32) = 0#32 := by decide
    have s8 : ((8 : Int32).toBitVec.smod 32) = 8#32 := by decide
    rw [s0, s8, BitVec.toNat_or]
    simp only [BitVec.shiftLeft_eq', BitVec.toNat_shiftLeft, a1, a2]
    show (c.toBitVec.toNat % 256) <<< 0 % 2 ^ 32 ||| (c.toBitVec.toNat / 256) <<< 8 % 2 ^ 32 = _
    rw [Nat.shiftLeft_zero, Nat.mod_eq_of_lt (show c.toBitVec.toNat % 256 < 2 ^ 32 by omega), Nat.mod_eq_of_lt (show (c.toBitVec.toNat / 256) <<< 8 < 2 ^ 32 by rw [Nat.shiftLeft_eq]; omega), Nat.or_comm, ← Nat.shiftLeft_add_eq_or_of_lt (by omega), Nat.shiftLeft_eq]
    omega
  show BitVec.toNat (((((lo8 c &&& 255) <<< (0 : Int32)) ||| ((hi8 c &&& 255) <<< (8 : Int32))).toBitVec.setWidth 16).setWidth 32) = _
  rw [BitVec.toNat_setWidth, BitVec.toNat_setWidth, g]
  omega
end StrChars
namespace StrChars
open Jvm Sem ClassFile Op Lib Jvm.Stand Jvm.Free.XT Jvm.Free.ALB Jvm.Free.JM Jvm.Free
open Jvm.Lib.Cold (StaticIs)
/-- the array's cell V codes the n chars f 0 .. f (n - 1) by the coder cd, as the JDK does: coder 1 just where some char is above 255 -/
def Cod (cd : Int32) (n : Nat) (f : Nat → Int32) (V : Cell) : Prop := (cd = 0 ∧ V.slots.size = n ∧ ∀ j, j < n → V.slots[j]? = some (.int (lo8 (f j))) ∧ ¬ 255 < f j) ∨ (cd = 1 ∧ V.slots.size = 2 * n ∧ (∀ j, j < n → V.slots[2 * j]? = some (.int (lo8 (f j))) ∧ V.slots[2 * j + 1]? = some (.int (hi8 (f j)))) ∧ ∃ j, j < n ∧ 255 < f j)
/-- **x is a String of the n chars f 0 .. f (n - 1)**, Latin-1 or UTF-16; its array at t has the cell V -/
def Txt (x t : Addr) (V : Cell) (cd : Int32) (n : Nat) (f : Nat → Int32) (U : State) : Prop := Exact "java/lang/String" x U ∧ Has x "java/lang/String" "value" "[B" (.ref t) U ∧ Has x "java/lang/String" "coder" "B" (.int cd) U ∧ XT.Arr .byte t V U ∧ Cod cd n f V ∧ ∀ j, j < n → ¬ f j < 0 ∧ ¬ 65535 < f j
theorem Txt.mv {x t : Addr} {V : Cell} {cd : Int32} {n : Nat} {f : Nat → Int32} {U U' : State} (h : Txt x t V cd n f U) (hal : U.vm.Alike U'.vm) (hh : U'.heap = U.heap) : Txt x t V cd n f U' := ⟨h.1.mv hal hh, h.2.1.mv hal hh, h.2.2.1.mv hal hh, h.2.2.2.1.mv hal hh, h.2.2.2.2⟩
end StrChars
namespace StrChars.Road
open Jvm Sem ClassFile Op Lib Jvm.Stand Jvm.Free Jvm.Free.XT
open Jvm.Lib.Cold (StaticIs)
theorem consq {a : Array Value} {s : State} {c : Jvm.Cond} {L : List Jvm.Cond} (h0 : c.before a s = true) (h : ∀ w ∈ L, w.before a s = true) : ∀ w ∈ c :: L, w.before a s = true := fun w hw => (List.mem_cons.mp hw).elim (fun e => e ▸ h0) (h w)
/-- the bytes of the chars cs, low before high -/
def wideBytes : List Int32 → List Value
  | [] => []
  | c :: cs => .int (lo8 c) :: .int (hi8 c) :: wideBytes cs
theorem wide_lo (d : Value) : ∀ (cs : List Int32) (j : Nat), j < cs.length → (wideBytes cs).getD (2 * j) d = .int (lo8 (cs.getD j 0))
  | [], j, h => absurd h (Nat.not_lt_zero j)
  | c :: cs, 0, _ => rfl
  | c :: cs, j + 1, h => by
    have q := wide_lo d cs j (by simpa using h)
    rw [show 2 * (j + 1) = 2 * j + 1 + 1 from by omega]
    simpa [wideBytes] using q
theorem wide_hi (d : Value) : ∀ (cs : List Int32) (j : Nat), j < cs.length → (wideBytes cs).getD (2 * j + 1) d = .int (hi8 (cs.getD j 0))
  | [], j, h => absurd h (Nat.not_lt_zero j)
  | c :: cs, 0, _ => rfl
  | c :: cs, j + 1, h => by
    have q := wide_hi d cs j (by simpa using h)
    rw [show 2 * (j + 1) + 1 = 2 * j + 1 + 1 + 1 from by omega]
    simpa [wideBytes] using q
theorem low_at (d : Value) (cs : List Int32) (j : Nat) (h : j < cs.length) : (cs.map fun c => Value.int (lo8 c)).getD j d = .int (lo8 (cs.getD j 0)) := by
  simp [List.getD_eq_getElem?_getD, h]
/-- an array of N2 bytes vs codes the chars cs by the coder cd -/
def CodA (cs : List Int32) (cd N2 : Int32) (vs : List Value) : Prop := (cd = 0 ∧ N2 = Int32.ofNat cs.length ∧ vs = (cs.map fun c => Value.int (lo8 c)) ∧ ∀ c ∈ cs, ¬ 255 < c) ∨ (cd = 1 ∧ N2 = Int32.ofNat (2 * cs.length) ∧ vs = wideBytes cs ∧ ∃ c ∈ cs, 255 < c)
theorem CodA.cod {cs : List Int32} {cd N2 : Int32} {vs : List Value} {V : Cell} (h : CodA cs cd N2 vs) (hn : 2 * cs.length < 2 ^ 31) (hs : V.slots.size = N2.toNatClampNeg) (hv : RoadKit.Has V vs (.int 0)) : Cod cd cs.length (fun j => cs.getD j 0) V := by
  rcases h with ⟨rfl, rfl, rfl, h⟩ | ⟨rfl, rfl, rfl, c, hc, hw⟩
  · rw [n32 (by omega)] at hs
    exact Or.inl ⟨rfl, hs, fun j hj => ⟨by rw [hv j (by omega), low_at _ _ _ hj], by
      have e : cs.getD j 0 = cs[j] := by simp [List.getD_eq_getElem?_getD, hj]
      show ¬ 255 < cs.getD j 0
      rw [e]; exact h _ (List.getElem_mem _)⟩⟩
  · rw [n32 (by omega)] at hs
    obtain ⟨j, hj, rfl⟩ := List.getElem_of_mem hc
    exact Or.inr ⟨rfl, hs, fun j hj => ⟨by rw [hv _ (by omega), wide_lo _ _ _ hj], by rw [hv _ (by omega), wide_hi _ _ _ hj]⟩, j, hj, by
      have e : cs.getD j 0 = cs[j] := by simp [List.getD_eq_getElem?_getD, hj]
      show 255 < cs.getD j 0
      rw [e]; exact hw⟩
/-- an object of exactly java/lang/String, its two fields found: as the laws ask it -/
theorem strObj {Z U : State} {a0 : Array Value} {kI : Nat} (wi : (Jvm.Cond.instantiable ST kI).before a0 Z = true) (al : Z.vm.Alike U.vm) {x : Addr} {v0 c0 : Value} (E : RoadKit.Exa Z U.heap x ST) (V : RoadKit.Fld Z U.heap x ST "value" "[B" v0) (C : RoadKit.Fld Z U.heap x ST "coder" "B" c0) :
    ∃ (D : Cell) (fV fC : Field), Blank ST x D U ∧ Found ST "value" "[B" fV U ∧ Found ST "coder" "B" fC U ∧ D.slots[fV.slot]? = some v0 ∧ D.slots[fC.slot]? = some c0 ∧ RoadKit.slotOf Z ST "value" "[B" = fV.slot ∧ RoadKit.slotOf Z ST "coder" "B" = fC.slot := by
  obtain ⟨D, cfV, kV, iV, fV, hD, gV, stV, knV, obV, asV, slV⟩ := V
  obtain ⟨D', cfC, kC, iC, fC, hD', gC, stC, -, -, asC, slC⟩ := C
  cases hD.symm.trans hD'
  obtain ⟨D2, kD, e1, e2, e3, e4, e5⟩ := E
  cases hD.symm.trans e1
  obtain ⟨c2, k2, i1, i2, i3, -⟩ := Cond.instantiable_spec wi
  cases e2.symm.trans i1
  cases e3.symm.trans i2
  obtain ⟨kU, u1, u2⟩ := al.2.2 _ _ e3
  exact ⟨D, fV, fC, ⟨hD, ⟨knV, fun q hq => by rw [hq] at obV; cases obV⟩, by rw [al.findClass]; exact e2, kU, u1, by rw [u2]; exact i3, by rw [u2]; exact e5 i3⟩, ⟨SBG.found_only al ⟨cfV, kV, iV, gV⟩, stV⟩, ⟨SBG.found_only al ⟨cfC, kC, iC, gC⟩, stC⟩, slV, slC, by simp [RoadKit.slotOf, gV], by simp [RoadKit.slotOf, gC]⟩
theorem sta_is {Z U : State} (al : Z.vm.Alike U.vm) {C n d : String} {v : Value} (S : RoadKit.Sta Z U.heap C n d v) : StaticIs U C n d v := by
  obtain ⟨cfS, iS, kS, fS, st, cS, t1, t2, t3, t4, t5, t6, t7⟩ := S
  exact StaticIs.there (s := { Z with heap := U.heap }) ⟨cfS, iS, kS, fS, st, cS, t1, t2, t3, t4, t5, (fun q => by rw [q] at t6; cases t6), t7⟩ al rfl
end StrChars.Road
namespace StrChars
open Jvm Sem ClassFile Op Lib Jvm.Stand Jvm.Free.XT Jvm.Free.ALB Jvm.Free.JM Jvm.Free
open Jvm.Lib.Cold (StaticIs)
/-- what place i of a byte[]'s cell holds -/
def yv (A : Cell) (i : Nat) : Int32 := match A.slots[i]? with | some (.int x) => x | _ => 0
theorem yv_get {a : Addr} {A : Cell} {U : State} (h : XT.Arr .byte a A U) (ht : Typed .byte A) {i : Nat} (hi : i < A.slots.size) : A.slots[i]? = some (.int (yv A i)) := by
  have e := Array.getElem?_eq_getElem hi
  have f := ht i _ e
  unfold yv; rw [e]
  generalize A.slots[i] = v at f
  cases v <;> simp [fits] at f ⊢
/-- the two arrays are equal, place for place -/
def EqC (A B : Cell) : Prop := A.slots.size = B.slots.size ∧ ∀ i, i < A.slots.size → yv A i = yv B i
/-- a boolean that says whether p -/
def Says01 (q : Prop) (r : Option Value) (s u : State) : Prop := ∃ v : Int32, r = some (.int v) ∧ u.heap = s.heap ∧ ((v = 1 ∧ q) ∨ (v = 0 ∧ ¬ q))
theorem Says01.mv {q : Prop} : ∀ r (U U' V V' : State), U'.heap = U.heap → V.vm.Alike V'.vm → V'.heap = V.heap → Says01 q r U V → Says01 q r U' V' :=
  fun r U U' V V' h1 _ h2 ⟨v, a, b, c⟩ => ⟨v, a, by rw [h1, h2]; exact b, c⟩
namespace LEq
def yN : MethodName := ⟨"java/lang/StringLatin1", "equals", "([B[B)Z"⟩
abbrev yB : ByteArray := jdk_43_method_13_code
theorem d0 : decode yB 0 = .ok (.aload_n 0, 1) := by decide +kernel
theorem d1 : decode yB 1 = .ok (.arraylength, 1) := by decide +kernel
theorem d2 : decode yB 2 = .ok (.aload_n 1, 1) := by decide +kernel
theorem d3 : decode yB 3 = .ok (.arraylength, 1) := by decide +kernel
theorem d4 : decode yB 4 = .ok (.if_icmp (.ne) 30, 3) := by decide +kernel
theorem d7 : decode yB 7 = .ok (.iconst 0, 1) := by decide +kernel
theorem d8 : decode yB 8 = .ok (.istore_n 2, 1) := by decide +kernel
theorem d9 : decode yB 9 = .ok (.iload_n 2, 1) := by decide +kernel
theorem d10 : decode yB 10 = .ok (.aload_n 0, 1) := by decide +kernel
theorem d11 : decode yB 11 = .ok (.arraylength, 1) := by decide +kernel
theorem d12 : decode yB 12 = .ok (.if_icmp (.ge) 20, 3) := by decide +kernel
theorem d15 : decode yB 15 = .ok (.aload_n 0, 1) := by decide +kernel
theorem d16 : decode yB 16 = .ok (.iload_n 2, 1) := by decide +kernel
theorem d17 : decode yB 17 = .ok (.baload, 1) := by decide +kernel
theorem d18 : decode yB 18 = .ok (.aload_n 1, 1) := by decide +kernel
theorem d19 : decode yB 19 = .ok (.iload_n 2, 1) := by decide +kernel
theorem d20 : decode yB 20 = .ok (.baload, 1) := by decide +kernel
theorem d21 : decode yB 21 = .ok (.if_icmp (.eq) 5, 3) := by decide +kernel
theorem d24 : decode yB 24 = .ok (.iconst 0, 1) := by decide +kernel
theorem d25 : decode yB 25 = .ok (.ireturn, 1) := by decide +kernel
theorem d26 : decode yB 26 = .ok (.iinc 2 1, 3) := by decide +kernel
theorem d29 : decode yB 29 = .ok (.goto (-20), 3) := by decide +kernel
theorem d32 : decode yB 32 = .ok (.iconst 1, 1) := by decide +kernel
theorem d33 : decode yB 33 = .ok (.ireturn, 1) := by decide +kernel
theorem d34 : decode yB 34 = .ok (.iconst 0, 1) := by decide +kernel
theorem d35 : decode yB 35 = .ok (.ireturn, 1) := by decide +kernel
def site : List Cond := []
def tab : Cond := tabOf yN yB 3 (some .boolean) site
def P (a : Addr) (A : Cell) (b : Addr) (B : Cell) (args : Array Value) (s : State) : Prop := args = #[.ref a, .ref b] ∧ XT.Arr .byte a A s ∧ Typed .byte A ∧ XT.Arr .byte b B s ∧ Typed .byte B
/-- whether two byte[] are equal, place for place -/
theorem law (l : Launch) (a : Addr) (A : Cell) (b : Addr) (B : Cell) : Law l yN 2 2 0 0 yB 3 (some .boolean) site (P a A b B) (Says01 (EqC A B)) [] 0 0 := by
  refine Law.of_walk (plainFor_of_name (by decide +kernel)) (by decide +kernel) (by decide +kernel) (by decide) (fun _ _ h => by rw [h.1]; rfl) (fun _ U U' hal hh h => ⟨h.1, h.2.1.mv hal hh, h.2.2.1, h.2.2.2.1.mv hal hh, h.2.2.2.2⟩) (fun r U U' V V' h1 hal h2 h => Says01.mv r U U' V V' h1 hal h2 h) ?_
  intro p e s m args below meth c s₁ X0 hexec hbytes hml hret hlk hnm hown hh0 W hP
  obtain ⟨rfl, hA, tA, hB, tB⟩ := hP
  have a31 := hA.2.2.2
  have b31 := hB.2.2.2
  have hA0 := hA.mv X0.warmed.alike hh0
  have hB0 := hB.mv X0.warmed.alike hh0
  have c1 : Steps p.tables e below (s₁.setTop (entryFrame m #[.ref a, .ref b] 3)) (s₁.setTop (mkF m 0 #[.val (.ref a), .val (.ref b), .unset] [])) := entry rfl
  have c2 : Steps p.tables e below (s₁.setTop (entryFrame m #[.ref a, .ref b] 3)) (s₁.setTop (mkF m 4 #[.val (.ref a), .val (.ref b), .unset] [.int (Int32.ofNat B.slots.size), .int (Int32.ofNat A.slots.size)])) := c1.trans (by
    refine XS.aloadN X0.here hexec rfl (hb hbytes d0) rfl rfl ?_
    refine X0.alen hexec hA0 rfl rfl (hb hbytes d1) ?_
    refine XS.aloadN X0.here hexec rfl (hb hbytes d2) rfl rfl ?_
    refine X0.alen hexec hB0 rfl rfl (hb hbytes d3) ?_
    exact Steps.refl _)
  by_cases hs : A.slots.size = B.slots.size
  · have c3 : Steps p.tables e below (s₁.setTop (entryFrame m #[.ref a, .ref b] 3)) (s₁.setTop (mkF m 9 #[.val (.ref a), .val (.ref b), .val (.int 0)] [])) := c2.trans (by
      refine XS.icmpNo X0.here hexec rfl (hb hbytes d4) rfl (ii_ne_f (by rw [hs])) ?_
      refine iconstV X0.here hexec rfl 0 (hb hbytes d7) (by decide) ?_
      refine XS.istoreN X0.here hexec rfl (hb hbytes d8) rfl rfl ?_
      exact Steps.refl _)
    have loop : ∀ (r i : Nat), i + r = A.slots.size → (∀ j, j < i → yv A j = yv B j) → Steps p.tables e below (s₁.setTop (entryFrame m #[.ref a, .ref b] 3)) (s₁.setTop (mkF m 9 #[.val (.ref a), .val (.ref b), .val (.int (Int32.ofNat i))] [])) → ∃ (pc : Nat) (Ls : Array Slot) (v : Int32), (pc = 25 ∨ pc = 33) ∧ ((v = 1 ∧ EqC A B) ∨ (v = 0 ∧ ¬ EqC A B)) ∧ Steps p.tables e below (s₁.setTop (entryFrame m #[.ref a, .ref b] 3)) (s₁.setTop (mkF m pc Ls [.int v])) := by
      intro r
      induction r with
      | zero =>
        intro i hi he cl
        exact ⟨33, _, 1, Or.inr rfl, Or.inl ⟨rfl, hs, fun j hj => he j (by omega)⟩, cl.trans (by
          refine XS.iloadN X0.here hexec rfl (hb hbytes d9) rfl ?_
          refine XS.aloadN X0.here hexec rfl (hb hbytes d10) rfl rfl ?_
          refine X0.alen hexec hA0 rfl rfl (hb hbytes d11) ?_
          refine XS.icmpYes X0.here hexec rfl (pc0 := 12) rfl (hb hbytes d12) rfl (ii_ge_t (nlt32 (by omega) (by omega))) (by decide) rfl ?_
          refine iconstV X0.here hexec rfl 1 (hb hbytes d32) (by decide) ?_
          exact Steps.refl _)⟩
      | succ r ih =>
        intro i hi he cl
        have c4 : Steps p.tables e below (s₁.setTop (entryFrame m #[.ref a, .ref b] 3)) (s₁.setTop (mkF m 21 #[.val (.ref a), .val (.ref b), .val (.int (Int32.ofNat i))] [.int (yv B i), .int (yv A i)])) := cl.trans (by
          refine XS.iloadN X0.here hexec rfl (hb hbytes d9) rfl ?_
          refine XS.aloadN X0.here hexec rfl (hb hbytes d10) rfl rfl ?_
          refine X0.alen hexec hA0 rfl rfl (hb hbytes d11) ?_
          refine XS.icmpNo X0.here hexec rfl (hb hbytes d12) rfl (ii_ge_f (lt32 (by omega) (by omega))) ?_
          refine XS.aloadN X0.here hexec rfl (hb hbytes d15) rfl rfl ?_
          refine XS.iloadN X0.here hexec rfl (hb hbytes d16) rfl ?_
          refine X0.aget hexec hA0 rfl (yv_get hA tA (i := i) (by omega)) rfl rfl (hb hbytes d17) ?_
          refine XS.aloadN X0.here hexec rfl (hb hbytes d18) rfl rfl ?_
          refine XS.iloadN X0.here hexec rfl (hb hbytes d19) rfl ?_
          refine X0.aget hexec hB0 rfl (yv_get hB tB (i := i) (by omega)) rfl rfl (hb hbytes d20) ?_
          exact Steps.refl _)
        by_cases hv : yv A i = yv B i
        · have c5 : Steps p.tables e below (s₁.setTop (entryFrame m #[.ref a, .ref b] 3)) (s₁.setTop (mkF m 9 #[.val (.ref a), .val (.ref b), .val (.int (Int32.ofNat i + 1))] [])) := c4.trans (by
            refine XS.icmpYes X0.here hexec rfl (pc0 := 21) rfl (hb hbytes d21) rfl (ii_eq_t hv) (by decide) rfl ?_
            refine iincV X0.here hexec rfl 1 (hb hbytes d26) (by decide) rfl rfl ?_
            refine XS.goto X0.here hexec rfl (pc0 := 29) rfl (hb hbytes d29) (by decide) rfl ?_
            exact Steps.refl _)
          rw [succ32] at c5
          exact ih (i + 1) (by omega) (fun j hj => by
            by_cases e : j = i
            · rw [e]; exact hv
            · exact he j (by omega)) c5
        · exact ⟨25, _, 0, Or.inl rfl, Or.inr ⟨rfl, fun q => hv (q.2 i (by omega))⟩, c4.trans (by
            refine XS.icmpNo X0.here hexec rfl (hb hbytes d21) rfl (ii_eq_f hv) ?_
            refine iconstV X0.here hexec rfl 0 (hb hbytes d24) (by decide) ?_
            exact Steps.refl _)⟩
    obtain ⟨pc, Ls, v, hpc, hv, cz⟩ := loop A.slots.size 0 (by omega) (fun j hj => absurd hj (Nat.not_lt_zero j)) c3
    have nv : narrow .boolean (.int v) = .int v := by rcases hv with ⟨rfl, -⟩ | ⟨rfl, -⟩ <;> rfl
    rcases hpc with rfl | rfl
    · exact ⟨s₁, some (.int v), _, _, _, X0, rfl, rfl, rfl, (fun h => by cases h), ⟨v, rfl, hh0, hv⟩, fun fs hl => cz.trans (X0.ireturnOut hexec hret nv (Or.inr (Or.inl rfl)) (hb hbytes d25) hl)⟩
    · exact ⟨s₁, some (.int v), _, _, _, X0, rfl, rfl, rfl, (fun h => by cases h), ⟨v, rfl, hh0, hv⟩, fun fs hl => cz.trans (X0.ireturnOut hexec hret nv (Or.inr (Or.inl rfl)) (hb hbytes d33) hl)⟩
  · have c3 : Steps p.tables e below (s₁.setTop (entryFrame m #[.ref a, .ref b] 3)) (s₁.setTop (mkF m 35 #[.val (.ref a), .val (.ref b), .unset] [.int 0])) := c2.trans (by
      refine XS.icmpYes X0.here hexec rfl (pc0 := 4) rfl (hb hbytes d4) rfl (ii_ne_t (ne32 a31 b31 hs)) (by decide) rfl ?_
      refine iconstV X0.here hexec rfl 0 (hb hbytes d34) (by decide) ?_
      exact Steps.refl _)
    exact ⟨s₁, some (.int 0), _, _, _, X0, rfl, rfl, rfl, (fun h => by cases h), ⟨0, rfl, hh0, Or.inr ⟨rfl, fun q => hs q.1⟩⟩, fun fs hl => c3.trans (X0.ireturnOut hexec hret rfl (Or.inr (Or.inl rfl)) (hb hbytes d35) hl)⟩
end LEq
theorem Cod.ty {cd : Int32} {n : Nat} {f : Nat → Int32} {V : Cell} (h : Cod cd n f V) : Typed .byte V := fun i v hv => by
  have hi : i < V.slots.size := (Array.getElem?_eq_some_iff.mp hv).1
  rcases h with ⟨-, k1, k2⟩ | ⟨-, k1, k2, -⟩
  · rw [(k2 i (by omega)).1] at hv; cases hv; exact fits_lo8 _
  · rcases Nat.mod_two_eq_zero_or_one i with e | e
    · obtain ⟨j, rfl⟩ : ∃ j, i = 2 * j := ⟨i / 2, by omega⟩
      rw [(k2 j (by omega)).1] at hv; cases hv; exact fits_lo8 _
    · obtain ⟨j, rfl⟩ : ∃ j, i = 2 * j + 1 := ⟨i / 2, by omega⟩
      rw [(k2 j (by omega)).2] at hv; cases hv; exact fits_lo8 _
/-- the same text -/
def SameT (n : Nat) (f : Nat → Int32) (k : Nat) (g : Nat → Int32) : Prop := n = k ∧ ∀ j, j < n → f j = g j
theorem lo8_inj {x y : Int32} (h0 : ¬ x < 0) (h1 : ¬ 255 < x) (k0 : ¬ y < 0) (k1 : ¬ 255 < y) (h : lo8 x = lo8 y) : x = y := by
  rw [← lo8_mask h0 h1, ← lo8_mask k0 k1, h]
/-- arrays coded by one coder are equal just where the texts are -/
theorem Cod.eqv {cd : Int32} {n k : Nat} {f g : Nat → Int32} {V V' : Cell} (h : Cod cd n f V) (h' : Cod cd k g V') (hf : ∀ j, j < n → ¬ f j < 0 ∧ ¬ 65535 < f j) (hg : ∀ j, j < k → ¬ g j < 0 ∧ ¬ 65535 < g j) : EqC V V' ↔ SameT n f k g := by
  have yvv : ∀ {W : Cell} {i : Nat} {x : Int32}, W.slots[i]? = some (.int x) → yv W i = x := fun q => by unfold yv; rw [q]
  rcases h with ⟨rfl, k1, k2⟩ | ⟨rfl, k1, k2, -⟩
  · rcases h' with ⟨-, m1, m2⟩ | ⟨e, -⟩
    · constructor
      · rintro ⟨e1, e2⟩
        refine ⟨by omega, fun j hj => ?_⟩
        have q := e2 j (by omega)
        rw [yvv (k2 j hj).1, yvv (m2 j (by omega)).1] at q
        exact lo8_inj (hf j hj).1 (k2 j hj).2 (hg j (by omega)).1 (m2 j (by omega)).2 q
      · rintro ⟨rfl, e2⟩
        refine ⟨by omega, fun j hj => ?_⟩
        rw [yvv (k2 j (by omega)).1, yvv (m2 j (by omega)).1, e2 j (by omega)]
    · exact absurd e (by decide)
  · rcases h' with ⟨e, -⟩ | ⟨-, m1, m2, -⟩
    · exact absurd e (by decide)
    · constructor
      · rintro ⟨e1, e2⟩
        refine ⟨by omega, fun j hj => ?_⟩
        have q1 := e2 (2 * j) (by omega)
        have q2 := e2 (2 * j + 1) (by omega)
        rw [yvv (k2 j hj).1, yvv (m2 j (by omega)).1] at q1
        rw [yvv (k2 j hj).2, yvv (m2 j (by omega)).2] at q2
        rw [← pair_says (hf j hj).1 (hf j hj).2, ← pair_says (hg j (by omega)).1 (hg j (by omega)).2, q1, q2]
      · rintro ⟨rfl, e2⟩
        refine ⟨by omega, fun i hi => ?_⟩
        rcases Nat.mod_two_eq_zero_or_one i with e | e
        · obtain ⟨j, rfl⟩ : ∃ j, i = 2 * j := ⟨i / 2, by omega⟩
          rw [yvv (k2 j (by omega)).1, yvv (m2 j (by omega)).1, e2 j (by omega)]
        · obtain ⟨j, rfl⟩ : ∃ j, i = 2 * j + 1 := ⟨i / 2, by omega⟩
          rw [yvv (k2 j (by omega)).2, yvv (m2 j (by omega)).2, e2 j (by omega)]
/-- two codings differ: so do the texts -/
theorem Cod.dif {cd cd' : Int32} {n k : Nat} {f g : Nat → Int32} {V V' : Cell} (h : Cod cd n f V) (h' : Cod cd' k g V') (hne : ¬ cd = cd') : ¬ SameT n f k g := by
  rintro ⟨rfl, e⟩
  rcases h with ⟨rfl, -, k2⟩ | ⟨rfl, -, -, j, hj, hw⟩
  · rcases h' with ⟨rfl, -⟩ | ⟨-, -, -, j, hj, hw⟩
    · exact hne rfl
    · exact (k2 j hj).2 (by rw [e j hj]; exact hw)
  · rcases h' with ⟨-, -, m2⟩ | ⟨rfl, -⟩
    · exact (m2 j hj).2 (by rw [← e j hj]; exact hw)
    · exact hne rfl
/-- an object of exactly C is an instance of C -/
theorem cinst {p : Program} {l : Launch} {e : Env} {R : Room} {s : State} {m : MethodId} {args : Array Value} {below : List Frame} {meth : Method} {c : Code} {T : State} {locs : List Loc} {cells slots : Nat} (X : Stand p l e R s m args below meth c T locs cells slots) (hexec : p.tables.exec = Jvm.exec) {own C : String} {index : Nat} (hown : s.vm.findClass own = some m.cls) (hlink : (Cond.classLink own index C).before args s = true) {a : Addr} (hE : Exact C a T)
    {g : JFrame} (hg : g.method = m) {rest : List Value} (hstack : g.stack = .ref a :: rest) (hdg : decode c.code g.pc = .ok (.instanceof index, 3)) :
    ∃ T', Stand p l e R s m args below meth c T' locs cells slots ∧ T'.heap = T.heap ∧ ∀ target, Steps p.tables e below (T'.setTop { g with pc := g.pc + 3, stack := .int 1 :: rest }) target → Steps p.tables e below (T.setTop g) target := by
  obtain ⟨cB, h1, D, h2, h3, h4⟩ := hE
  have h1' : s.vm.findClass C = some cB := by rw [← X.warmed.alike.findClass]; exact h1
  obtain ⟨vm', X', st⟩ := X.instanceofYes hexec hown hlink h2 h4 h1' (by rw [h3]; exact Jvm.Free.SB.assignable_self _ _) hg hstack hdg
  exact ⟨_, X', rfl, st⟩
theorem cself {p : Program} {l : Launch} {e : Env} {R : Room} {s : State} {m : MethodId} {args : Array Value} {below : List Frame} {meth : Method} {c : Code} {T : State} {locs : List Loc} {cells slots : Nat} (X : Stand p l e R s m args below meth c T locs cells slots) (hexec : p.tables.exec = Jvm.exec) {own C : String} {index : Nat} (hown : s.vm.findClass own = some m.cls) (hlink : (Cond.classLink own index C).before args s = true) {a : Addr} (hE : Exact C a T)
    {g : JFrame} (hg : g.method = m) {rest : List Value} (hstack : g.stack = .ref a :: rest) (hdg : decode c.code g.pc = .ok (.checkcast index, 3)) :
    ∃ T', Stand p l e R s m args below meth c T' locs cells slots ∧ T'.heap = T.heap ∧ ∀ target, Steps p.tables e below (T'.setTop { g with pc := g.pc + 3, stack := .ref a :: rest }) target → Steps p.tables e below (T.setTop g) target := by
  obtain ⟨cB, h1, D, h2, h3, h4⟩ := hE
  have h1' : s.vm.findClass C = some cB := by rw [← X.warmed.alike.findClass]; exact h1
  obtain ⟨vm', X', st⟩ := X.checkcastYes hexec hown hlink h2 h4 h1' (by rw [h3]; exact Jvm.Free.SB.assignable_self _ _) hg hstack hdg
  exact ⟨_, X', rfl, fun t h => st t (by rw [← hstack] at h; exact h)⟩
namespace SEq
def yN : MethodName := ⟨"java/lang/String", "equals", "(Ljava/lang/Object;)Z"⟩
abbrev yB : ByteArray := jdk_42_method_66_code
theorem d0 : decode yB 0 = .ok (.aload_n 0, 1) := by decide +kernel
theorem d1 : decode yB 1 = .ok (.aload_n 1, 1) := by decide +kernel
theorem d2 : decode yB 2 = .ok (.if_acmp (.ne) 5, 3) := by decide +kernel
theorem d5 : decode yB 5 = .ok (.iconst 1, 1) := by decide +kernel
theorem d6 : decode yB 6 = .ok (.ireturn, 1) := by decide +kernel
theorem d7 : decode yB 7 = .ok (.aload_n 1, 1) := by decide +kernel
theorem d8 : decode yB 8 = .ok (.instanceof 10, 3) := by decide +kernel
theorem d11 : decode yB 11 = .ok (.ifCond (.eq) 43, 3) := by decide +kernel
theorem d14 : decode yB 14 = .ok (.aload_n 1, 1) := by decide +kernel
theorem d15 : decode yB 15 = .ok (.checkcast 10, 3) := by decide +kernel
theorem d18 : decode yB 18 = .ok (.astore_n 2, 1) := by decide +kernel
theorem d19 : decode yB 19 = .ok (.getstatic 38, 3) := by decide +kernel
theorem d22 : decode yB 22 = .ok (.ifCond (.eq) 14, 3) := by decide +kernel
theorem d25 : decode yB 25 = .ok (.aload_n 0, 1) := by decide +kernel
theorem d26 : decode yB 26 = .ok (.getfield 15, 3) := by decide +kernel
theorem d29 : decode yB 29 = .ok (.aload_n 2, 1) := by decide +kernel
theorem d30 : decode yB 30 = .ok (.getfield 15, 3) := by decide +kernel
theorem d33 : decode yB 33 = .ok (.if_icmp (.ne) 21, 3) := by decide +kernel
theorem d36 : decode yB 36 = .ok (.aload_n 0, 1) := by decide +kernel
theorem d37 : decode yB 37 = .ok (.getfield 9, 3) := by decide +kernel
theorem d40 : decode yB 40 = .ok (.aload_n 2, 1) := by decide +kernel
theorem d41 : decode yB 41 = .ok (.getfield 9, 3) := by decide +kernel
theorem d44 : decode yB 44 = .ok (.invokestatic 541, 3) := by decide +kernel
theorem d47 : decode yB 47 = .ok (.ifCond (.eq) 7, 3) := by decide +kernel
theorem d50 : decode yB 50 = .ok (.iconst 1, 1) := by decide +kernel
theorem d51 : decode yB 51 = .ok (.goto 4, 3) := by decide +kernel
theorem d54 : decode yB 54 = .ok (.iconst 0, 1) := by decide +kernel
theorem d55 : decode yB 55 = .ok (.ireturn, 1) := by decide +kernel
def site : List Cond := [.classLink "java/lang/String" 10 "java/lang/String", .fieldLink "java/lang/String" 38 "java/lang/String" "COMPACT_STRINGS" "Z", .fieldLink "java/lang/String" 15 "java/lang/String" "coder" "B", .fieldLink "java/lang/String" 9 "java/lang/String" "value" "[B", LEq.tab] ++ staticW "java/lang/String" 541 LEq.yN
def tab : Cond := tabOf yN yB 3 (some .boolean) site
def P (x t : Addr) (V : Cell) (cd : Int32) (n : Nat) (f : Nat → Int32) (y t' : Addr) (V' : Cell) (cd' : Int32) (k : Nat) (g : Nat → Int32) (z : Int32) (args : Array Value) (s : State) : Prop := args = #[.ref x, .ref y] ∧ Txt x t V cd n f s ∧ Txt y t' V' cd' k g s ∧ StaticIs s "java/lang/String" "COMPACT_STRINGS" "Z" (.int z) ∧ ¬ z = 0
/-- equals(Object) of two Strings: whether the texts are the same -/
theorem law (l : Launch) (x t : Addr) (V : Cell) (cd : Int32) (n : Nat) (f : Nat → Int32) (y t' : Addr) (V' : Cell) (cd' : Int32) (k : Nat) (g : Nat → Int32) (z : Int32) : Law l yN 2 1 1 14 yB 3 (some .boolean) site (P x t V cd n f y t' V' cd' k g z) (Says01 (SameT n f k g)) [] 0 0 := by
  refine Law.of_walk (plainFor_of_name (by decide +kernel)) (by decide +kernel) (by decide +kernel) (by decide) (fun _ _ h => by rw [h.1]; rfl) (fun _ U U' hal hh h => ⟨h.1, h.2.1.mv hal hh, h.2.2.1.mv hal hh, h.2.2.2.1.there hal hh, h.2.2.2.2⟩) (fun r U U' V V' h1 hal h2 h => Says01.mv r U U' V V' h1 hal h2 h) ?_
  intro p e s m args below meth c s₁ X0 hexec hbytes hml hret hlk hnm hown hh0 W hP
  obtain ⟨rfl, hx, hy, s1, hz⟩ := hP
  have c1 : Steps p.tables e below (s₁.setTop (entryFrame m #[.ref x, .ref y] 3)) (s₁.setTop (mkF m 2 #[.val (.ref x), .val (.ref y), .unset] [.ref y, .ref x])) := Steps.trans (entry rfl) (by
    show Steps p.tables e below (s₁.setTop (mkF m 0 #[.val (.ref x), .val (.ref y), .unset] [])) _
    refine XS.aloadN X0.here hexec rfl (hb hbytes d0) rfl rfl ?_
    refine XS.aloadN X0.here hexec rfl (hb hbytes d1) rfl rfl ?_
    exact Steps.refl _)
  by_cases hxy : x = y
  · have c2 : Steps p.tables e below (s₁.setTop (entryFrame m #[.ref x, .ref y] 3)) (s₁.setTop (mkF m 6 #[.val (.ref x), .val (.ref y), .unset] [.int 1])) := c1.trans (by
      refine acmpNo X0.here hexec rfl (hb hbytes d2) rfl rfl rfl (by simp [acmp, hxy]) ?_
      refine iconstV X0.here hexec rfl 1 (hb hbytes d5) (by decide) ?_
      exact Steps.refl _)
    subst hxy
    have ec : cd = cd' := by
      obtain ⟨D, fd, a1, a2, a3⟩ := hx.2.2.1
      obtain ⟨D', fd', b1, b2, b3⟩ := hy.2.2.1
      cases a1.symm.trans b1
      obtain ⟨q1, q2, q3, q4⟩ := a2.1
      obtain ⟨r1, r2, r3, r4⟩ := b2.1
      cases q4.symm.trans r4
      cases a3.symm.trans b3; rfl
    have et : t = t' := by
      obtain ⟨D, fd, a1, a2, a3⟩ := hx.2.1
      obtain ⟨D', fd', b1, b2, b3⟩ := hy.2.1
      cases a1.symm.trans b1
      obtain ⟨q1, q2, q3, q4⟩ := a2.1
      obtain ⟨r1, r2, r3, r4⟩ := b2.1
      cases q4.symm.trans r4
      cases a3.symm.trans b3; rfl
    subst ec et
    have ev : V = V' := by cases hx.2.2.2.1.1.symm.trans hy.2.2.2.1.1; rfl
    subst ev
    have hs : SameT n f k g := (Cod.eqv hx.2.2.2.2.1 hy.2.2.2.2.1 hx.2.2.2.2.2 hy.2.2.2.2.2).mp ⟨rfl, fun _ _ => rfl⟩
    exact ⟨s₁, some (.int 1), _, _, _, X0, rfl, rfl, rfl, (fun h => by cases h), ⟨1, rfl, hh0, Or.inl ⟨rfl, hs⟩⟩, fun fs hl => c2.trans (X0.ireturnOut hexec hret rfl (Or.inr (Or.inl rfl)) (hb hbytes d6) hl)⟩
  · have c2 : Steps p.tables e below (s₁.setTop (entryFrame m #[.ref x, .ref y] 3)) (s₁.setTop (mkF m 8 #[.val (.ref x), .val (.ref y), .unset] [.ref y])) := c1.trans (by
      refine acmpYes X0.here hexec rfl (pc0 := 2) rfl (hb hbytes d2) rfl rfl rfl (by simp [acmp, hxy]) (by decide) rfl ?_
      refine XS.aloadN X0.here hexec rfl (hb hbytes d7) rfl rfl ?_
      exact Steps.refl _)
    obtain ⟨T3, X3, q3, st3⟩ := cinst X0 hexec hown (wk W (.classLink "java/lang/String" 10 "java/lang/String")) (hy.mv X0.warmed.alike hh0).1 (g := (mkF m 8 #[.val (.ref x), .val (.ref y), .unset] [.ref y])) rfl (rest := []) rfl (hb hbytes d8)
    have hh3 := q3.trans hh0
    have c4 : Steps p.tables e below (s₁.setTop (entryFrame m #[.ref x, .ref y] 3)) (T3.setTop (mkF m 15 #[.val (.ref x), .val (.ref y), .unset] [.ref y])) := (c2.trans (st3 _ (Steps.refl _))).trans (by
      refine XS.ifNo X3.here hexec rfl (hb hbytes d11) rfl (i0_eq_f (by decide)) ?_
      refine XS.aloadN X3.here hexec rfl (hb hbytes d14) rfl rfl ?_
      exact Steps.refl _)
    obtain ⟨T5, X5, q5, st5⟩ := cself X3 hexec hown (wk W (.classLink "java/lang/String" 10 "java/lang/String")) (hy.mv X3.warmed.alike hh3).1 (g := (mkF m 15 #[.val (.ref x), .val (.ref y), .unset] [.ref y])) rfl (rest := []) rfl (hb hbytes d15)
    have hh5 := q5.trans hh3
    have c6 : Steps p.tables e below (s₁.setTop (entryFrame m #[.ref x, .ref y] 3)) (T5.setTop (mkF m 19 #[.val (.ref x), .val (.ref y), .val (.ref y)] [])) := (c4.trans (st5 _ (Steps.refl _))).trans (by
      refine XS.astoreN X5.here hexec rfl (hb hbytes d18) rfl rfl rfl ?_
      exact Steps.refl _)
    obtain ⟨T7, X7, q7, st7⟩ := X5.sget hexec hown (wk W (.fieldLink "java/lang/String" 38 "java/lang/String" "COMPACT_STRINGS" "Z")) s1 (fun _ _ h => by rw [hh5]; exact h) (g := (mkF m 19 #[.val (.ref x), .val (.ref y), .val (.ref y)] [])) rfl (hb hbytes d19)
    have hh7 := q7.trans hh5
    have c8 : Steps p.tables e below (s₁.setTop (entryFrame m #[.ref x, .ref y] 3)) (T7.setTop (mkF m 26 #[.val (.ref x), .val (.ref y), .val (.ref y)] [.ref x])) := (c6.trans (st7 _ (Steps.refl _))).trans (by
      refine XS.ifNo X7.here hexec rfl (hb hbytes d22) rfl (i0_eq_f hz) ?_
      refine XS.aloadN X7.here hexec rfl (hb hbytes d25) rfl rfl ?_
      exact Steps.refl _)
    obtain ⟨T9, X9, q9, st9⟩ := X7.hget hexec hown (wk W (.fieldLink "java/lang/String" 15 "java/lang/String" "coder" "B")) (hx.mv X7.warmed.alike hh7).2.2.1 (g := (mkF m 26 #[.val (.ref x), .val (.ref y), .val (.ref y)] [.ref x])) rfl (rest := []) rfl (hb hbytes d26)
    have hh9 := q9.trans hh7
    have c10 : Steps p.tables e below (s₁.setTop (entryFrame m #[.ref x, .ref y] 3)) (T9.setTop (mkF m 30 #[.val (.ref x), .val (.ref y), .val (.ref y)] [.ref y, .int cd])) := (c8.trans (st9 _ (Steps.refl _))).trans (by
      refine XS.aloadN X9.here hexec rfl (hb hbytes d29) rfl rfl ?_
      exact Steps.refl _)
    obtain ⟨T11, X11, q11, st11⟩ := X9.hget hexec hown (wk W (.fieldLink "java/lang/String" 15 "java/lang/String" "coder" "B")) (hy.mv X9.warmed.alike hh9).2.2.1 (g := (mkF m 30 #[.val (.ref x), .val (.ref y), .val (.ref y)] [.ref y, .int cd])) rfl (rest := [.int cd]) rfl (hb hbytes d30)
    have hh11 := q11.trans hh9
    have c12 : Steps p.tables e below (s₁.setTop (entryFrame m #[.ref x, .ref y] 3)) (T11.setTop (mkF m 33 #[.val (.ref x), .val (.ref y), .val (.ref y)] [.int cd', .int cd])) := c10.trans (st11 _ (Steps.refl _))
    by_cases hcd : cd = cd'
    · subst hcd
      have c13 : Steps p.tables e below (s₁.setTop (entryFrame m #[.ref x, .ref y] 3)) (T11.setTop (mkF m 37 #[.val (.ref x), .val (.ref y), .val (.ref y)] [.ref x])) := c12.trans (by
        refine XS.icmpNo X11.here hexec rfl (hb hbytes d33) rfl (ii_ne_f rfl) ?_
        refine XS.aloadN X11.here hexec rfl (hb hbytes d36) rfl rfl ?_
        exact Steps.refl _)
      obtain ⟨T14, X14, q14, st14⟩ := X11.hget hexec hown (wk W (.fieldLink "java/lang/String" 9 "java/lang/String" "value" "[B")) (hx.mv X11.warmed.alike hh11).2.1 (g := (mkF m 37 #[.val (.ref x), .val (.ref y), .val (.ref y)] [.ref x])) rfl (rest := []) rfl (hb hbytes d37)
      have hh14 := q14.trans hh11
      have c15 : Steps p.tables e below (s₁.setTop (entryFrame m #[.ref x, .ref y] 3)) (T14.setTop (mkF m 41 #[.val (.ref x), .val (.ref y), .val (.ref y)] [.ref y, .ref t])) := (c13.trans (st14 _ (Steps.refl _))).trans (by
        refine XS.aloadN X14.here hexec rfl (hb hbytes d40) rfl rfl ?_
        exact Steps.refl _)
      obtain ⟨T16, X16, q16, st16⟩ := X14.hget hexec hown (wk W (.fieldLink "java/lang/String" 9 "java/lang/String" "value" "[B")) (hy.mv X14.warmed.alike hh14).2.1 (g := (mkF m 41 #[.val (.ref x), .val (.ref y), .val (.ref y)] [.ref y, .ref t])) rfl (rest := [.ref t]) rfl (hb hbytes d41)
      have hh16 := q16.trans hh14
      have c17 : Steps p.tables e below (s₁.setTop (entryFrame m #[.ref x, .ref y] 3)) (T16.setTop (mkF m 44 #[.val (.ref x), .val (.ref y), .val (.ref y)] [.ref t', .ref t])) := c15.trans (st16 _ (Steps.refl _))
      obtain ⟨v18, T18, X18, E18, g18⟩ := X16.callS hexec (LEq.law l t V t' V') hown (wks W (staticW "java/lang/String" 541 LEq.yN)) (wk W LEq.tab) (W := 0) (Nat.le_of_ble_eq_true rfl) (Nat.le_of_ble_eq_true rfl) (Nat.le_refl _) (Nat.le_refl _) (g := (mkF m 44 #[.val (.ref x), .val (.ref y), .val (.ref y)] [.ref t', .ref t])) rfl (by rw [hml]; rfl) c17 (argsL := [.ref t, .ref t']) (rest := []) rfl rfl (by show 2 * 0 + 0 ≤ _; decide) (hb hbytes d44) (⟨rfl, hx.2.2.2.1.mv X16.warmed.alike hh16, hx.2.2.2.2.1.ty, hy.2.2.2.1.mv X16.warmed.alike hh16, hy.2.2.2.2.1.ty⟩)
      obtain ⟨v, rfl, q18, hv⟩ := E18
      have iff := Cod.eqv hx.2.2.2.2.1 hy.2.2.2.2.1 hx.2.2.2.2.2 hy.2.2.2.2.2
      rcases hv with ⟨rfl, he⟩ | ⟨rfl, he⟩
      · have c19 : Steps p.tables e below (s₁.setTop (entryFrame m #[.ref x, .ref y] 3)) (T18.setTop (mkF m 55 #[.val (.ref x), .val (.ref y), .val (.ref y)] [.int 1])) := Steps.trans g18 (by
          refine XS.ifNo X18.here hexec rfl (hb hbytes d47) rfl (i0_eq_f (by decide)) ?_
          refine iconstV X18.here hexec rfl 1 (hb hbytes d50) (by decide) ?_
          refine XS.goto X18.here hexec rfl (pc0 := 51) rfl (hb hbytes d51) (by decide) rfl ?_
          exact Steps.refl _)
        exact ⟨T18, some (.int 1), _, _, _, X18, rfl, rfl, rfl, (fun h => by cases h), ⟨1, rfl, q18.trans hh16, Or.inl ⟨rfl, iff.mp he⟩⟩, fun fs hl => c19.trans (X18.ireturnOut hexec hret rfl (Or.inr (Or.inl rfl)) (hb hbytes d55) hl)⟩
      · have c19 : Steps p.tables e below (s₁.setTop (entryFrame m #[.ref x, .ref y] 3)) (T18.setTop (mkF m 55 #[.val (.ref x), .val (.ref y), .val (.ref y)] [.int 0])) := Steps.trans g18 (by
          refine XS.ifYes X18.here hexec rfl (pc0 := 47) rfl (hb hbytes d47) rfl (i0_eq_t rfl) (by decide) rfl ?_
          refine iconstV X18.here hexec rfl 0 (hb hbytes d54) (by decide) ?_
          exact Steps.refl _)
        exact ⟨T18, some (.int 0), _, _, _, X18, rfl, rfl, rfl, (fun h => by cases h), ⟨0, rfl, q18.trans hh16, Or.inr ⟨rfl, fun q => he (iff.mpr q)⟩⟩, fun fs hl => c19.trans (X18.ireturnOut hexec hret rfl (Or.inr (Or.inl rfl)) (hb hbytes d55) hl)⟩
    · have c13 : Steps p.tables e below (s₁.setTop (entryFrame m #[.ref x, .ref y] 3)) (T11.setTop (mkF m 55 #[.val (.ref x), .val (.ref y), .val (.ref y)] [.int 0])) := c12.trans (by
        refine XS.icmpYes X11.here hexec rfl (pc0 := 33) rfl (hb hbytes d33) rfl (ii_ne_t hcd) (by decide) rfl ?_
        refine iconstV X11.here hexec rfl 0 (hb hbytes d54) (by decide) ?_
        exact Steps.refl _)
      exact ⟨T11, some (.int 0), _, _, _, X11, rfl, rfl, rfl, (fun h => by cases h), ⟨0, rfl, hh11, Or.inr ⟨rfl, Cod.dif hx.2.2.2.2.1 hy.2.2.2.2.1 hcd⟩⟩, fun fs hl => c13.trans (X11.ireturnOut hexec hret rfl (Or.inr (Or.inl rfl)) (hb hbytes d55) hl)⟩
theorem pays {l : Launch} {R : Room} {p : Program} {e : Env} {below : List Frame} {s : State} {sargs : Array Value} {len W : Nat} (x t : Addr) (V : Cell) (cd : Int32) (n : Nat) (f : Nat → Int32) (y t' : Addr) (V' : Cell) (cd' : Int32) (k : Nat) (g : Nat → Int32) (z : Int32) (htab : tab.before sargs s = true) (hfr : 2 ≤ R.frames) (hlo : W + 28 ≤ R.locals) :
    Back l R p e below s sargs yN len W (fun A₁ a₁ => A₁.cells + 0 ≤ R.cells ∧ A₁.slots + 0 ≤ R.slots ∧ P x t V cd n f y t' V' cd' k g z a₁ A₁.U) (fun A₁ _ v₁ B₁ => Says01 (SameT n f k g) v₁ A₁.U B₁.U ∧ B₁.locs = A₁.locs ++ [] ∧ B₁.cells = A₁.cells + 0 ∧ B₁.slots = A₁.slots + 0) :=
  (law l x t V cd n f y t' V' cd' k g z).pays htab hfr (by omega)
end SEq
end StrChars
namespace StrChars.Road
open Jvm Sem ClassFile Op Lib Jvm.Stand Jvm.Free Jvm.Free.XT
open Jvm.Lib.Cold (StaticIs)
/-- the words of String.equals(Object) -/
abbrev wordsEq : List Jvm.Cond := [.code SEq.yN SEq.yB 3 (some .boolean), .initialized ST, .classLink ST 10 ST, .fieldLink ST 38 ST "COMPACT_STRINGS" "Z", .fieldLink ST 15 ST "coder" "B", .fieldLink ST 9 ST "value" "[B", .methodLink ST 541 LEq.yN, .static LEq.yN, .code LEq.yN LEq.yB 3 (some .boolean), .initialized "java/lang/StringLatin1"]
theorem tabEq_of {a : Array Value} {s : State} (h : ∀ w ∈ wordsEq, w.before a s = true) : SEq.tab.before a s = true := by
  have hl : LEq.tab.before a s = true := unparts (wk h (.code LEq.yN LEq.yB 3 (some .boolean))) (wks h (.initialized LEq.yN.cls :: LEq.site))
  have q := consq hl h
  exact unparts (wk q (.code SEq.yN SEq.yB 3 (some .boolean))) (wks q (.initialized SEq.yN.cls :: SEq.site))
theorem movedEq {Z s : State} {a0 args : Array Value} (hZ : Z.Warmed39 s.vm) (hw : ∀ d ∈ wordsEq, d.before a0 Z = true) : ∀ d ∈ wordsEq, d.before args s = true := fun d hd => by
  have t : ∀ d ∈ wordsEq, (d.onTables && d.keepsFace) = true := by decide +kernel
  exact RoadKit.mv hZ (hw d hd) (t d hd)
/-- the road's facts of a String, as the laws ask it -/
theorem txt_of {Z U : State} {a0 : Array Value} {kI : Nat} (wi : (Jvm.Cond.instantiable ST kI).before a0 Z = true) (al : Z.vm.Alike U.vm) {x t : Addr} {kb : ClassId} {cs : List Int32} {cd N2 : Int32} {vs : List Value} (E : RoadKit.Exa Z U.heap x ST) (V : RoadKit.Fld Z U.heap x ST "value" "[B" (.ref t)) (C : RoadKit.Fld Z U.heap x ST "coder" "B" (.int cd)) (K : RoadKit.Arv Z U.heap t kb .byte N2 vs (.int 0)) (hc : CodA cs cd N2 vs) (hb : ∀ c ∈ cs, ¬ c < 0 ∧ ¬ (65535 : Int32) < c) (l2 : cs.length ≤ 4000) :
    ∃ A, Txt x t A cd cs.length (fun j => cs.getD j 0) U := by
  obtain ⟨A, K1, K2, K3, K4, K5, K6⟩ := K
  have hcod := hc.cod (by omega) K3 K5
  obtain ⟨D, fV, fC, hB, F1, F2, g1, g2, -, -⟩ := strObj wi al E V C
  exact ⟨A, ⟨_, hB.2.2.1, D, hB.1, rfl, by cases q : D.vm <;> first | rfl | exact absurd q (hB.2.1.2 _)⟩, Has.of hB F1 g1, Has.of hB F2 g2, ⟨K1.1, State.isArrayOf_alike al K1.2.1, K1.2.2, by rcases hcod with ⟨-, q, -⟩ | ⟨-, q, -⟩ <;> omega⟩, hcod, fun j hj => by
    have e : cs.getD j 0 = cs[j] := by simp [List.getD_eq_getElem?_getD, hj]
    show ¬ cs.getD j 0 < 0 ∧ ¬ 65535 < cs.getD j 0
    rw [e]; exact hb _ (List.getElem_mem _)⟩
theorem same_list (cs ds : List Int32) : SameT cs.length (fun j => cs.getD j 0) ds.length (fun j => ds.getD j 0) ↔ cs = ds := by
  constructor
  · rintro ⟨e, q⟩
    refine List.ext_getElem e fun j h1 h2 => ?_
    have := q j h1
    simpa [List.getD_eq_getElem?_getD, h1, h2] using this
  · rintro rfl
    exact ⟨rfl, fun _ _ => rfl⟩
/-- **equals(Object) OF TWO SUCH STRINGS**: 1 just where the chars are the same -/
theorem eqW {p : Program} {l : Launch} {e : Env} {R : Room} {s : State} {args : Array Value} {below : List Frame} {len W : Nat} {Z : State} {a0 : Array Value} {h : Heap} (hZ : Z.Warmed39 s.vm) (hw : ∀ d ∈ wordsEq, d.before a0 Z = true) {kI : Nat} (wi : (Jvm.Cond.instantiable ST kI).before a0 Z = true)
    {x t : Addr} {kb : ClassId} {cs : List Int32} {cd N2 : Int32} {vs : List Value} (E : RoadKit.Exa Z h x ST) (V : RoadKit.Fld Z h x ST "value" "[B" (.ref t)) (C : RoadKit.Fld Z h x ST "coder" "B" (.int cd)) (K : RoadKit.Arv Z h t kb .byte N2 vs (.int 0)) (hc : CodA cs cd N2 vs) (hb : ∀ c ∈ cs, ¬ c < 0 ∧ ¬ (65535 : Int32) < c) (l2 : cs.length ≤ 4000)
    {y t' : Addr} {kb' : ClassId} {ds : List Int32} {cd' N2' : Int32} {vs' : List Value} (E' : RoadKit.Exa Z h y ST) (V' : RoadKit.Fld Z h y ST "value" "[B" (.ref t')) (C' : RoadKit.Fld Z h y ST "coder" "B" (.int cd')) (K' : RoadKit.Arv Z h t' kb' .byte N2' vs' (.int 0)) (hc' : CodA ds cd' N2' vs') (hb' : ∀ c ∈ ds, ¬ c < 0 ∧ ¬ (65535 : Int32) < c) (l2' : ds.length ≤ 4000)
    {z : Int32} (S : RoadKit.Sta Z h ST "COMPACT_STRINGS" "Z" (.int z)) (hz : ¬ z = 0) (hfr : 2 ≤ R.frames) (hlo : W + 28 ≤ R.locals) :
    Back l R p e below s args (⟨"java/lang/String", "equals", "(Ljava/lang/Object;)Z"⟩ : MethodName) len W (fun P a => a = #[.ref x, .ref y] ∧ P.U.heap = h ∧ P.cells + 0 ≤ R.cells ∧ P.slots + 0 ≤ R.slots)
      (fun P _ v B => ∃ L, (((v = some (.int 1) ∧ cs = ds) ∨ (v = some (.int 0) ∧ ¬ cs = ds)) ∧ L = [] ∧ B.U.heap = h) ∧ B.locs = P.locs ++ L ∧ B.cells = P.cells + 0 ∧ B.slots = P.slots + 0) := by
  intro m meth c P g ig mk a X hg hsize hdg hW hn hp'
  obtain ⟨rfl, rfl, r1, r2⟩ := hp'
  have al : Z.vm.Alike P.U.vm := hZ.alike.trans X.warmed.alike
  obtain ⟨A, hx⟩ := txt_of wi al E V C K hc hb l2
  obtain ⟨A', hy⟩ := txt_of wi al E' V' C' K' hc' hb' l2'
  obtain ⟨v, B, X', ⟨⟨w, hv, hh, hq⟩, hl, hk, hs⟩, st⟩ := SEq.pays x t A cd cs.length (fun j => cs.getD j 0) y t' A' cd' ds.length (fun j => ds.getD j 0) z (tabEq_of (movedEq hZ hw)) hfr hlo m meth c P g ig mk _ X hg hsize hdg hW hn ⟨r1, r2, rfl, hx, hy, sta_is al S, hz⟩
  refine ⟨v, B, X', ⟨[], ⟨?_, rfl, hh⟩, hl, hk, hs⟩, st⟩
  rcases hq with ⟨rfl, q⟩ | ⟨rfl, q⟩
  · exact Or.inl ⟨hv, (same_list cs ds).mp q⟩
  · exact Or.inr ⟨hv, fun e => q ((same_list cs ds).mpr e)⟩
end StrChars.Road
namespace StrChars.Road
open Jvm Sem ClassFile Op Lib Jvm.Stand Jvm.Free Jvm.Free.XT
open Jvm.Lib.Cold (StaticIs)
/-- what backV says of its String, as the contracts of this text ask it: cs's low bytes, coder 0 -/
theorem codOf {cs : List Int32} {n : Nat} (hn : cs.length = n) (hb : ∀ c ∈ cs, ¬ 255 < c) : CodA cs 0 (Int32.ofNat n) ((cs.map lo8).map Value.int) := Or.inl ⟨rfl, by rw [hn], by simp [List.map_map, Function.comp_def], hb⟩
end StrChars.Road
end Jvm.Pilot.@@N@@

namespace Jvm.Pilot.@@N@@
open Jvm Jvm.ClassFile Sem Op Lib Jvm.Free Jvm.Stand Jvm.LawKit Jvm.RoadKit Bundle Jvm.Pilot.@@N@@.Jvm.D
def own_Go (tb : Tables) (e : Env) (below : List Frame) (G : State → Outcome → Prop) (s : State) : Prop := ∃ s₂ o, Steps tb e below s s₂ ∧ s₂.status = .running ∧ Ended s₂ below o ∧ G s₂ o
theorem own_up {tb : Tables} {e : Env} {below : List Frame} {G : State → Outcome → Prop} {s s' : State} (f : ∀ t, Steps tb e below s' t → Steps tb e below s t) (h : own_Go tb e below G s') : own_Go tb e below G s := by
  obtain ⟨s₂, o, h1, h2⟩ := h
  exact ⟨s₂, o, f _ h1, h2⟩
theorem own_selp {s : State} {args : Array Value} {y : MethodName} {n : Nat} (hi : (Cond.instantiable y.cls n).before args s = true) (hp : s.PrivateAt y) (hinst : (Cond.instanceMethod y).before args s = true) (hy : y.cls ≠ "java/lang/invoke/MethodHandle" ∧ y.cls ≠ "java/lang/invoke/VarHandle") : (Cond.selects y.cls y y).before args s = true := by
  obtain ⟨c, k, h1, h2, -, h4, -, -⟩ := Cond.instantiable_spec hi
  rw [Bool.or_eq_false_iff] at h4
  exact selects_self_of_private h1 h2 h4.1 hp hinst hy
theorem own_end {p : Program} {l : Launch} {e : Env} {R : Room} {s : State} {m : MethodId} {args : Array Value} {below : List Frame} {meth : Method} {c : Code} {T : State} {locs : List Loc} {cells slots : Nat} (X : Stand p l e R s m args below meth c T locs cells slots) (hlocks : meth.locks = false) {v : Option Value} (hv : meth.sig.returnType = none → v = none) {g : JFrame}
    (step : ∀ fs, (∀ (f : JFrame) (acts : List Action), f.method = m → f.locked = none → f.entered = [] → (doReturn e (T.setTop f) acts v).1 = T.setFrames fs) → Steps p.tables e below (T.setTop g) (T.setFrames fs)) {h : Heap} (eT : T.heap = h) {Q : Option Value → Heap → List Loc → Prop} {kc ks : Nat} (hQ : Q v h locs) (hc : cells ≤ kc) (hs : slots ≤ ks) :
    own_Go p.tables e below (fun u o => ∃ v L, o = .returned v ∧ Q v u.heap L ∧ FrameEnd s o u L kc ks) (T.setTop g) := by
  obtain ⟨fs, hr, hrun, hended, hW, hsame⟩ := X.leave (v := v) hv hlocks
  subst eT
  exact ⟨_, _, step fs hr, hrun, hended, _, _, rfl, hQ, ⟨_, rfl⟩, hW, hsame.mono hc hs⟩
theorem own_safe {Z : State} {vm : Vm} {h : Heap} {EL : List (String × Nat)} {x : Addr} (hal : Z.vm.Alike vm) (E : Exa Z h x "java/lang/String") (F : Fld Z h x "java/lang/String" "value" "[B" .null) : Safe Z EL vm h x := by
  intro B
  obtain ⟨p, hp, u, a, hb, q, hq, S, hy⟩ := B
  obtain ⟨cS, ⟨⟨s1, s2, s3, ⟨cv, kv, iv, s4, s4'⟩, ⟨cc, kc, ic, s5, s5'⟩, s6, s7, s8, s9, s10, s11, s12, s13, s14, s15, s16⟩, hfS, hcS⟩, ⟨kS, k1, k2, k3⟩, hB, hbyt⟩ := S
  have hfS : vm.findClass "java/lang/String" = some cS := hfS
  have k1 : vm.classes[cS]? = some kS := k1
  have s1 : h[q.sa]? = some q.sC := s1
  have s10 : h[q.sd]? = some q.SA := s10
  rcases hy with hy | hy
  · obtain ⟨kv', z4⟩ := ff_back (U := Wst Z vm h) hal s4
    exact Fld.ne F (⟨q.sC, cv, kv', iv, q.fSV, s1, z4, s6, s2, s3, by rw [← hal.assignable]; exact s4', s8⟩ : Fld Z h q.sa "java/lang/String" "value" "[B" (.ref q.sd)) (by intro z; cases z) hy
  · obtain ⟨hst, k9, hk9, comp, hkind9⟩ := s11
    have hk9 : vm.classes[q.SA.cls]? = some k9 := hk9
    obtain ⟨cell, k, e1, e2, -⟩ := E
    rw [hy, s10] at e1
    rw [← hal.findClass, hfS] at e2
    have e3 : q.SA = cell := Option.some.inj e1
    have e4 : cS = cell.cls := Option.some.inj e2
    rw [e3, ← e4, k1] at hk9
    rw [← Option.some.inj hk9, k2] at hkind9
    cases hkind9
theorem own_chars (x : Int32) : ¬ nar .char ((x &&& (255 : Int32)).toUInt32.toUInt16.toUInt32.toInt32) < 0 ∧ ¬ (255 : Int32) < nar .char ((x &&& (255 : Int32)).toUInt32.toUInt16.toUInt32.toInt32) := by
  show ¬ ((x &&& (255 : Int32)).toUInt32.toUInt16.toUInt32.toInt32).toUInt32.toUInt16.toUInt32.toInt32 < 0 ∧ ¬ (255 : Int32) < ((x &&& (255 : Int32)).toUInt32.toUInt16.toUInt32.toInt32).toUInt32.toUInt16.toUInt32.toInt32
  rw [i2c_mask, i2c_mask, Int32.lt_iff_toInt_lt, Int32.lt_iff_toInt_lt, show (0 : Int32).toInt = 0 from by decide, show (255 : Int32).toInt = 255 from by decide]
  have h := c_mask x 255 8 (by decide) (by decide)
  omega
def own_c0 (px : Int32) : Int32 := (nar .char ((((px.toUInt32 >>> ((2 : Int32) &&& 31).toUInt32).toInt32) &&& (255 : Int32)).toUInt32.toUInt16.toUInt32.toInt32))
def own_c1 (px : Int32) : Int32 := (nar .char ((((px.toUInt32 >>> ((10 : Int32) &&& 31).toUInt32).toInt32) &&& (255 : Int32)).toUInt32.toUInt16.toUInt32.toInt32))
def own_cs (px : Int32) : List Int32 := if ((px &&& (3 : Int32)) % (3 : Int32)) = (0 : Int32) then [] else if ((px &&& (3 : Int32)) % (3 : Int32)) = (1 : Int32) then [(nar .char ((((px.toUInt32 >>> ((2 : Int32) &&& 31).toUInt32).toInt32) &&& (255 : Int32)).toUInt32.toUInt16.toUInt32.toInt32))] else [(nar .char ((((px.toUInt32 >>> ((2 : Int32) &&& 31).toUInt32).toInt32) &&& (255 : Int32)).toUInt32.toUInt16.toUInt32.toInt32)), (nar .char ((((px.toUInt32 >>> ((10 : Int32) &&& 31).toUInt32).toInt32) &&& (255 : Int32)).toUInt32.toUInt16.toUInt32.toInt32))]
def own_key (px : Int32) : Int32 := if ((px &&& (3 : Int32)) % (3 : Int32)) < (1 : Int32) then (if ((px &&& (3 : Int32)) % (3 : Int32)) < (2 : Int32) then ((px &&& (3 : Int32)) % (3 : Int32)) else (((px &&& (3 : Int32)) % (3 : Int32)) ||| ((((px.toUInt32 >>> ((10 : Int32) &&& 31).toUInt32).toInt32) &&& (255 : Int32)) <<< ((10 : Int32) &&& 31)))) else (if ((px &&& (3 : Int32)) % (3 : Int32)) < (2 : Int32) then (((px &&& (3 : Int32)) % (3 : Int32)) ||| ((((px.toUInt32 >>> ((2 : Int32) &&& 31).toUInt32).toInt32) &&& (255 : Int32)) <<< ((2 : Int32) &&& 31))) else ((((px &&& (3 : Int32)) % (3 : Int32)) ||| ((((px.toUInt32 >>> ((2 : Int32) &&& 31).toUInt32).toInt32) &&& (255 : Int32)) <<< ((2 : Int32) &&& 31))) ||| ((((px.toUInt32 >>> ((10 : Int32) &&& 31).toUInt32).toInt32) &&& (255 : Int32)) <<< ((10 : Int32) &&& 31))))
theorem own_up2 {cs : List Int32} (h : ∀ c ∈ cs, ¬ c < 0 ∧ ¬ (255 : Int32) < c) : ∀ c ∈ cs, ¬ c < 0 ∧ ¬ (65535 : Int32) < c := fun c hc => ⟨(h c hc).1, fun q => (h c hc).2 (by
  rw [Int32.lt_iff_toInt_lt, show (65535 : Int32).toInt = 65535 from by decide] at q
  rw [Int32.lt_iff_toInt_lt, show (255 : Int32).toInt = 255 from by decide]
  omega)⟩
theorem own_case {v : Option Value} {P : Prop} [Decidable P] (h : (v = some (.int 1) ∧ P) ∨ (v = some (.int 0) ∧ ¬ P)) : v = some (.int (if P then (1 : Int32) else 0)) := by
  rcases h with ⟨h1, h2⟩ | ⟨h1, h2⟩
  · rw [if_pos h2]; exact h1
  · rw [if_neg h2]; exact h1
theorem own_flip {a b c d : List Int32} : (if a = b ∧ c = d then (1 : Int32) else 0) = if b = a ∧ d = c then (1 : Int32) else 0 := by
  by_cases h : a = b ∧ c = d
  · rw [if_pos h, if_pos ⟨h.1.symm, h.2.symm⟩]
  · rw [if_neg h, if_neg (fun q => h ⟨q.1.symm, q.2.symm⟩)]
theorem own_other2 {Z : State} {a0 : Array Value} {C O K : String} {n : Nat} (w1 : (Cond.superclass C O).before a0 Z = true) (w3 : (Cond.noSuperclass O).before a0 Z = true) (wi : (Cond.instantiable K n).before a0 Z = true) (h1 : C ≠ K) (h3 : O ≠ K) :
    ∃ c t, Z.vm.findClass C = some c ∧ Z.vm.findClass K = some t ∧ Z.vm.assignable c t = false := by
  obtain ⟨t, kt, t1, t2, t3, t4, -, -⟩ := Cond.instantiable_spec wi
  have root : NS Z O K := by
    obtain ⟨o, ko, o1, o2, o3, -, -⟩ := Cond.noSuperclass_spec w3
    have hne := ids_ne o1 t1 h3
    exact ⟨o, t, o1, t1, fun f => by cases f <;> simp [Vm.isSubclassAux, hne, o2, o3]⟩
  obtain ⟨c, t', c1, c2, hns⟩ := root.step w1 h1
  cases t1.symm.trans c2
  obtain ⟨-, kc, -, -, c4, -, -, c5, -, -⟩ := Cond.superclass_spec c1 w1
  have hne := ids_ne c1 t1 h1
  rw [Bool.or_eq_false_iff] at t4
  refine ⟨c, t, c1, t1, ?_⟩
  show Z.vm.assignableAux (255 + 1) c t = false
  simp [Vm.assignableAux, hne, c4, t2, c5, t3, t4.1, Vm.isSubclass, hns]
theorem own_csl (x : Int32) : (own_cs x).length ≤ 4000 := by
  unfold own_cs; split
  · decide
  · split
    · show 1 ≤ 4000; decide
    · show 2 ≤ 4000; decide
theorem own_csb (x : Int32) : ∀ c ∈ own_cs x, ¬ c < 0 ∧ ¬ (255 : Int32) < c := by
  unfold own_cs; split
  · intro c hc; cases hc
  · split
    · intro c hc; cases List.mem_singleton.mp hc; exact own_chars _
    · intro c hc
      simp only [List.mem_cons, List.not_mem_nil, or_false] at hc
      rcases hc with rfl | rfl
      · exact own_chars _
      · exact own_chars _
def own_L (n a b : Int32) : List Int32 := if n = (0 : Int32) then [] else if n = (1 : Int32) then [a] else [a, b]
def own_K (n a b : Int32) : Int32 := if n < (1 : Int32) then (if n < (2 : Int32) then n else (n ||| (b <<< ((10 : Int32) &&& 31)))) else (if n < (2 : Int32) then (n ||| (a <<< ((2 : Int32) &&& 31))) else ((n ||| (a <<< ((2 : Int32) &&& 31))) ||| (b <<< ((10 : Int32) &&& 31))))
def own_B (a : Int32) : Prop := 0 ≤ a.toInt ∧ a.toInt < 256
theorem own_m255 (x : Int32) : own_B (x &&& (255 : Int32)) := by
  have h := c_mask x 255 8 (by decide) (by decide)
  unfold own_B
  omega
theorem own_n3 (x : Int32) : 0 ≤ ((x &&& (3 : Int32)) % (3 : Int32)).toInt ∧ ((x &&& (3 : Int32)) % (3 : Int32)).toInt ≤ 2 := by
  have h := c_mask x 3 2 (by decide) (by decide)
  have h2 := (c_irem (x &&& (3 : Int32)) 3 3 (by decide)).1 (by omega)
  omega
theorem own_csL (x : Int32) : own_cs x = own_L ((x &&& (3 : Int32)) % (3 : Int32)) (((x.toUInt32 >>> ((2 : Int32) &&& 31).toUInt32).toInt32) &&& (255 : Int32)) (((x.toUInt32 >>> ((10 : Int32) &&& 31).toUInt32).toInt32) &&& (255 : Int32)) := by
  have h : ∀ z : Int32, nar .char ((z &&& (255 : Int32)).toUInt32.toUInt16.toUInt32.toInt32) = z &&& (255 : Int32) := fun z => by
    show ((z &&& (255 : Int32)).toUInt32.toUInt16.toUInt32.toInt32).toUInt32.toUInt16.toUInt32.toInt32 = _
    rw [i2c_mask, i2c_mask]
  unfold own_cs own_L
  rw [h, h]
theorem own_Kv (n a b : Int32) (hn : 0 ≤ n.toInt ∧ n.toInt ≤ 2) (ha : own_B a) (hb : own_B b) :
    (n.toInt = 0 ∧ (own_K n a b).toInt = 0) ∨ (n.toInt = 1 ∧ (own_K n a b).toInt = 1 + 4 * a.toInt) ∨ (n.toInt = 2 ∧ (own_K n a b).toInt = 2 + 4 * a.toInt + 1024 * b.toInt) := by
  unfold own_B at ha hb
  have s2 := c_ishl a 2 2 (by decide)
  have s10 := c_ishl b 10 10 (by decide)
  have r2 := rng32 (a <<< ((2 : Int32) &&& 31))
  have r10 := rng32 (b <<< ((10 : Int32) &&& 31))
  have o2 := c_or' n (a <<< ((2 : Int32) &&& 31)) 2 (by decide) 4 (by decide) (by omega) (by omega) (by omega)
  have q2 := rng32 (n ||| (a <<< ((2 : Int32) &&& 31)))
  have o10 := c_or' (n ||| (a <<< ((2 : Int32) &&& 31))) (b <<< ((10 : Int32) &&& 31)) 10 (by decide) 1024 (by decide) (by omega) (by omega) (by omega)
  have q10 := rng32 ((n ||| (a <<< ((2 : Int32) &&& 31))) ||| (b <<< ((10 : Int32) &&& 31)))
  unfold own_K
  have l1 : n < (1 : Int32) ↔ n.toInt < 1 := by rw [Int32.lt_iff_toInt_lt, show (1 : Int32).toInt = 1 from by decide]
  have l2 : n < (2 : Int32) ↔ n.toInt < 2 := by rw [Int32.lt_iff_toInt_lt, show (2 : Int32).toInt = 2 from by decide]
  by_cases h0 : n.toInt = 0
  · left
    rw [if_pos (l1.mpr (by omega)), if_pos (l2.mpr (by omega))]
    exact ⟨h0, h0⟩
  · right
    rw [if_neg (fun q => absurd (l1.mp q) (by omega))]
    by_cases h1 : n.toInt = 1
    · left
      rw [if_pos (l2.mpr (by omega))]
      refine ⟨h1, ?_⟩
      omega
    · right
      rw [if_neg (fun q => absurd (l2.mp q) (by omega))]
      refine ⟨by omega, ?_⟩
      omega
theorem own_KL (n a b n' a' b' : Int32) (hn : 0 ≤ n.toInt ∧ n.toInt ≤ 2) (ha : own_B a) (hb : own_B b) (hn' : 0 ≤ n'.toInt ∧ n'.toInt ≤ 2) (ha' : own_B a') (hb' : own_B b') : own_K n a b = own_K n' a' b' ↔ own_L n a b = own_L n' a' b' := by
  have k := own_Kv n a b hn ha hb
  have k' := own_Kv n' a' b' hn' ha' hb'
  have z0 : ∀ {y : Int32}, y.toInt = 0 → y = 0 := fun h => Int32.toInt_inj.mp (h.trans (by decide))
  have z1 : ∀ {y : Int32}, y.toInt = 1 → y = 1 := fun h => Int32.toInt_inj.mp (h.trans (by decide))
  have z2 : ∀ {y : Int32}, y.toInt = 2 → y = 2 := fun h => Int32.toInt_inj.mp (h.trans (by decide))
  rw [← Int32.toInt_inj]
  unfold own_B at ha hb ha' hb'
  have L0 : own_L 0 a b = [] := rfl
  have L1 : own_L 1 a b = [a] := rfl
  have L2 : own_L 2 a b = [a, b] := rfl
  have L0' : own_L 0 a' b' = [] := rfl
  have L1' : own_L 1 a' b' = [a'] := rfl
  have L2' : own_L 2 a' b' = [a', b'] := rfl
  rcases k with ⟨e, k⟩ | ⟨e, k⟩ | ⟨e, k⟩ <;> rcases k' with ⟨e', k'⟩ | ⟨e', k'⟩ | ⟨e', k'⟩
  · rw [k, k', z0 e, z0 e', L0, L0']; simp
  · rw [k, k', z0 e, z1 e', L0, L1']; refine ⟨fun q => by omega, fun q => by cases q⟩
  · rw [k, k', z0 e, z2 e', L0, L2']; refine ⟨fun q => by omega, fun q => by cases q⟩
  · rw [k, k', z1 e, z0 e', L1, L0']; refine ⟨fun q => by omega, fun q => by cases q⟩
  · rw [k, k', z1 e, z1 e', L1, L1']
    refine ⟨fun q => ?_, fun q => ?_⟩
    · rw [Int32.toInt_inj.mp (show a.toInt = a'.toInt by omega)]
    · rw [(List.cons.inj q).1]
  · rw [k, k', z1 e, z2 e', L1, L2']; refine ⟨fun q => by omega, fun q => by cases (List.cons.inj q).2⟩
  · rw [k, k', z2 e, z0 e', L2, L0']; refine ⟨fun q => by omega, fun q => by cases q⟩
  · rw [k, k', z2 e, z1 e', L2, L1']; refine ⟨fun q => by omega, fun q => by cases (List.cons.inj q).2⟩
  · rw [k, k', z2 e, z2 e', L2, L2']
    refine ⟨fun q => ?_, fun q => ?_⟩
    · rw [Int32.toInt_inj.mp (show a.toInt = a'.toInt by omega), Int32.toInt_inj.mp (show b.toInt = b'.toInt by omega)]
    · rw [(List.cons.inj q).1, (List.cons.inj (List.cons.inj q).2).1]
theorem own_keys (x y : Int32) : own_key x = own_key y ↔ own_cs x = own_cs y := by
  rw [own_csL, own_csL]
  exact own_KL _ _ _ _ _ _ (own_n3 x) (own_m255 _) (own_m255 _) (own_n3 y) (own_m255 _) (own_m255 _)
def own_EL : List (String × Nat) := [("java/lang/String", 7)]
theorem own_EW {Z : State} {a0 : Array Value} (hw : ∀ d ∈ tables_1, d.before a0 Z = true) : EW Z a0 own_EL := EW.cons (hw _ (List.mem_of_getElem? (i := 24) rfl)) (by decide) EW.nil
theorem own_wS {Z : State} {a0 : Array Value} (hw : ∀ d ∈ tables_1, d.before a0 Z = true) : ∀ d ∈ Bundle.stringAtoms, d.before a0 Z = true := fun d hd => hw d ((by decide +kernel : ∀ d ∈ Bundle.stringAtoms, d ∈ tables_1) d hd)
theorem own_endW {p : Program} {l : Launch} {e : Env} {R : Room} {s : State} {m : MethodId} {args : Array Value} {below : List Frame} {meth : Method} {c : Code} {T : State} {locs : List Loc} {cells slots : Nat} {vm : Vm} {k : Nat} {Z : State} {a0 : Array Value} {EL : List (String × Nat)} {h0 h : Heap} (X : Stand p l e R (s.setVm vm) m args below meth c T locs cells slots) (hlocks : meth.locks = false) (hZ : Z.Warmed39 vm) (hEL : EW Z a0 EL) (hS : s.Since vm k) (hk : k ≤ h.size) {v : Option Value} (hv : meth.sig.returnType = none → v = none) {g : JFrame}
    (step : ∀ fs, (∀ (f : JFrame) (acts : List Action), f.method = m → f.locked = none → f.entered = [] → (doReturn e (T.setTop f) acts v).1 = T.setFrames fs) → Steps p.tables e below (T.setTop g) (T.setFrames fs)) (eT : T.heap = h) (hh : s.heap = h0) (CR : CHr Z EL s.vm h0 vm h) {Q : Option Value → Heap → List Loc → Prop} {kc ks : Nat} (hQ : Q v h locs) (hc : cells ≤ kc) (hs : slots ≤ ks) :
    own_Go p.tables e below (fun u o => ∃ v L, o = .returned v ∧ Q v u.heap L ∧ CHr Z EL s.vm s.heap u.vm u.heap ∧ ReturnedEndW s o u L kc ks) (T.setTop g) := by
  subst eT hh
  obtain ⟨fs, hr, hrun, hended, hW⟩ := X.leaveW hS hk (v := v) hv hlocks
  have CA := CHv.at X hZ hEL CR.1
  exact ⟨_, _, step fs hr, hrun, hended, _, _, rfl, hQ, CHr.trans CR CA, hW.1, hW.2.1, hW.2.2.1, hW.2.2.2.mono hc hs⟩
theorem d_jdk_42_m_149_0 : decode jdk_42_method_149_code 0 = .ok (.aload_n 0, 1) := by decide +kernel
theorem d_jdk_42_m_149_1 : decode jdk_42_method_149_code 1 = .ok (.invokespecial 1, 3) := by decide +kernel
theorem d_jdk_42_m_149_4 : decode jdk_42_method_149_code 4 = .ok (.iload_n 3, 1) := by decide +kernel
theorem d_jdk_42_m_149_5 : decode jdk_42_method_149_code 5 = .ok (.ifCond .ne 22, 3) := by decide +kernel
theorem d_jdk_42_m_149_8 : decode jdk_42_method_149_code 8 = .ok (.aload_n 0, 1) := by decide +kernel
theorem d_jdk_42_m_149_9 : decode jdk_42_method_149_code 9 = .ok (.ldc 7, 2) := by decide +kernel
theorem d_jdk_42_m_149_11 : decode jdk_42_method_149_code 11 = .ok (.getfield 9, 3) := by decide +kernel
theorem d_jdk_42_m_149_14 : decode jdk_42_method_149_code 14 = .ok (.putfield 9, 3) := by decide +kernel
theorem d_jdk_42_m_149_17 : decode jdk_42_method_149_code 17 = .ok (.aload_n 0, 1) := by decide +kernel
theorem d_jdk_42_m_149_18 : decode jdk_42_method_149_code 18 = .ok (.ldc 7, 2) := by decide +kernel
theorem d_jdk_42_m_149_20 : decode jdk_42_method_149_code 20 = .ok (.getfield 15, 3) := by decide +kernel
theorem d_jdk_42_m_149_23 : decode jdk_42_method_149_code 23 = .ok (.putfield 15, 3) := by decide +kernel
theorem d_jdk_42_m_149_26 : decode jdk_42_method_149_code 26 = .ok (.return_, 1) := by decide +kernel
theorem own_pn0 : plainName "java/lang/String" = true := by first | (simp [plainName, overriddenIn]; done) | decide +kernel
theorem ef_rmS4 (m : MethodId) (y0 : Addr) (y1 : Addr) (y2 : Int32) (y3 : Int32) : entryFrame m #[(.ref y0), (.ref y1), (.int y2), (.int y3), .null] 6 = mkF m 0 #[.val (.ref y0), .val (.ref y1), .val (.int y2), .val (.int y3), .val .null, .unset] [] := by first | (simp [entryFrame, mkF, argsToLocals, Value.category]; done) | rfl
def Q_rmS4 (Z : State) (a : Addr) (ab : Addr) (h0 : Heap) (n0 : Nat) (v : Option Value) (h : Heap) (L : List Loc) : Prop := ∃ (tt : Addr) (kt : ClassId), v = none ∧ Fr n0 L ∧ Keep h0 h [a] ∧ Exa Z h a "java/lang/String" ∧ Fld Z h a "java/lang/String" "value" "[B" (.ref tt) ∧ Fld Z h a "java/lang/String" "coder" "B" (.int (0 : Int32)) ∧ a ≠ tt ∧ Arv Z h tt kt .byte (0 : Int32) [] (.int (0 : Int32))
set_option maxRecDepth 65536 in
set_option maxHeartbeats 40000000 in
theorem rmS4 (l : Launch) (Z : State) (a0 : Array Value) (hw : ∀ d ∈ tables_1, d.before a0 Z = true) (ws : List Jvm.Cond) (a : Addr) (ab : Addr) (h0 : Heap) (n0 : Nat) (Z0 : n0 ≤ h0.size) (E : Exa Z h0 a "java/lang/String") (F1 : Fld Z h0 a "java/lang/String" "value" "[B" .null) (F2 : Fld Z h0 a "java/lang/String" "coder" "B" (.int (0 : Int32))) (G : n0 ≤ a) :
    MetFree l (⟨"java/lang/String", "<init>", "([CIILjava/lang/Void;)V"⟩ : MethodName) (head1 (Jvm.Cond.code (⟨"java/lang/String", "<init>", "([CIILjava/lang/Void;)V"⟩ : MethodName) jdk_42_method_149_code 6 none :: ws) ({ frames := 1, cells := 4, slots := 8, locals := 12 } : Room)) (fun ar U => ar = #[(.ref a), (.ref ab), (.int (0 : Int32)), (.int (0 : Int32)), .null] ∧ Z.Warmed39 U.vm ∧ U.heap = h0 ∧ CHv Z own_EL U.vm h0) (fun _ _ _ _ _ => True) (fun _ U o U' => ∃ v L, o = .returned v ∧ Q_rmS4 Z a ab h0 n0 v U'.heap L ∧ CHr Z own_EL U.vm U.heap U'.vm U'.heap ∧ ReturnedEndW U o U' L ({ frames := 1, cells := 4, slots := 8, locals := 12 } : Room).cells ({ frames := 1, cells := 4, slots := 8, locals := 12 } : Room).slots) := by
  refine MetFree.of_bodySF (plainFor_of_name own_pn0) hisR ?_
  intro p e s m args below meth c s₁ Bd hml0 hP hK
  obtain ⟨rfl, hZ, hh, hC0⟩ := hP
  have hx := Bd.exec
  have hby := Bd.bytes
  have hlk : meth.locks = false := BodyLoose.notSynchronized Bd
  have hml : c.maxLocals = 6 := hml0
  have hown : s.vm.findClass "java/lang/String" = some m.cls := findClass_of_methodNamed Bd.named
  have hnm := (name_of_methodNamed Bd.named Bd.method).1
  have X0 : Stand p l e ({ frames := 1, cells := 4, slots := 8, locals := 12 } : Room) (s.setVm s.vm) m #[(.ref a), (.ref ab), (.int (0 : Int32)), (.int (0 : Int32)), .null] below meth c s₁ [] 0 0 := Stand.of_body Bd
  have e0 : s₁.heap = h0 := by rw [← hh, Bd.state]; rfl
  have N0 := Fr.nil n0
  have hS0 : s.Since s.vm 0 := (State.WarmedH.refl s).since 0
  have hk0 : 0 ≤ h0.size := Nat.zero_le _
  have CR0 : CHr Z own_EL s.vm h0 s.vm h0 := CHr.refl hC0
  have wS := own_wS hw
  show own_Go p.tables e below (fun u o => ∃ v L, o = .returned v ∧ Q_rmS4 Z a ab h0 n0 v u.heap L ∧ CHr Z own_EL s.vm s.heap u.vm u.heap ∧ ReturnedEndW s o u L ({ frames := 1, cells := 4, slots := 8, locals := 12 } : Room).cells ({ frames := 1, cells := 4, slots := 8, locals := 12 } : Room).slots) (s₁.setTop (entryFrame m #[(.ref a), (.ref ab), (.int (0 : Int32)), (.int (0 : Int32)), .null] 6))
  refine own_up (fun _ k => castTop (ef_rmS4 m a ab (0 : Int32) (0 : Int32)) k) ?_
  show own_Go p.tables e below _ (s₁.setTop (mkF m 0 #[.val (.ref a), .val (.ref ab), .val (.int (0 : Int32)), .val (.int (0 : Int32)), .val .null, .unset] []))
  have sf0_a := own_safe (EL := own_EL) hZ.alike E F1
  refine own_up (fun _ k => XS.aloadN X0.here hx rfl (hb hby d_jdk_42_m_149_0) rfl rfl k) ?_
  show own_Go p.tables e below _ (s₁.setTop (mkF m 1 #[.val (.ref a), .val (.ref ab), .val (.int (0 : Int32)), .val (.int (0 : Int32)), .val .null, .unset] [(.ref a)]))
  obtain ⟨T1, X1, e1, st1⟩ := initO X0 hx hZ hown (hw _ (List.mem_of_getElem? (i := 21) rfl)) (hw _ (List.mem_of_getElem? (i := 22) rfl)) (hw _ (List.mem_of_getElem? (i := 23) rfl)) e0 (g := (mkF m 1 #[.val (.ref a), .val (.ref ab), .val (.int (0 : Int32)), .val (.int (0 : Int32)), .val .null, .unset] [(.ref a)])) rfl (by rw [hml]; rfl) rfl (hb hby d_jdk_42_m_149_1) (by decide) (W := 0) (by show 2 * 0 + _ ≤ _; exact Nat.le_of_eq rfl) (by decide)
  refine own_up st1 ?_
  show own_Go p.tables e below _ (T1.setTop (mkF m 4 #[.val (.ref a), .val (.ref ab), .val (.int (0 : Int32)), .val (.int (0 : Int32)), .val .null, .unset] []))
  refine own_up (fun _ k => XS.iloadN X1.here hx rfl (hb hby d_jdk_42_m_149_4) rfl k) ?_
  show own_Go p.tables e below _ (T1.setTop (mkF m 5 #[.val (.ref a), .val (.ref ab), .val (.int (0 : Int32)), .val (.int (0 : Int32)), .val .null, .unset] [(.int (0 : Int32))]))
  refine own_up (fun _ k => XS.ifNo X1.here hx rfl (hb hby d_jdk_42_m_149_5) rfl ((if0 _ _).trans (teq rfl).2) k) ?_
  show own_Go p.tables e below _ (T1.setTop (mkF m 8 #[.val (.ref a), .val (.ref ab), .val (.int (0 : Int32)), .val (.int (0 : Int32)), .val .null, .unset] []))
  refine own_up (fun _ k => XS.aloadN X1.here hx rfl (hb hby d_jdk_42_m_149_8) rfl rfl k) ?_
  show own_Go p.tables e below _ (T1.setTop (mkF m 9 #[.val (.ref a), .val (.ref ab), .val (.int (0 : Int32)), .val (.int (0 : Int32)), .val .null, .unset] [(.ref a)]))
  obtain ⟨l2, T2, h2, k2, t2, kt2, X2, e2, E2, hS2, hk2, hZ2, hown2, Ex2, Co2, Va2, Ar2, lt2, ltt2, A2, Li2, nb2, st2⟩ := ldcCH X1 hx hZ hown (hw _ (List.mem_of_getElem? (i := 24) rfl)) wS e1 hS0 hk0 (own_EW hw) (List.mem_of_getElem? (i := 0) rfl) CR0.1 (vs := []) (z := (0 : Int32)) ⟨by decide, rfl⟩ (by decide) rfl (g := (mkF m 9 #[.val (.ref a), .val (.ref ab), .val (.int (0 : Int32)), .val (.int (0 : Int32)), .val .null, .unset] [(.ref a)])) rfl (hb hby d_jdk_42_m_149_9) (n := 0) (by decide) (by decide) (by decide) (by decide)
  have sf2_a := CHr.safe A2 E.lt sf0_a
  have CR2 := CHr.trans CR0 A2
  refine own_up st2 ?_
  have nb2_a := nb2 a sf2_a
  show own_Go p.tables e below _ (T2.setTop (mkF m 11 #[.val (.ref a), .val (.ref ab), .val (.int (0 : Int32)), .val (.int (0 : Int32)), .val .null, .unset] [(.ref l2), (.ref a)]))
  obtain ⟨T3, X3, e3, st3⟩ := getF X2 hx hZ2 hown2 (host := "") (Or.inl (hw _ (List.mem_of_getElem? (i := 30) rfl))) Via.refl e2 Va2 (g := (mkF m 11 #[.val (.ref a), .val (.ref ab), .val (.int (0 : Int32)), .val (.int (0 : Int32)), .val .null, .unset] [(.ref l2), (.ref a)])) rfl rfl (hb hby d_jdk_42_m_149_11)
  refine own_up st3 ?_
  show own_Go p.tables e below _ (T3.setTop (mkF m 14 #[.val (.ref a), .val (.ref ab), .val (.int (0 : Int32)), .val (.int (0 : Int32)), .val .null, .unset] [(.ref t2), (.ref a)]))
  have f4 : Fld Z h2 a "java/lang/String" "value" "[B" .null := (F1.ext E2)
  have f5 : Exa Z h2 a "java/lang/String" := (E.ext E2)
  obtain ⟨T6, h6, X6, e6, W6, st6⟩ := putF X3 hx hZ2 hown2 (host := "") (Or.inl (hw _ (List.mem_of_getElem? (i := 30) rfl))) Via.refl e3 f4 f5 (Or.inr ⟨(hw _ (List.mem_of_getElem? (i := 26) rfl)), rfl, hnm⟩) (hw _ (List.mem_of_getElem? (i := 11) rfl)) (ty := (.array .byte)) (by decide) rfl rfl (g := (mkF m 14 #[.val (.ref a), .val (.ref ab), .val (.int (0 : Int32)), .val (.int (0 : Int32)), .val .null, .unset] [(.ref t2), (.ref a)])) rfl rfl (hb hby d_jdk_42_m_149_14)
  have Fw6 := f4.same W6
  have N6 := Fr.snoc X6 N0 G
  have sf7_a := (Safe.wr W6 sf2_a CR2.1 sf2_a)
  have CR7 := CHr.trans CR2 (CHr.wr W6 sf2_a CR2.1)
  have hk7 := (Nat.le_trans hk2 (Nat.le_of_eq (Wr.size W6).symm))
  refine own_up st6 ?_
  show own_Go p.tables e below _ (T6.setTop (mkF m 17 #[.val (.ref a), .val (.ref ab), .val (.int (0 : Int32)), .val (.int (0 : Int32)), .val .null, .unset] []))
  refine own_up (fun _ k => XS.aloadN X6.here hx rfl (hb hby d_jdk_42_m_149_17) rfl rfl k) ?_
  show own_Go p.tables e below _ (T6.setTop (mkF m 18 #[.val (.ref a), .val (.ref ab), .val (.int (0 : Int32)), .val (.int (0 : Int32)), .val .null, .unset] [(.ref a)]))
  have f9 : Exa Z h6 a "java/lang/String" := (f5.wr W6)
  obtain ⟨l8, T8, h8, k8, t8, kt8, X8, e8, E8, hS8, hk8, hZ8, hown8, Ex8, Co8, Va8, Ar8, lt8, ltt8, A8, Li8, nb8, st8⟩ := ldcCH X6 hx hZ2 hown2 (hw _ (List.mem_of_getElem? (i := 24) rfl)) wS e6 hS2 hk7 (own_EW hw) (List.mem_of_getElem? (i := 0) rfl) CR7.1 (vs := []) (z := (0 : Int32)) ⟨by decide, rfl⟩ (by decide) rfl (g := (mkF m 18 #[.val (.ref a), .val (.ref ab), .val (.int (0 : Int32)), .val (.int (0 : Int32)), .val .null, .unset] [(.ref a)])) rfl (hb hby d_jdk_42_m_149_18) (n := 0) (by decide) (by decide) (by decide) (by decide)
  have sf8_a := CHr.safe A8 f9.lt sf7_a
  have CR8 := CHr.trans CR7 A8
  refine own_up st8 ?_
  have nb8_a := nb8 a sf8_a
  show own_Go p.tables e below _ (T8.setTop (mkF m 20 #[.val (.ref a), .val (.ref ab), .val (.int (0 : Int32)), .val (.int (0 : Int32)), .val .null, .unset] [(.ref l8), (.ref a)]))
  obtain ⟨T10, X10, e10, st10⟩ := getF X8 hx hZ8 hown8 (host := "") (Or.inl (hw _ (List.mem_of_getElem? (i := 31) rfl))) Via.refl e8 Co8 (g := (mkF m 20 #[.val (.ref a), .val (.ref ab), .val (.int (0 : Int32)), .val (.int (0 : Int32)), .val .null, .unset] [(.ref l8), (.ref a)])) rfl rfl (hb hby d_jdk_42_m_149_20)
  refine own_up st10 ?_
  show own_Go p.tables e below _ (T10.setTop (mkF m 23 #[.val (.ref a), .val (.ref ab), .val (.int (0 : Int32)), .val (.int (0 : Int32)), .val .null, .unset] [(.int (0 : Int32)), (.ref a)]))
  have f11 : Fld Z h8 a "java/lang/String" "coder" "B" (.int (0 : Int32)) := (((F2.ext E2).other W6 (Or.inr (slot_ne (Or.inr (hw _ (List.mem_of_getElem? (i := 27) rfl))) (Or.inr (hw _ (List.mem_of_getElem? (i := 26) rfl))) (by decide) (t := .byte) (t' := (.array .byte)) (by decide) (by decide)))).ext E8)
  have f12 : Exa Z h8 a "java/lang/String" := (f9.ext E8)
  obtain ⟨T13, h13, X13, e13, W13, st13⟩ := putFN X10 hx hZ8 hown8 (hw _ (List.mem_of_getElem? (i := 31) rfl)) Via.refl e10 f11 f12 (Or.inr ⟨(hw _ (List.mem_of_getElem? (i := 27) rfl)), rfl, hnm⟩) (hw _ (List.mem_of_getElem? (i := 11) rfl)) (ty := .byte) (v' := (.int (0 : Int32))) (by decide) rfl rfl (g := (mkF m 23 #[.val (.ref a), .val (.ref ab), .val (.int (0 : Int32)), .val (.int (0 : Int32)), .val .null, .unset] [(.int (0 : Int32)), (.ref a)])) rfl rfl (hb hby d_jdk_42_m_149_23)
  have Fw13 := f11.same W13
  have N13 := Fr.snoc X13 N6 G
  have sf14_a := (Safe.wr W13 sf8_a CR8.1 sf8_a)
  have CR14 := CHr.trans CR8 (CHr.wr W13 sf8_a CR8.1)
  have hk14 := (Nat.le_trans hk8 (Nat.le_of_eq (Wr.size W13).symm))
  refine own_up st13 ?_
  show own_Go p.tables e below _ (T13.setTop (mkF m 26 #[.val (.ref a), .val (.ref ab), .val (.int (0 : Int32)), .val (.int (0 : Int32)), .val .null, .unset] []))
  have f15 : Exa Z h13 a "java/lang/String" := (f12.wr W13)
  have f16 : Fld Z h13 a "java/lang/String" "value" "[B" (.ref t2) := ((Fw6.ext E8).other W13 (Or.inr (slot_ne (Or.inr (hw _ (List.mem_of_getElem? (i := 26) rfl))) (Or.inr (hw _ (List.mem_of_getElem? (i := 27) rfl))) (by decide) (t := (.array .byte)) (t' := .byte) (by decide) (by decide))))
  have f17 : Arv Z h13 t2 kt2 .byte (0 : Int32) [] (.int (0 : Int32)) := (((Ar2.other W6 (Ne.symm nb2_a.2)).ext E8).other W13 (Ne.symm nb2_a.2))
  exact own_endW X13 hlk hZ8 (own_EW hw) hS8 hk14 (v := none) (fun _ => rfl) (fun fs hr => X13.returnOut hx Bd.returns (hb hby d_jdk_42_m_149_26) hr) e13 hh CR14 ⟨t2, kt2, rfl, N13, (((((Keep.refl h0 [a]).ext E2).wr W6 (Or.inl (List.mem_of_getElem? (i := 0) rfl))).ext E8).wr W13 (Or.inl (List.mem_of_getElem? (i := 0) rfl))), f15, f16, Fw13, nb2_a.2, f17⟩ (by decide) (by decide)
theorem d_jdk_42_m_3_0 : decode jdk_42_method_3_code 0 = .ok (.aload_n 0, 1) := by decide +kernel
theorem d_jdk_42_m_3_1 : decode jdk_42_method_3_code 1 = .ok (.aload_n 1, 1) := by decide +kernel
theorem d_jdk_42_m_3_2 : decode jdk_42_method_3_code 2 = .ok (.iconst 0, 1) := by decide +kernel
theorem d_jdk_42_m_3_3 : decode jdk_42_method_3_code 3 = .ok (.aload_n 1, 1) := by decide +kernel
theorem d_jdk_42_m_3_4 : decode jdk_42_method_3_code 4 = .ok (.arraylength, 1) := by decide +kernel
theorem d_jdk_42_m_3_5 : decode jdk_42_method_3_code 5 = .ok (.aconst_null, 1) := by decide +kernel
theorem d_jdk_42_m_3_6 : decode jdk_42_method_3_code 6 = .ok (.invokespecial 27, 3) := by decide +kernel
theorem own_pd0 : parseMethodDescriptor "([CIILjava/lang/Void;)V" = some ⟨[(.array .char), .int, .int, (.object "java/lang/Void")], none⟩ := by decide +kernel
theorem d_jdk_42_m_3_9 : decode jdk_42_method_3_code 9 = .ok (.return_, 1) := by decide +kernel
theorem ef_rmS1 (m : MethodId) (y0 : Addr) (y1 : Addr) : entryFrame m #[(.ref y0), (.ref y1)] 2 = mkF m 0 #[.val (.ref y0), .val (.ref y1)] [] := by first | (simp [entryFrame, mkF, argsToLocals, Value.category]; done) | rfl
def Q_rmS1 (Z : State) (a : Addr) (ab : Addr) (kc : ClassId) (h0 : Heap) (n0 : Nat) (v : Option Value) (h : Heap) (L : List Loc) : Prop := ∃ (tt : Addr) (kt : ClassId), v = none ∧ Fr n0 L ∧ Keep h0 h [a] ∧ Exa Z h a "java/lang/String" ∧ Fld Z h a "java/lang/String" "value" "[B" (.ref tt) ∧ Fld Z h a "java/lang/String" "coder" "B" (.int (0 : Int32)) ∧ a ≠ tt ∧ Arv Z h tt kt .byte (0 : Int32) [] (.int (0 : Int32))
set_option maxRecDepth 65536 in
set_option maxHeartbeats 40000000 in
theorem rmS1 (l : Launch) (Z : State) (a0 : Array Value) (hw : ∀ d ∈ tables_1, d.before a0 Z = true) (ws : List Jvm.Cond) (a : Addr) (ab : Addr) (kc : ClassId) (h0 : Heap) (n0 : Nat) (Z0 : n0 ≤ h0.size) (E : Exa Z h0 a "java/lang/String") (F1 : Fld Z h0 a "java/lang/String" "value" "[B" .null) (F2 : Fld Z h0 a "java/lang/String" "coder" "B" (.int (0 : Int32))) (G : n0 ≤ a) (VC : Arv Z h0 ab kc .char (0 : Int32) [] (.int (0 : Int32))) :
    MetFree l (⟨"java/lang/String", "<init>", "([C)V"⟩ : MethodName) (head1 (Jvm.Cond.code (⟨"java/lang/String", "<init>", "([C)V"⟩ : MethodName) jdk_42_method_3_code 2 none :: ws) ({ frames := 2, cells := 4, slots := 8, locals := 29 } : Room)) (fun ar U => ar = #[(.ref a), (.ref ab)] ∧ Z.Warmed39 U.vm ∧ U.heap = h0 ∧ CHv Z own_EL U.vm h0) (fun _ _ _ _ _ => True) (fun _ U o U' => ∃ v L, o = .returned v ∧ Q_rmS1 Z a ab kc h0 n0 v U'.heap L ∧ CHr Z own_EL U.vm U.heap U'.vm U'.heap ∧ ReturnedEndW U o U' L ({ frames := 2, cells := 4, slots := 8, locals := 29 } : Room).cells ({ frames := 2, cells := 4, slots := 8, locals := 29 } : Room).slots) := by
  refine MetFree.of_bodySF (plainFor_of_name own_pn0) hisR ?_
  intro p e s m args below meth c s₁ Bd hml0 hP hK
  obtain ⟨rfl, hZ, hh, hC0⟩ := hP
  have hx := Bd.exec
  have hby := Bd.bytes
  have hlk : meth.locks = false := BodyLoose.notSynchronized Bd
  have hml : c.maxLocals = 2 := hml0
  have hown : s.vm.findClass "java/lang/String" = some m.cls := findClass_of_methodNamed Bd.named
  have hnm := (name_of_methodNamed Bd.named Bd.method).1
  have X0 : Stand p l e ({ frames := 2, cells := 4, slots := 8, locals := 29 } : Room) (s.setVm s.vm) m #[(.ref a), (.ref ab)] below meth c s₁ [] 0 0 := Stand.of_body Bd
  have e0 : s₁.heap = h0 := by rw [← hh, Bd.state]; rfl
  have N0 := Fr.nil n0
  have hS0 : s.Since s.vm 0 := (State.WarmedH.refl s).since 0
  have hk0 : 0 ≤ h0.size := Nat.zero_le _
  have CR0 : CHr Z own_EL s.vm h0 s.vm h0 := CHr.refl hC0
  have wS := own_wS hw
  show own_Go p.tables e below (fun u o => ∃ v L, o = .returned v ∧ Q_rmS1 Z a ab kc h0 n0 v u.heap L ∧ CHr Z own_EL s.vm s.heap u.vm u.heap ∧ ReturnedEndW s o u L ({ frames := 2, cells := 4, slots := 8, locals := 29 } : Room).cells ({ frames := 2, cells := 4, slots := 8, locals := 29 } : Room).slots) (s₁.setTop (entryFrame m #[(.ref a), (.ref ab)] 2))
  refine own_up (fun _ k => castTop (ef_rmS1 m a ab) k) ?_
  show own_Go p.tables e below _ (s₁.setTop (mkF m 0 #[.val (.ref a), .val (.ref ab)] []))
  refine own_up (fun _ k => XS.aloadN X0.here hx rfl (hb hby d_jdk_42_m_3_0) rfl rfl k) ?_
  show own_Go p.tables e below _ (s₁.setTop (mkF m 1 #[.val (.ref a), .val (.ref ab)] [(.ref a)]))
  refine own_up (fun _ k => XS.aloadN X0.here hx rfl (hb hby d_jdk_42_m_3_1) rfl rfl k) ?_
  show own_Go p.tables e below _ (s₁.setTop (mkF m 2 #[.val (.ref a), .val (.ref ab)] [(.ref ab), (.ref a)]))
  refine own_up (fun _ k => XS.iconst X0.here hx rfl (hb hby d_jdk_42_m_3_2) k) ?_
  show own_Go p.tables e below _ (s₁.setTop (mkF m 3 #[.val (.ref a), .val (.ref ab)] [(.int (0 : Int32)), (.ref ab), (.ref a)]))
  refine own_up (fun _ k => XS.aloadN X0.here hx rfl (hb hby d_jdk_42_m_3_3) rfl rfl k) ?_
  show own_Go p.tables e below _ (s₁.setTop (mkF m 4 #[.val (.ref a), .val (.ref ab)] [(.ref ab), (.int (0 : Int32)), (.ref ab), (.ref a)]))
  obtain ⟨cl1_, Ar1, q1, S1, M1, Hs1, G1⟩ := id (VC)
  refine own_up (fun _ k => X0.arraylength hx (by rw [e0]; exact Ar1.1) (State.isArrayOf_alike hZ.alike Ar1.2.1) (g := (mkF m 4 #[.val (.ref a), .val (.ref ab)] [(.ref ab), (.int (0 : Int32)), (.ref ab), (.ref a)])) rfl rfl (hb hby d_jdk_42_m_3_4) _ k) ?_
  rw [len_of S1 M1]
  show own_Go p.tables e below _ (s₁.setTop (mkF m 5 #[.val (.ref a), .val (.ref ab)] [(.int (0 : Int32)), (.int (0 : Int32)), (.ref ab), (.ref a)]))
  refine own_up (fun _ k => XS.aconstNull X0.here hx rfl (hb hby d_jdk_42_m_3_5) k) ?_
  show own_Go p.tables e below _ (s₁.setTop (mkF m 6 #[.val (.ref a), .val (.ref ab)] [.null, (.int (0 : Int32)), (.int (0 : Int32)), (.ref ab), (.ref a)]))
  obtain ⟨_, _, ⟨T2, L2, k2, n2⟩, -, X2', hS2', hg2', ⟨Lc2, hQ2, l2, y2, z2, A2⟩, st2⟩ := X0.specialBackS hx (y := (⟨"java/lang/String", "<init>", "([CIILjava/lang/Void;)V"⟩ : MethodName)) rfl hown (mvT hZ (hw _ (List.mem_of_getElem? (i := 17) rfl))) (mvT hZ (hw _ (List.mem_of_getElem? (i := 18) rfl))) (mvT hZ (hw _ (List.mem_of_getElem? (i := 20) rfl))) (by decide) (backOfSH (W := 0) (rmS4 l Z a0 hw [] a ab h0 n0 Z0 E F1 F2 G) hZ (hw _ (List.mem_of_getElem? (i := 20) rfl)) (hw _ (List.mem_of_getElem? (i := 12) rfl)) (by decide) (by decide) (own_EW hw) CR0.1) (g := (mkF m 6 #[.val (.ref a), .val (.ref ab)] [.null, (.int (0 : Int32)), (.int (0 : Int32)), (.ref ab), (.ref a)])) rfl (by rw [hml]; rfl) (Steps.refl _) (a := a) (argsL := [(.ref ab), (.int (0 : Int32)), (.int (0 : Int32)), .null]) (rest := []) (lenOf own_pd0 rfl) rfl (by show 2 * 0 + _ ≤ _; exact Nat.le_of_eq rfl) (hb hby d_jdk_42_m_3_6) (fun _ _ => ⟨rfl, e0, (by decide : 0 + 4 ≤ _), (by decide : 0 + 8 ≤ _)⟩)
  dsimp only [Pt.U, Pt.locs, Pt.cells, Pt.slots] at X2' hS2' hg2' l2 y2 z2 A2 st2 hQ2
  subst l2 y2 z2
  obtain ⟨X2, hS2, hZ2, hown2⟩ := rebS hS0 (by rw [e0]; exact hk0) X2' hS2' hg2' hZ hown
  obtain ⟨tt_2, kt_2, rfl, N2q, K2, P2_0, P2_1, P2_2, P2_3, P2_4⟩ := hQ2
  have N2 := Fr.app N0 N2q
  refine own_up (fun _ k => st2.trans k) ?_
  have CR2 := CHr.trans CR0 A2
  have hk2 : T2.heap.size ≤ T2.heap.size := Nat.le_refl _
  show own_Go p.tables e below _ (T2.setTop (mkF m 9 #[.val (.ref a), .val (.ref ab)] []))
  exact own_endW X2 hlk hZ2 (own_EW hw) hS2 hk2 (v := none) (fun _ => rfl) (fun fs hr => X2.returnOut hx Bd.returns (hb hby d_jdk_42_m_3_9) hr) rfl hh CR2 ⟨tt_2, kt_2, rfl, N2, ((Keep.refl h0 [a]).trans K2 (allS (Or.inl (List.mem_of_getElem? (i := 0) rfl)) all0)), P2_0, P2_1, P2_2, P2_3, P2_4⟩ (by decide) (by decide)
theorem d_m_2_0 : decode method_2_code 0 = .ok (.iload_n 0, 1) := by decide +kernel
theorem d_m_2_1 : decode method_2_code 1 = .ok (.iconst 3, 1) := by decide +kernel
theorem d_m_2_2 : decode method_2_code 2 = .ok (.iand, 1) := by decide +kernel
theorem d_m_2_3 : decode method_2_code 3 = .ok (.iconst 3, 1) := by decide +kernel
theorem d_m_2_4 : decode method_2_code 4 = .ok (.irem, 1) := by decide +kernel
theorem d_m_2_5 : decode method_2_code 5 = .ok (.ireturn, 1) := by decide +kernel
theorem own_pn1 : plainName "com/example/hintikka/hintikka/ontology/FeatureValueEqualsPinLaw" = true := by first | (simp [plainName, overriddenIn]; done) | decide +kernel
theorem ef_rmLen (m : MethodId) (y0 : Int32) : entryFrame m #[(.int y0)] 1 = mkF m 0 #[.val (.int y0)] [] := by first | (simp [entryFrame, mkF, argsToLocals, Value.category]; done) | rfl
def Q_rmLen (Z : State) (px : Int32) (h0 : Heap) (n0 : Nat) (v : Option Value) (h : Heap) (L : List Loc) : Prop := v = some (.int ((px &&& (3 : Int32)) % (3 : Int32))) ∧ Fr n0 L ∧ h = h0
set_option maxRecDepth 65536 in
set_option maxHeartbeats 40000000 in
theorem rmLen (l : Launch) (Z : State) (a0 : Array Value) (hw : ∀ d ∈ tables_1, d.before a0 Z = true) (ws : List Jvm.Cond) (px : Int32) (h0 : Heap) (n0 : Nat) (Z0 : n0 ≤ h0.size) :
    MetFree l (⟨"com/example/hintikka/hintikka/ontology/FeatureValueEqualsPinLaw", "len", "(I)I"⟩ : MethodName) (head1 (Jvm.Cond.code (⟨"com/example/hintikka/hintikka/ontology/FeatureValueEqualsPinLaw", "len", "(I)I"⟩ : MethodName) method_2_code 1 (some .int) :: ws) ({ frames := 0, cells := 0, slots := 0, locals := 0 } : Room)) (fun ar U => ar = #[(.int px)] ∧ Z.Warmed39 U.vm ∧ U.heap = h0) (fun _ _ _ _ _ => True) (fun _ U o U' => ∃ v L, o = .returned v ∧ Q_rmLen Z px h0 n0 v U'.heap L ∧ FrameEnd U o U' L ({ frames := 0, cells := 0, slots := 0, locals := 0 } : Room).cells ({ frames := 0, cells := 0, slots := 0, locals := 0 } : Room).slots) := by
  refine MetFree.of_bodySF (plainFor_of_name own_pn1) hisR ?_
  intro p e s m args below meth c s₁ Bd hml0 hP hK
  obtain ⟨rfl, hZ, hh⟩ := hP
  have hx := Bd.exec
  have hby := Bd.bytes
  have hlk : meth.locks = false := BodyLoose.notSynchronized Bd
  have hml : c.maxLocals = 1 := hml0
  have hown : s.vm.findClass "com/example/hintikka/hintikka/ontology/FeatureValueEqualsPinLaw" = some m.cls := findClass_of_methodNamed Bd.named
  have hnm := (name_of_methodNamed Bd.named Bd.method).1
  have X0 : Stand p l e ({ frames := 0, cells := 0, slots := 0, locals := 0 } : Room) s m #[(.int px)] below meth c s₁ [] 0 0 := Stand.of_body Bd
  have e0 : s₁.heap = h0 := by rw [← hh, Bd.state]; rfl
  have N0 := Fr.nil n0
  show own_Go p.tables e below (fun u o => ∃ v L, o = .returned v ∧ Q_rmLen Z px h0 n0 v u.heap L ∧ FrameEnd s o u L ({ frames := 0, cells := 0, slots := 0, locals := 0 } : Room).cells ({ frames := 0, cells := 0, slots := 0, locals := 0 } : Room).slots) (s₁.setTop (entryFrame m #[(.int px)] 1))
  refine own_up (fun _ k => castTop (ef_rmLen m px) k) ?_
  show own_Go p.tables e below _ (s₁.setTop (mkF m 0 #[.val (.int px)] []))
  refine own_up (fun _ k => XS.iloadN X0.here hx rfl (hb hby d_m_2_0) rfl k) ?_
  show own_Go p.tables e below _ (s₁.setTop (mkF m 1 #[.val (.int px)] [(.int px)]))
  refine own_up (fun _ k => XS.iconst X0.here hx rfl (hb hby d_m_2_1) k) ?_
  show own_Go p.tables e below _ (s₁.setTop (mkF m 2 #[.val (.int px)] [(.int (3 : Int32)), (.int px)]))
  refine own_up (fun _ k => XS.iand X0.here hx rfl (hb hby d_m_2_2) rfl k) ?_
  show own_Go p.tables e below _ (s₁.setTop (mkF m 3 #[.val (.int px)] [(.int (px &&& (3 : Int32)))]))
  refine own_up (fun _ k => XS.iconst X0.here hx rfl (hb hby d_m_2_3) k) ?_
  show own_Go p.tables e below _ (s₁.setTop (mkF m 4 #[.val (.int px)] [(.int (3 : Int32)), (.int (px &&& (3 : Int32)))]))
  refine own_up (fun _ k => iremM X0 hx rfl (hb hby d_m_2_4) rfl (by decide) k) ?_
  show own_Go p.tables e below _ (s₁.setTop (mkF m 5 #[.val (.int px)] [(.int ((px &&& (3 : Int32)) % (3 : Int32)))]))
  exact own_end X0 hlk (v := some (.int ((px &&& (3 : Int32)) % (3 : Int32)))) (fun h => by rw [Bd.returns] at h; cases h) (fun fs hr => retOut X0 hx Bd.returns rfl (Or.inl ⟨rfl, Or.inl rfl, _, rfl⟩) (hb hby d_m_2_5) hr) e0 ⟨rfl, N0, rfl⟩ (by decide) (by decide)
theorem d_m_3_0 : decode method_3_code 0 = .ok (.iload_n 0, 1) := by decide +kernel
theorem d_m_3_1 : decode method_3_code 1 = .ok (.invokestatic 7, 3) := by decide +kernel
theorem own_pd1 : parseMethodDescriptor "(I)I" = some ⟨[.int], some .int⟩ := by decide +kernel
theorem d_m_3_4 : decode method_3_code 4 = .ok (.istore_n 1, 1) := by decide +kernel
theorem d_m_3_5 : decode method_3_code 5 = .ok (.iload_n 0, 1) := by decide +kernel
theorem d_m_3_6 : decode method_3_code 6 = .ok (.iconst 2, 1) := by decide +kernel
theorem d_m_3_7 : decode method_3_code 7 = .ok (.iushr, 1) := by decide +kernel
theorem d_m_3_8 : decode method_3_code 8 = .ok (.sipush 255, 3) := by decide +kernel
theorem d_m_3_11 : decode method_3_code 11 = .ok (.iand, 1) := by decide +kernel
theorem d_m_3_12 : decode method_3_code 12 = .ok (.i2c, 1) := by decide +kernel
theorem d_m_3_13 : decode method_3_code 13 = .ok (.istore_n 2, 1) := by decide +kernel
theorem d_m_3_14 : decode method_3_code 14 = .ok (.iload_n 0, 1) := by decide +kernel
theorem d_m_3_15 : decode method_3_code 15 = .ok (.bipush 10, 2) := by decide +kernel
theorem d_m_3_17 : decode method_3_code 17 = .ok (.iushr, 1) := by decide +kernel
theorem d_m_3_18 : decode method_3_code 18 = .ok (.sipush 255, 3) := by decide +kernel
theorem d_m_3_21 : decode method_3_code 21 = .ok (.iand, 1) := by decide +kernel
theorem d_m_3_22 : decode method_3_code 22 = .ok (.i2c, 1) := by decide +kernel
theorem d_m_3_23 : decode method_3_code 23 = .ok (.istore_n 3, 1) := by decide +kernel
theorem d_m_3_24 : decode method_3_code 24 = .ok (.iload_n 1, 1) := by decide +kernel
theorem d_m_3_25 : decode method_3_code 25 = .ok (.ifCond .ne 14, 3) := by decide +kernel
theorem d_m_3_28 : decode method_3_code 28 = .ok (.new 13, 3) := by decide +kernel
theorem d_m_3_31 : decode method_3_code 31 = .ok (.dup, 1) := by decide +kernel
theorem d_m_3_32 : decode method_3_code 32 = .ok (.iconst 0, 1) := by decide +kernel
theorem d_m_3_33 : decode method_3_code 33 = .ok (.newarray .char, 2) := by decide +kernel
theorem d_m_3_35 : decode method_3_code 35 = .ok (.invokespecial 15, 3) := by decide +kernel
theorem own_pd2 : parseMethodDescriptor "([C)V" = some ⟨[(.array .char)], none⟩ := by decide +kernel
theorem d_m_3_38 : decode method_3_code 38 = .ok (.areturn, 1) := by decide +kernel
theorem d_m_3_39 : decode method_3_code 39 = .ok (.iload_n 1, 1) := by decide +kernel
theorem d_m_3_40 : decode method_3_code 40 = .ok (.iconst 1, 1) := by decide +kernel
theorem d_m_3_41 : decode method_3_code 41 = .ok (.if_icmp .ne 23, 3) := by decide +kernel
theorem d_m_3_44 : decode method_3_code 44 = .ok (.iconst 1, 1) := by decide +kernel
theorem d_m_3_45 : decode method_3_code 45 = .ok (.newarray .char, 2) := by decide +kernel
theorem d_m_3_47 : decode method_3_code 47 = .ok (.astore 4, 2) := by decide +kernel
theorem d_m_3_49 : decode method_3_code 49 = .ok (.aload 4, 2) := by decide +kernel
theorem d_m_3_51 : decode method_3_code 51 = .ok (.iconst 0, 1) := by decide +kernel
theorem d_m_3_52 : decode method_3_code 52 = .ok (.iload_n 2, 1) := by decide +kernel
theorem d_m_3_53 : decode method_3_code 53 = .ok (.castore, 1) := by decide +kernel
theorem d_m_3_54 : decode method_3_code 54 = .ok (.new 13, 3) := by decide +kernel
theorem d_m_3_57 : decode method_3_code 57 = .ok (.dup, 1) := by decide +kernel
theorem d_m_3_58 : decode method_3_code 58 = .ok (.aload 4, 2) := by decide +kernel
theorem d_m_3_60 : decode method_3_code 60 = .ok (.invokespecial 15, 3) := by decide +kernel
theorem d_m_3_63 : decode method_3_code 63 = .ok (.areturn, 1) := by decide +kernel
theorem d_m_3_64 : decode method_3_code 64 = .ok (.iconst 2, 1) := by decide +kernel
theorem d_m_3_65 : decode method_3_code 65 = .ok (.newarray .char, 2) := by decide +kernel
theorem d_m_3_67 : decode method_3_code 67 = .ok (.astore 4, 2) := by decide +kernel
theorem d_m_3_69 : decode method_3_code 69 = .ok (.aload 4, 2) := by decide +kernel
theorem d_m_3_71 : decode method_3_code 71 = .ok (.iconst 0, 1) := by decide +kernel
theorem d_m_3_72 : decode method_3_code 72 = .ok (.iload_n 2, 1) := by decide +kernel
theorem d_m_3_73 : decode method_3_code 73 = .ok (.castore, 1) := by decide +kernel
theorem d_m_3_74 : decode method_3_code 74 = .ok (.aload 4, 2) := by decide +kernel
theorem d_m_3_76 : decode method_3_code 76 = .ok (.iconst 1, 1) := by decide +kernel
theorem d_m_3_77 : decode method_3_code 77 = .ok (.iload_n 3, 1) := by decide +kernel
theorem d_m_3_78 : decode method_3_code 78 = .ok (.castore, 1) := by decide +kernel
theorem d_m_3_79 : decode method_3_code 79 = .ok (.new 13, 3) := by decide +kernel
theorem d_m_3_82 : decode method_3_code 82 = .ok (.dup, 1) := by decide +kernel
theorem d_m_3_83 : decode method_3_code 83 = .ok (.aload 4, 2) := by decide +kernel
theorem d_m_3_85 : decode method_3_code 85 = .ok (.invokespecial 15, 3) := by decide +kernel
theorem d_m_3_88 : decode method_3_code 88 = .ok (.areturn, 1) := by decide +kernel
theorem ef_rmMk (m : MethodId) (y0 : Int32) : entryFrame m #[(.int y0)] 5 = mkF m 0 #[.val (.int y0), .unset, .unset, .unset, .unset] [] := by first | (simp [entryFrame, mkF, argsToLocals, Value.category]; done) | rfl
def Q_rmMk (Z : State) (px : Int32) (G1 : Int32) (h0 : Heap) (n0 : Nat) (v : Option Value) (h : Heap) (L : List Loc) : Prop := ∃ (sb : Addr) (tb : Addr) (kb : ClassId), v = some (.ref sb) ∧ Fr n0 L ∧ Keep h0 h [] ∧ h0.size ≤ sb ∧ Exa Z h sb "java/lang/String" ∧ Fld Z h sb "java/lang/String" "coder" "B" (.int (0 : Int32)) ∧ Fld Z h sb "java/lang/String" "value" "[B" (.ref tb) ∧ Arv Z h tb kb .byte (Int32.ofNat (own_cs px).length) (((own_cs px).map (fun c => c.toInt8.toInt32)).map Value.int) (.int (0 : Int32))
set_option maxRecDepth 65536 in
set_option maxHeartbeats 40000000 in
theorem rmMk (l : Launch) (Z : State) (a0 : Array Value) (hw : ∀ d ∈ tables_1, d.before a0 Z = true) (ws : List Jvm.Cond) (px : Int32) (G1 : Int32) (h0 : Heap) (n0 : Nat) (Z0 : n0 ≤ h0.size) (O : Old Z n0 h0) (S1 : Sta Z Z.heap "java/lang/String" "COMPACT_STRINGS" "Z" (.int G1)) (P5 : ¬ (G1 = (0 : Int32))) :
    MetFree l (⟨"com/example/hintikka/hintikka/ontology/FeatureValueEqualsPinLaw", "mk", "(I)Ljava/lang/String;"⟩ : MethodName) (head1 (Jvm.Cond.code (⟨"com/example/hintikka/hintikka/ontology/FeatureValueEqualsPinLaw", "mk", "(I)Ljava/lang/String;"⟩ : MethodName) method_3_code 5 (some (.object "java/lang/String")) :: ws) ({ frames := 4, cells := 6, slots := 12, locals := 66 } : Room)) (fun ar U => ar = #[(.int px)] ∧ Z.Warmed39 U.vm ∧ U.heap = h0 ∧ CHv Z own_EL U.vm h0) (fun _ _ _ _ _ => True) (fun _ U o U' => ∃ v L, o = .returned v ∧ Q_rmMk Z px G1 h0 n0 v U'.heap L ∧ CHr Z own_EL U.vm U.heap U'.vm U'.heap ∧ ReturnedEndW U o U' L ({ frames := 4, cells := 6, slots := 12, locals := 66 } : Room).cells ({ frames := 4, cells := 6, slots := 12, locals := 66 } : Room).slots) := by
  refine MetFree.of_bodySF (plainFor_of_name own_pn1) hisR ?_
  intro p e s m args below meth c s₁ Bd hml0 hP hK
  obtain ⟨rfl, hZ, hh, hC0⟩ := hP
  have hx := Bd.exec
  have hby := Bd.bytes
  have hlk : meth.locks = false := BodyLoose.notSynchronized Bd
  have hml : c.maxLocals = 5 := hml0
  have hown : s.vm.findClass "com/example/hintikka/hintikka/ontology/FeatureValueEqualsPinLaw" = some m.cls := findClass_of_methodNamed Bd.named
  have hnm := (name_of_methodNamed Bd.named Bd.method).1
  have X0 : Stand p l e ({ frames := 4, cells := 6, slots := 12, locals := 66 } : Room) (s.setVm s.vm) m #[(.int px)] below meth c s₁ [] 0 0 := Stand.of_body Bd
  have e0 : s₁.heap = h0 := by rw [← hh, Bd.state]; rfl
  have N0 := Fr.nil n0
  have hS0 : s.Since s.vm 0 := (State.WarmedH.refl s).since 0
  have hk0 : 0 ≤ h0.size := Nat.zero_le _
  have CR0 : CHr Z own_EL s.vm h0 s.vm h0 := CHr.refl hC0
  have wS := own_wS hw
  show own_Go p.tables e below (fun u o => ∃ v L, o = .returned v ∧ Q_rmMk Z px G1 h0 n0 v u.heap L ∧ CHr Z own_EL s.vm s.heap u.vm u.heap ∧ ReturnedEndW s o u L ({ frames := 4, cells := 6, slots := 12, locals := 66 } : Room).cells ({ frames := 4, cells := 6, slots := 12, locals := 66 } : Room).slots) (s₁.setTop (entryFrame m #[(.int px)] 5))
  refine own_up (fun _ k => castTop (ef_rmMk m px) k) ?_
  show own_Go p.tables e below _ (s₁.setTop (mkF m 0 #[.val (.int px), .unset, .unset, .unset, .unset] []))
  have hws : ∀ d ∈ StrChars.Road.words, d.before a0 Z = true := fun d hd => hw d ((by decide +kernel : ∀ d ∈ StrChars.Road.words, d ∈ tables_1) d hd)
  refine own_up (fun _ k => XS.iloadN X0.here hx rfl (hb hby d_m_3_0) rfl k) ?_
  show own_Go p.tables e below _ (s₁.setTop (mkF m 1 #[.val (.int px), .unset, .unset, .unset, .unset] [(.int px)]))
  obtain ⟨_, _, ⟨T1, L1, k1, n1⟩, -, X1, ⟨Lc1, hQ1, l1, y1, z1⟩, st1⟩ := Jvm.LawKit.callS X0 hx (y := (⟨"com/example/hintikka/hintikka/ontology/FeatureValueEqualsPinLaw", "len", "(I)I"⟩ : MethodName)) hown (mvT hZ (hw _ (List.mem_of_getElem? (i := 7) rfl))) (mvT hZ (hw _ (List.mem_of_getElem? (i := 8) rfl))) (mvT hZ (hw _ (List.mem_of_getElem? (i := 5) rfl))) (mvT hZ (hw _ (List.mem_of_getElem? (i := 9) rfl))) (by decide) (backOf (W := 0) (rmLen l Z a0 hw [] px h0 n0 Z0 ) hZ (hw _ (List.mem_of_getElem? (i := 9) rfl)) (hw _ (List.mem_of_getElem? (i := 5) rfl)) (by decide) (by decide)) (g := (mkF m 1 #[.val (.int px), .unset, .unset, .unset, .unset] [(.int px)])) rfl (by rw [hml]; rfl) (argsL := [(.int px)]) (rest := []) (lenOf own_pd1 rfl) rfl (by show 2 * 0 + _ ≤ _; exact Nat.le_of_eq rfl) (hb hby d_m_3_1) (fun _ _ => ⟨rfl, e0, (by decide : 0 + 0 ≤ _), (by decide : 0 + 0 ≤ _)⟩)
  dsimp only [Pt.U, Pt.locs, Pt.cells, Pt.slots] at X1 l1 y1 z1 st1 hQ1
  subst l1 y1 z1
  obtain ⟨rfl, N1q, eq1⟩ := hQ1
  have N1 := Fr.app N0 N1q
  refine own_up (fun _ k => st1 _ k) ?_
  show own_Go p.tables e below _ (T1.setTop (mkF m 4 #[.val (.int px), .unset, .unset, .unset, .unset] [(.int ((px &&& (3 : Int32)) % (3 : Int32)))]))
  refine own_up (fun _ k => XS.istoreN X1.here hx rfl (hb hby d_m_3_4) rfl (l' := #[.val (.int px), .val (.int ((px &&& (3 : Int32)) % (3 : Int32))), .unset, .unset, .unset]) rfl k) ?_
  show own_Go p.tables e below _ (T1.setTop (mkF m 5 #[.val (.int px), .val (.int ((px &&& (3 : Int32)) % (3 : Int32))), .unset, .unset, .unset] []))
  refine own_up (fun _ k => XS.iloadN X1.here hx rfl (hb hby d_m_3_5) rfl k) ?_
  show own_Go p.tables e below _ (T1.setTop (mkF m 6 #[.val (.int px), .val (.int ((px &&& (3 : Int32)) % (3 : Int32))), .unset, .unset, .unset] [(.int px)]))
  refine own_up (fun _ k => XS.iconst X1.here hx rfl (hb hby d_m_3_6) k) ?_
  show own_Go p.tables e below _ (T1.setTop (mkF m 7 #[.val (.int px), .val (.int ((px &&& (3 : Int32)) % (3 : Int32))), .unset, .unset, .unset] [(.int (2 : Int32)), (.int px)]))
  refine own_up (fun _ k => XS.iushr X1.here hx rfl (hb hby d_m_3_7) rfl k) ?_
  show own_Go p.tables e below _ (T1.setTop (mkF m 8 #[.val (.int px), .val (.int ((px &&& (3 : Int32)) % (3 : Int32))), .unset, .unset, .unset] [(.int ((px.toUInt32 >>> ((2 : Int32) &&& 31).toUInt32).toInt32))]))
  refine own_up (fun _ k => XS.sipush X1.here hx rfl (hb hby d_m_3_8) k) ?_
  show own_Go p.tables e below _ (T1.setTop (mkF m 11 #[.val (.int px), .val (.int ((px &&& (3 : Int32)) % (3 : Int32))), .unset, .unset, .unset] [(.int (255 : Int32)), (.int ((px.toUInt32 >>> ((2 : Int32) &&& 31).toUInt32).toInt32))]))
  refine own_up (fun _ k => XS.iand X1.here hx rfl (hb hby d_m_3_11) rfl k) ?_
  show own_Go p.tables e below _ (T1.setTop (mkF m 12 #[.val (.int px), .val (.int ((px &&& (3 : Int32)) % (3 : Int32))), .unset, .unset, .unset] [(.int (((px.toUInt32 >>> ((2 : Int32) &&& 31).toUInt32).toInt32) &&& (255 : Int32)))]))
  refine own_up (fun _ k => XS.i2c X1.here hx rfl (hb hby d_m_3_12) rfl k) ?_
  show own_Go p.tables e below _ (T1.setTop (mkF m 13 #[.val (.int px), .val (.int ((px &&& (3 : Int32)) % (3 : Int32))), .unset, .unset, .unset] [(.int ((((px.toUInt32 >>> ((2 : Int32) &&& 31).toUInt32).toInt32) &&& (255 : Int32)).toUInt32.toUInt16.toUInt32.toInt32))]))
  refine own_up (fun _ k => XS.istoreN X1.here hx rfl (hb hby d_m_3_13) rfl (l' := #[.val (.int px), .val (.int ((px &&& (3 : Int32)) % (3 : Int32))), .val (.int ((((px.toUInt32 >>> ((2 : Int32) &&& 31).toUInt32).toInt32) &&& (255 : Int32)).toUInt32.toUInt16.toUInt32.toInt32)), .unset, .unset]) rfl k) ?_
  show own_Go p.tables e below _ (T1.setTop (mkF m 14 #[.val (.int px), .val (.int ((px &&& (3 : Int32)) % (3 : Int32))), .val (.int ((((px.toUInt32 >>> ((2 : Int32) &&& 31).toUInt32).toInt32) &&& (255 : Int32)).toUInt32.toUInt16.toUInt32.toInt32)), .unset, .unset] []))
  refine own_up (fun _ k => XS.iloadN X1.here hx rfl (hb hby d_m_3_14) rfl k) ?_
  show own_Go p.tables e below _ (T1.setTop (mkF m 15 #[.val (.int px), .val (.int ((px &&& (3 : Int32)) % (3 : Int32))), .val (.int ((((px.toUInt32 >>> ((2 : Int32) &&& 31).toUInt32).toInt32) &&& (255 : Int32)).toUInt32.toUInt16.toUInt32.toInt32)), .unset, .unset] [(.int px)]))
  refine own_up (fun _ k => XS.bipush X1.here hx rfl (hb hby d_m_3_15) k) ?_
  show own_Go p.tables e below _ (T1.setTop (mkF m 17 #[.val (.int px), .val (.int ((px &&& (3 : Int32)) % (3 : Int32))), .val (.int ((((px.toUInt32 >>> ((2 : Int32) &&& 31).toUInt32).toInt32) &&& (255 : Int32)).toUInt32.toUInt16.toUInt32.toInt32)), .unset, .unset] [(.int (10 : Int32)), (.int px)]))
  refine own_up (fun _ k => XS.iushr X1.here hx rfl (hb hby d_m_3_17) rfl k) ?_
  show own_Go p.tables e below _ (T1.setTop (mkF m 18 #[.val (.int px), .val (.int ((px &&& (3 : Int32)) % (3 : Int32))), .val (.int ((((px.toUInt32 >>> ((2 : Int32) &&& 31).toUInt32).toInt32) &&& (255 : Int32)).toUInt32.toUInt16.toUInt32.toInt32)), .unset, .unset] [(.int ((px.toUInt32 >>> ((10 : Int32) &&& 31).toUInt32).toInt32))]))
  refine own_up (fun _ k => XS.sipush X1.here hx rfl (hb hby d_m_3_18) k) ?_
  show own_Go p.tables e below _ (T1.setTop (mkF m 21 #[.val (.int px), .val (.int ((px &&& (3 : Int32)) % (3 : Int32))), .val (.int ((((px.toUInt32 >>> ((2 : Int32) &&& 31).toUInt32).toInt32) &&& (255 : Int32)).toUInt32.toUInt16.toUInt32.toInt32)), .unset, .unset] [(.int (255 : Int32)), (.int ((px.toUInt32 >>> ((10 : Int32) &&& 31).toUInt32).toInt32))]))
  refine own_up (fun _ k => XS.iand X1.here hx rfl (hb hby d_m_3_21) rfl k) ?_
  show own_Go p.tables e below _ (T1.setTop (mkF m 22 #[.val (.int px), .val (.int ((px &&& (3 : Int32)) % (3 : Int32))), .val (.int ((((px.toUInt32 >>> ((2 : Int32) &&& 31).toUInt32).toInt32) &&& (255 : Int32)).toUInt32.toUInt16.toUInt32.toInt32)), .unset, .unset] [(.int (((px.toUInt32 >>> ((10 : Int32) &&& 31).toUInt32).toInt32) &&& (255 : Int32)))]))
  refine own_up (fun _ k => XS.i2c X1.here hx rfl (hb hby d_m_3_22) rfl k) ?_
  show own_Go p.tables e below _ (T1.setTop (mkF m 23 #[.val (.int px), .val (.int ((px &&& (3 : Int32)) % (3 : Int32))), .val (.int ((((px.toUInt32 >>> ((2 : Int32) &&& 31).toUInt32).toInt32) &&& (255 : Int32)).toUInt32.toUInt16.toUInt32.toInt32)), .unset, .unset] [(.int ((((px.toUInt32 >>> ((10 : Int32) &&& 31).toUInt32).toInt32) &&& (255 : Int32)).toUInt32.toUInt16.toUInt32.toInt32))]))
  refine own_up (fun _ k => XS.istoreN X1.here hx rfl (hb hby d_m_3_23) rfl (l' := #[.val (.int px), .val (.int ((px &&& (3 : Int32)) % (3 : Int32))), .val (.int ((((px.toUInt32 >>> ((2 : Int32) &&& 31).toUInt32).toInt32) &&& (255 : Int32)).toUInt32.toUInt16.toUInt32.toInt32)), .val (.int ((((px.toUInt32 >>> ((10 : Int32) &&& 31).toUInt32).toInt32) &&& (255 : Int32)).toUInt32.toUInt16.toUInt32.toInt32)), .unset]) rfl k) ?_
  show own_Go p.tables e below _ (T1.setTop (mkF m 24 #[.val (.int px), .val (.int ((px &&& (3 : Int32)) % (3 : Int32))), .val (.int ((((px.toUInt32 >>> ((2 : Int32) &&& 31).toUInt32).toInt32) &&& (255 : Int32)).toUInt32.toUInt16.toUInt32.toInt32)), .val (.int ((((px.toUInt32 >>> ((10 : Int32) &&& 31).toUInt32).toInt32) &&& (255 : Int32)).toUInt32.toUInt16.toUInt32.toInt32)), .unset] []))
  refine own_up (fun _ k => XS.iloadN X1.here hx rfl (hb hby d_m_3_24) rfl k) ?_
  show own_Go p.tables e below _ (T1.setTop (mkF m 25 #[.val (.int px), .val (.int ((px &&& (3 : Int32)) % (3 : Int32))), .val (.int ((((px.toUInt32 >>> ((2 : Int32) &&& 31).toUInt32).toInt32) &&& (255 : Int32)).toUInt32.toUInt16.toUInt32.toInt32)), .val (.int ((((px.toUInt32 >>> ((10 : Int32) &&& 31).toUInt32).toInt32) &&& (255 : Int32)).toUInt32.toUInt16.toUInt32.toInt32)), .unset] [(.int ((px &&& (3 : Int32)) % (3 : Int32)))]))
  by_cases c0 : ((px &&& (3 : Int32)) % (3 : Int32)) = (0 : Int32)
  ·
    refine own_up (fun _ k => XS.ifNo X1.here hx rfl (hb hby d_m_3_25) rfl ((if0 _ _).trans (teq c0).2) k) ?_
    show own_Go p.tables e below _ (T1.setTop (mkF m 28 #[.val (.int px), .val (.int ((px &&& (3 : Int32)) % (3 : Int32))), .val (.int ((((px.toUInt32 >>> ((2 : Int32) &&& 31).toUInt32).toInt32) &&& (255 : Int32)).toUInt32.toUInt16.toUInt32.toInt32)), .val (.int ((((px.toUInt32 >>> ((10 : Int32) &&& 31).toUInt32).toInt32) &&& (255 : Int32)).toUInt32.toUInt16.toUInt32.toInt32)), .unset] []))
    obtain ⟨T2, h2, X2, e2, E2, A2, D2, -, st2⟩ := newO X1 hx hZ hown (hw _ (List.mem_of_getElem? (i := 10) rfl)) (hw _ (List.mem_of_getElem? (i := 11) rfl)) (hw _ (List.mem_of_getElem? (i := 12) rfl)) eq1 (g := (mkF m 28 #[.val (.int px), .val (.int ((px &&& (3 : Int32)) % (3 : Int32))), .val (.int ((((px.toUInt32 >>> ((2 : Int32) &&& 31).toUInt32).toInt32) &&& (255 : Int32)).toUInt32.toUInt16.toUInt32.toInt32)), .val (.int ((((px.toUInt32 >>> ((10 : Int32) &&& 31).toUInt32).toInt32) &&& (255 : Int32)).toUInt32.toUInt16.toUInt32.toInt32)), .unset] [])) rfl (hb hby d_m_3_28) (by decide) (by decide)
    obtain ⟨b2, g2⟩ : ∃ z, z = h0.size := ⟨_, rfl⟩
    rw [← g2] at A2 D2 st2
    have ge2 : n0 ≤ b2 := Nat.le_trans Z0 (Nat.le_of_eq g2.symm)
    have sz2 : h0.size ≤ b2 := Nat.le_trans (Nat.le_refl _) (Nat.le_of_eq g2.symm)
    have CR3 := CHr.trans CR0 (CHr.ext E2 CR0.1)
    have hk3 := (Nat.le_trans hk0 E2.1)
    refine own_up st2 ?_
    have F2_value : Fld Z h2 b2 "java/lang/String" "value" "[B" .null := D2 (Or.inr (hw _ (List.mem_of_getElem? (i := 26) rfl))) (ty := (.array .byte)) (by decide)
    have F2_coder : Fld Z h2 b2 "java/lang/String" "coder" "B" (.int (0 : Int32)) := D2 (Or.inr (hw _ (List.mem_of_getElem? (i := 27) rfl))) (ty := .byte) (by decide)
    show own_Go p.tables e below _ (T2.setTop (mkF m 31 #[.val (.int px), .val (.int ((px &&& (3 : Int32)) % (3 : Int32))), .val (.int ((((px.toUInt32 >>> ((2 : Int32) &&& 31).toUInt32).toInt32) &&& (255 : Int32)).toUInt32.toUInt16.toUInt32.toInt32)), .val (.int ((((px.toUInt32 >>> ((10 : Int32) &&& 31).toUInt32).toInt32) &&& (255 : Int32)).toUInt32.toUInt16.toUInt32.toInt32)), .unset] [(.ref b2)]))
    refine own_up (fun _ k => XS.dup X2.here hx rfl (hb hby d_m_3_31) rfl rfl k) ?_
    show own_Go p.tables e below _ (T2.setTop (mkF m 32 #[.val (.int px), .val (.int ((px &&& (3 : Int32)) % (3 : Int32))), .val (.int ((((px.toUInt32 >>> ((2 : Int32) &&& 31).toUInt32).toInt32) &&& (255 : Int32)).toUInt32.toUInt16.toUInt32.toInt32)), .val (.int ((((px.toUInt32 >>> ((10 : Int32) &&& 31).toUInt32).toInt32) &&& (255 : Int32)).toUInt32.toUInt16.toUInt32.toInt32)), .unset] [(.ref b2), (.ref b2)]))
    refine own_up (fun _ k => XS.iconst X2.here hx rfl (hb hby d_m_3_32) k) ?_
    show own_Go p.tables e below _ (T2.setTop (mkF m 33 #[.val (.int px), .val (.int ((px &&& (3 : Int32)) % (3 : Int32))), .val (.int ((((px.toUInt32 >>> ((2 : Int32) &&& 31).toUInt32).toInt32) &&& (255 : Int32)).toUInt32.toUInt16.toUInt32.toInt32)), .val (.int ((((px.toUInt32 >>> ((10 : Int32) &&& 31).toUInt32).toInt32) &&& (255 : Int32)).toUInt32.toUInt16.toUInt32.toInt32)), .unset] [(.int (0 : Int32)), (.ref b2), (.ref b2)]))
    obtain ⟨T4, h4, k4, X4, e4, E4, A4, st4⟩ := newP X2 hx hZ (hw _ (List.mem_of_getElem? (i := 13) rfl)) e2 (g := (mkF m 33 #[.val (.int px), .val (.int ((px &&& (3 : Int32)) % (3 : Int32))), .val (.int ((((px.toUInt32 >>> ((2 : Int32) &&& 31).toUInt32).toInt32) &&& (255 : Int32)).toUInt32.toUInt16.toUInt32.toInt32)), .val (.int ((((px.toUInt32 >>> ((10 : Int32) &&& 31).toUInt32).toInt32) &&& (255 : Int32)).toUInt32.toUInt16.toUInt32.toInt32)), .unset] [(.int (0 : Int32)), (.ref b2), (.ref b2)])) rfl (hb hby d_m_3_33) rfl (by decide) (cap := 0) (by decide) (by decide) (by decide) (by decide)
    have f5 : n0 ≤ h2.size := (Nat.le_trans Z0 E2.1)
    have f6 : h0.size ≤ h2.size := (Nat.le_trans (Nat.le_refl _) E2.1)
    obtain ⟨b4, g4⟩ : ∃ z, z = h2.size := ⟨_, rfl⟩
    rw [← g4] at A4 st4
    have ge4 : n0 ≤ b4 := Nat.le_trans f5 (Nat.le_of_eq g4.symm)
    have ne4_0 : b2 ≠ b4 := Nat.ne_of_lt (Nat.lt_of_lt_of_le A2.lt (Nat.le_of_eq g4.symm))
    have sz4 : h0.size ≤ b4 := Nat.le_trans f6 (Nat.le_of_eq g4.symm)
    have CR7 := CHr.trans CR3 (CHr.ext E4 CR3.1)
    have hk7 := (Nat.le_trans hk3 E4.1)
    refine own_up st4 ?_
    have V4 : Arv Z h4 b4 k4 .char (0 : Int32) [] (.int (0 : Int32)) := (Arv.new A4 (by decide)).pad (pad_rep [] (.int (0 : Int32)) 0)
    show own_Go p.tables e below _ (T4.setTop (mkF m 35 #[.val (.int px), .val (.int ((px &&& (3 : Int32)) % (3 : Int32))), .val (.int ((((px.toUInt32 >>> ((2 : Int32) &&& 31).toUInt32).toInt32) &&& (255 : Int32)).toUInt32.toUInt16.toUInt32.toInt32)), .val (.int ((((px.toUInt32 >>> ((10 : Int32) &&& 31).toUInt32).toInt32) &&& (255 : Int32)).toUInt32.toUInt16.toUInt32.toInt32)), .unset] [(.ref b4), (.ref b2), (.ref b2)]))
    have f9 : Exa Z h4 b2 "java/lang/String" := (A2.ext E4)
    have f10 : Fld Z h4 b2 "java/lang/String" "value" "[B" .null := (F2_value.ext E4)
    have f11 : Fld Z h4 b2 "java/lang/String" "coder" "B" (.int (0 : Int32)) := (F2_coder.ext E4)
    have f12 : n0 ≤ h4.size := (Nat.le_trans f5 E4.1)
    obtain ⟨_, _, ⟨T8, L8, k8, n8⟩, -, X8', hS8', hg8', ⟨Lc8, hQ8, l8, y8, z8, A8⟩, st8⟩ := X4.specialBackS hx (y := (⟨"java/lang/String", "<init>", "([C)V"⟩ : MethodName)) rfl hown (mvT hZ (hw _ (List.mem_of_getElem? (i := 14) rfl))) (mvT hZ (hw _ (List.mem_of_getElem? (i := 15) rfl))) (mvT hZ (hw _ (List.mem_of_getElem? (i := 16) rfl))) (by decide) (backOfSH (W := 1) (rmS1 l Z a0 hw [] b2 b4 k4 h4 n0 f12 f9 f10 f11 ge2 V4) hZ (hw _ (List.mem_of_getElem? (i := 16) rfl)) (hw _ (List.mem_of_getElem? (i := 12) rfl)) (by decide) (by decide) (own_EW hw) CR7.1) (g := (mkF m 35 #[.val (.int px), .val (.int ((px &&& (3 : Int32)) % (3 : Int32))), .val (.int ((((px.toUInt32 >>> ((2 : Int32) &&& 31).toUInt32).toInt32) &&& (255 : Int32)).toUInt32.toUInt16.toUInt32.toInt32)), .val (.int ((((px.toUInt32 >>> ((10 : Int32) &&& 31).toUInt32).toInt32) &&& (255 : Int32)).toUInt32.toUInt16.toUInt32.toInt32)), .unset] [(.ref b4), (.ref b2), (.ref b2)])) rfl (by rw [hml]; rfl) (Steps.refl _) (a := b2) (argsL := [(.ref b4)]) (rest := [(.ref b2)]) (lenOf own_pd2 rfl) rfl (by show 2 * 0 + _ ≤ _; exact Nat.le_of_eq rfl) (hb hby d_m_3_35) (fun _ _ => ⟨rfl, e4, (by decide : 2 + 4 ≤ _), (by decide : 4 + 8 ≤ _)⟩)
    dsimp only [Pt.U, Pt.locs, Pt.cells, Pt.slots] at X8' hS8' hg8' l8 y8 z8 A8 st8 hQ8
    subst l8 y8 z8
    obtain ⟨X8, hS8, hZ8, hown8⟩ := rebS hS0 (by rw [e4]; exact hk7) X8' hS8' hg8' hZ hown
    have f13 : h0.size ≤ h4.size := (Nat.le_trans f6 E4.1)
    obtain ⟨tt_8, kt_8, rfl, N8q, K8, P8_0, P8_1, P8_2, P8_3, P8_4⟩ := hQ8
    have N8 := Fr.app N1 N8q
    refine own_up (fun _ k => st8.trans k) ?_
    have CR8 := CHr.trans CR7 A8
    have hk8 : T8.heap.size ≤ T8.heap.size := Nat.le_refl _
    show own_Go p.tables e below _ (T8.setTop (mkF m 38 #[.val (.int px), .val (.int ((px &&& (3 : Int32)) % (3 : Int32))), .val (.int ((((px.toUInt32 >>> ((2 : Int32) &&& 31).toUInt32).toInt32) &&& (255 : Int32)).toUInt32.toUInt16.toUInt32.toInt32)), .val (.int ((((px.toUInt32 >>> ((10 : Int32) &&& 31).toUInt32).toInt32) &&& (255 : Int32)).toUInt32.toUInt16.toUInt32.toInt32)), .unset] [(.ref b2)]))
    have ecs : own_cs px = [] := if_pos c0
    exact own_endW X8 hlk hZ8 (own_EW hw) hS8 hk8 (v := some (.ref b2)) (fun h => by rw [Bd.returns] at h; cases h) (fun fs hr => retOut X8 hx Bd.returns rfl (Or.inr (Or.inr (Or.inr (Or.inr ⟨rfl, rfl, rfl⟩)))) (hb hby d_m_3_38) hr) rfl hh CR8 ⟨b2, tt_8, kt_8, rfl, N8, ((((Keep.refl h0 []).ext E2).ext E4).trans K8 (allS (Or.inr sz2) all0)), sz2, P8_0, P8_2, P8_1, (by rw [ecs]; exact P8_4)⟩ (by decide) (by decide)
  ·
    refine own_up (fun _ k => XS.ifYes X1.here hx rfl (pc0 := 25) (pc' := 39) rfl (hb hby d_m_3_25) rfl ((if0 _ _).trans (feq c0).2) (by decide) (by decide) k) ?_
    show own_Go p.tables e below _ (T1.setTop (mkF m 39 #[.val (.int px), .val (.int ((px &&& (3 : Int32)) % (3 : Int32))), .val (.int ((((px.toUInt32 >>> ((2 : Int32) &&& 31).toUInt32).toInt32) &&& (255 : Int32)).toUInt32.toUInt16.toUInt32.toInt32)), .val (.int ((((px.toUInt32 >>> ((10 : Int32) &&& 31).toUInt32).toInt32) &&& (255 : Int32)).toUInt32.toUInt16.toUInt32.toInt32)), .unset] []))
    refine own_up (fun _ k => XS.iloadN X1.here hx rfl (hb hby d_m_3_39) rfl k) ?_
    show own_Go p.tables e below _ (T1.setTop (mkF m 40 #[.val (.int px), .val (.int ((px &&& (3 : Int32)) % (3 : Int32))), .val (.int ((((px.toUInt32 >>> ((2 : Int32) &&& 31).toUInt32).toInt32) &&& (255 : Int32)).toUInt32.toUInt16.toUInt32.toInt32)), .val (.int ((((px.toUInt32 >>> ((10 : Int32) &&& 31).toUInt32).toInt32) &&& (255 : Int32)).toUInt32.toUInt16.toUInt32.toInt32)), .unset] [(.int ((px &&& (3 : Int32)) % (3 : Int32)))]))
    refine own_up (fun _ k => XS.iconst X1.here hx rfl (hb hby d_m_3_40) k) ?_
    show own_Go p.tables e below _ (T1.setTop (mkF m 41 #[.val (.int px), .val (.int ((px &&& (3 : Int32)) % (3 : Int32))), .val (.int ((((px.toUInt32 >>> ((2 : Int32) &&& 31).toUInt32).toInt32) &&& (255 : Int32)).toUInt32.toUInt16.toUInt32.toInt32)), .val (.int ((((px.toUInt32 >>> ((10 : Int32) &&& 31).toUInt32).toInt32) &&& (255 : Int32)).toUInt32.toUInt16.toUInt32.toInt32)), .unset] [(.int (1 : Int32)), (.int ((px &&& (3 : Int32)) % (3 : Int32)))]))
    by_cases c1 : ((px &&& (3 : Int32)) % (3 : Int32)) = (1 : Int32)
    ·
      refine own_up (fun _ k => XS.icmpNo X1.here hx rfl (hb hby d_m_3_41) rfl (teq c1).2 k) ?_
      show own_Go p.tables e below _ (T1.setTop (mkF m 44 #[.val (.int px), .val (.int ((px &&& (3 : Int32)) % (3 : Int32))), .val (.int ((((px.toUInt32 >>> ((2 : Int32) &&& 31).toUInt32).toInt32) &&& (255 : Int32)).toUInt32.toUInt16.toUInt32.toInt32)), .val (.int ((((px.toUInt32 >>> ((10 : Int32) &&& 31).toUInt32).toInt32) &&& (255 : Int32)).toUInt32.toUInt16.toUInt32.toInt32)), .unset] []))
      refine own_up (fun _ k => XS.iconst X1.here hx rfl (hb hby d_m_3_44) k) ?_
      show own_Go p.tables e below _ (T1.setTop (mkF m 45 #[.val (.int px), .val (.int ((px &&& (3 : Int32)) % (3 : Int32))), .val (.int ((((px.toUInt32 >>> ((2 : Int32) &&& 31).toUInt32).toInt32) &&& (255 : Int32)).toUInt32.toUInt16.toUInt32.toInt32)), .val (.int ((((px.toUInt32 >>> ((10 : Int32) &&& 31).toUInt32).toInt32) &&& (255 : Int32)).toUInt32.toUInt16.toUInt32.toInt32)), .unset] [(.int (1 : Int32))]))
      obtain ⟨T14, h14, k14, X14, e14, E14, A14, st14⟩ := newP X1 hx hZ (hw _ (List.mem_of_getElem? (i := 13) rfl)) eq1 (g := (mkF m 45 #[.val (.int px), .val (.int ((px &&& (3 : Int32)) % (3 : Int32))), .val (.int ((((px.toUInt32 >>> ((2 : Int32) &&& 31).toUInt32).toInt32) &&& (255 : Int32)).toUInt32.toUInt16.toUInt32.toInt32)), .val (.int ((((px.toUInt32 >>> ((10 : Int32) &&& 31).toUInt32).toInt32) &&& (255 : Int32)).toUInt32.toUInt16.toUInt32.toInt32)), .unset] [(.int (1 : Int32))])) rfl (hb hby d_m_3_45) rfl (by decide) (cap := 1) (by decide) (by decide) (by decide) (by decide)
      obtain ⟨b14, g14⟩ : ∃ z, z = h0.size := ⟨_, rfl⟩
      rw [← g14] at A14 st14
      have ge14 : n0 ≤ b14 := Nat.le_trans Z0 (Nat.le_of_eq g14.symm)
      have sz14 : h0.size ≤ b14 := Nat.le_trans (Nat.le_refl _) (Nat.le_of_eq g14.symm)
      have CR15 := CHr.trans CR0 (CHr.ext E14 CR0.1)
      have hk15 := (Nat.le_trans hk0 E14.1)
      refine own_up st14 ?_
      have V14 : Arv Z h14 b14 k14 .char (1 : Int32) [(.int (0 : Int32))] (.int (0 : Int32)) := (Arv.new A14 (by decide)).pad (pad_rep [] (.int (0 : Int32)) 1)
      show own_Go p.tables e below _ (T14.setTop (mkF m 47 #[.val (.int px), .val (.int ((px &&& (3 : Int32)) % (3 : Int32))), .val (.int ((((px.toUInt32 >>> ((2 : Int32) &&& 31).toUInt32).toInt32) &&& (255 : Int32)).toUInt32.toUInt16.toUInt32.toInt32)), .val (.int ((((px.toUInt32 >>> ((10 : Int32) &&& 31).toUInt32).toInt32) &&& (255 : Int32)).toUInt32.toUInt16.toUInt32.toInt32)), .unset] [(.ref b14)]))
      refine own_up (fun _ k => XS.astore X14.here hx rfl (hb hby d_m_3_47) rfl rfl (l' := #[.val (.int px), .val (.int ((px &&& (3 : Int32)) % (3 : Int32))), .val (.int ((((px.toUInt32 >>> ((2 : Int32) &&& 31).toUInt32).toInt32) &&& (255 : Int32)).toUInt32.toUInt16.toUInt32.toInt32)), .val (.int ((((px.toUInt32 >>> ((10 : Int32) &&& 31).toUInt32).toInt32) &&& (255 : Int32)).toUInt32.toUInt16.toUInt32.toInt32)), .val (.ref b14)]) rfl k) ?_
      show own_Go p.tables e below _ (T14.setTop (mkF m 49 #[.val (.int px), .val (.int ((px &&& (3 : Int32)) % (3 : Int32))), .val (.int ((((px.toUInt32 >>> ((2 : Int32) &&& 31).toUInt32).toInt32) &&& (255 : Int32)).toUInt32.toUInt16.toUInt32.toInt32)), .val (.int ((((px.toUInt32 >>> ((10 : Int32) &&& 31).toUInt32).toInt32) &&& (255 : Int32)).toUInt32.toUInt16.toUInt32.toInt32)), .val (.ref b14)] []))
      refine own_up (fun _ k => XS.aload X14.here hx rfl (hb hby d_m_3_49) rfl rfl k) ?_
      show own_Go p.tables e below _ (T14.setTop (mkF m 51 #[.val (.int px), .val (.int ((px &&& (3 : Int32)) % (3 : Int32))), .val (.int ((((px.toUInt32 >>> ((2 : Int32) &&& 31).toUInt32).toInt32) &&& (255 : Int32)).toUInt32.toUInt16.toUInt32.toInt32)), .val (.int ((((px.toUInt32 >>> ((10 : Int32) &&& 31).toUInt32).toInt32) &&& (255 : Int32)).toUInt32.toUInt16.toUInt32.toInt32)), .val (.ref b14)] [(.ref b14)]))
      refine own_up (fun _ k => XS.iconst X14.here hx rfl (hb hby d_m_3_51) k) ?_
      show own_Go p.tables e below _ (T14.setTop (mkF m 52 #[.val (.int px), .val (.int ((px &&& (3 : Int32)) % (3 : Int32))), .val (.int ((((px.toUInt32 >>> ((2 : Int32) &&& 31).toUInt32).toInt32) &&& (255 : Int32)).toUInt32.toUInt16.toUInt32.toInt32)), .val (.int ((((px.toUInt32 >>> ((10 : Int32) &&& 31).toUInt32).toInt32) &&& (255 : Int32)).toUInt32.toUInt16.toUInt32.toInt32)), .val (.ref b14)] [(.int (0 : Int32)), (.ref b14)]))
      refine own_up (fun _ k => XS.iloadN X14.here hx rfl (hb hby d_m_3_52) rfl k) ?_
      show own_Go p.tables e below _ (T14.setTop (mkF m 53 #[.val (.int px), .val (.int ((px &&& (3 : Int32)) % (3 : Int32))), .val (.int ((((px.toUInt32 >>> ((2 : Int32) &&& 31).toUInt32).toInt32) &&& (255 : Int32)).toUInt32.toUInt16.toUInt32.toInt32)), .val (.int ((((px.toUInt32 >>> ((10 : Int32) &&& 31).toUInt32).toInt32) &&& (255 : Int32)).toUInt32.toUInt16.toUInt32.toInt32)), .val (.ref b14)] [(.int ((((px.toUInt32 >>> ((2 : Int32) &&& 31).toUInt32).toInt32) &&& (255 : Int32)).toUInt32.toUInt16.toUInt32.toInt32)), (.int (0 : Int32)), (.ref b14)]))
      obtain ⟨cl16_, Ar16, q16, S16, M16, Hs16, G16⟩ := id (V14)
      have hin17 : ¬ ((0 : Int32) < 0 ∨ cl16_.slots.size ≤ ((0 : Int32)).toNatClampNeg) := inb_of S16 ⟨by decide, by decide⟩
      obtain ⟨T17, h17, X17, e17, W17, st17⟩ := stC X14 hx hZ e14 Ar16 (j := (0 : Int32)) hin17 (g := (mkF m 53 #[.val (.int px), .val (.int ((px &&& (3 : Int32)) % (3 : Int32))), .val (.int ((((px.toUInt32 >>> ((2 : Int32) &&& 31).toUInt32).toInt32) &&& (255 : Int32)).toUInt32.toUInt16.toUInt32.toInt32)), .val (.int ((((px.toUInt32 >>> ((10 : Int32) &&& 31).toUInt32).toInt32) &&& (255 : Int32)).toUInt32.toUInt16.toUInt32.toInt32)), .val (.ref b14)] [(.int ((((px.toUInt32 >>> ((2 : Int32) &&& 31).toUInt32).toInt32) &&& (255 : Int32)).toUInt32.toUInt16.toUInt32.toInt32)), (.int (0 : Int32)), (.ref b14)])) rfl rfl (hb hby d_m_3_53)
      have V17 : Arv Z h17 b14 k14 .char (1 : Int32) [(.int (nar .char ((((px.toUInt32 >>> ((2 : Int32) &&& 31).toUInt32).toInt32) &&& (255 : Int32)).toUInt32.toUInt16.toUInt32.toInt32)))] (.int (0 : Int32)) := Arv.set Ar16 q16 S16 M16 Hs16 G16 (fits_nar_char _) W17 0 rfl (Nat.le_of_ble_eq_true rfl)
      have N17 := Fr.snoc X17 N1 ge14
      have CR18 := CHr.trans CR15 (CHr.wr W17 (Safe.arv hZ.alike V14 (by decide)) CR15.1)
      have hk18 := (Nat.le_trans hk15 (Nat.le_of_eq (Wr.size W17).symm))
      refine own_up st17 ?_
      show own_Go p.tables e below _ (T17.setTop (mkF m 54 #[.val (.int px), .val (.int ((px &&& (3 : Int32)) % (3 : Int32))), .val (.int ((((px.toUInt32 >>> ((2 : Int32) &&& 31).toUInt32).toInt32) &&& (255 : Int32)).toUInt32.toUInt16.toUInt32.toInt32)), .val (.int ((((px.toUInt32 >>> ((10 : Int32) &&& 31).toUInt32).toInt32) &&& (255 : Int32)).toUInt32.toUInt16.toUInt32.toInt32)), .val (.ref b14)] []))
      obtain ⟨T19, h19, X19, e19, E19, A19, D19, -, st19⟩ := newO X17 hx hZ hown (hw _ (List.mem_of_getElem? (i := 10) rfl)) (hw _ (List.mem_of_getElem? (i := 11) rfl)) (hw _ (List.mem_of_getElem? (i := 12) rfl)) e17 (g := (mkF m 54 #[.val (.int px), .val (.int ((px &&& (3 : Int32)) % (3 : Int32))), .val (.int ((((px.toUInt32 >>> ((2 : Int32) &&& 31).toUInt32).toInt32) &&& (255 : Int32)).toUInt32.toUInt16.toUInt32.toInt32)), .val (.int ((((px.toUInt32 >>> ((10 : Int32) &&& 31).toUInt32).toInt32) &&& (255 : Int32)).toUInt32.toUInt16.toUInt32.toInt32)), .val (.ref b14)] [])) rfl (hb hby d_m_3_54) (by decide) (by decide)
      have f20 : n0 ≤ h17.size := (Nat.le_trans (Nat.le_trans Z0 E14.1) (Nat.le_of_eq (Wr.size W17).symm))
      have f21 : h0.size ≤ h17.size := (Nat.le_trans (Nat.le_trans (Nat.le_refl _) E14.1) (Nat.le_of_eq (Wr.size W17).symm))
      obtain ⟨b19, g19⟩ : ∃ z, z = h17.size := ⟨_, rfl⟩
      rw [← g19] at A19 D19 st19
      have ge19 : n0 ≤ b19 := Nat.le_trans f20 (Nat.le_of_eq g19.symm)
      have ne19_0 : b14 ≠ b19 := Nat.ne_of_lt (Nat.lt_of_lt_of_le V17.lt (Nat.le_of_eq g19.symm))
      have sz19 : h0.size ≤ b19 := Nat.le_trans f21 (Nat.le_of_eq g19.symm)
      have CR22 := CHr.trans CR18 (CHr.ext E19 CR18.1)
      have hk22 := (Nat.le_trans hk18 E19.1)
      refine own_up st19 ?_
      have F19_value : Fld Z h19 b19 "java/lang/String" "value" "[B" .null := D19 (Or.inr (hw _ (List.mem_of_getElem? (i := 26) rfl))) (ty := (.array .byte)) (by decide)
      have F19_coder : Fld Z h19 b19 "java/lang/String" "coder" "B" (.int (0 : Int32)) := D19 (Or.inr (hw _ (List.mem_of_getElem? (i := 27) rfl))) (ty := .byte) (by decide)
      show own_Go p.tables e below _ (T19.setTop (mkF m 57 #[.val (.int px), .val (.int ((px &&& (3 : Int32)) % (3 : Int32))), .val (.int ((((px.toUInt32 >>> ((2 : Int32) &&& 31).toUInt32).toInt32) &&& (255 : Int32)).toUInt32.toUInt16.toUInt32.toInt32)), .val (.int ((((px.toUInt32 >>> ((10 : Int32) &&& 31).toUInt32).toInt32) &&& (255 : Int32)).toUInt32.toUInt16.toUInt32.toInt32)), .val (.ref b14)] [(.ref b19)]))
      refine own_up (fun _ k => XS.dup X19.here hx rfl (hb hby d_m_3_57) rfl rfl k) ?_
      show own_Go p.tables e below _ (T19.setTop (mkF m 58 #[.val (.int px), .val (.int ((px &&& (3 : Int32)) % (3 : Int32))), .val (.int ((((px.toUInt32 >>> ((2 : Int32) &&& 31).toUInt32).toInt32) &&& (255 : Int32)).toUInt32.toUInt16.toUInt32.toInt32)), .val (.int ((((px.toUInt32 >>> ((10 : Int32) &&& 31).toUInt32).toInt32) &&& (255 : Int32)).toUInt32.toUInt16.toUInt32.toInt32)), .val (.ref b14)] [(.ref b19), (.ref b19)]))
      refine own_up (fun _ k => XS.aload X19.here hx rfl (hb hby d_m_3_58) rfl rfl k) ?_
      show own_Go p.tables e below _ (T19.setTop (mkF m 60 #[.val (.int px), .val (.int ((px &&& (3 : Int32)) % (3 : Int32))), .val (.int ((((px.toUInt32 >>> ((2 : Int32) &&& 31).toUInt32).toInt32) &&& (255 : Int32)).toUInt32.toUInt16.toUInt32.toInt32)), .val (.int ((((px.toUInt32 >>> ((10 : Int32) &&& 31).toUInt32).toInt32) &&& (255 : Int32)).toUInt32.toUInt16.toUInt32.toInt32)), .val (.ref b14)] [(.ref b14), (.ref b19), (.ref b19)]))
      have hp : ∀ c ∈ ([(nar .char ((((px.toUInt32 >>> ((2 : Int32) &&& 31).toUInt32).toInt32) &&& (255 : Int32)).toUInt32.toUInt16.toUInt32.toInt32))] : List Int32), ¬ c < 0 ∧ ¬ (255 : Int32) < c := by
        intro c hc
        simp only [List.mem_cons, List.not_mem_nil, or_false] at hc
        rcases hc with rfl
        · exact own_chars _
      have f24 : n0 ≤ h19.size := (Nat.le_trans f20 E19.1)
      have f25 : Arv Z h19 b14 k14 .char (1 : Int32) [(.int (nar .char ((((px.toUInt32 >>> ((2 : Int32) &&& 31).toUInt32).toInt32) &&& (255 : Int32)).toUInt32.toUInt16.toUInt32.toInt32)))] (.int (0 : Int32)) := (V17.ext E19)
      have f26 : Old Z n0 h19 := (((O.ext E14).wr W17 ge14).ext E19)
      obtain ⟨_, _, ⟨T23, L23, k23, n23⟩, -, X23, ⟨Lc23, hQ23, l23, y23, z23⟩, st23⟩ := X19.specialBack hx (y := (⟨"java/lang/String", "<init>", "([C)V"⟩ : MethodName)) rfl hown (mvT hZ (hw _ (List.mem_of_getElem? (i := 14) rfl))) (mvT hZ (hw _ (List.mem_of_getElem? (i := 15) rfl))) (mvT hZ (hw _ (List.mem_of_getElem? (i := 16) rfl))) (by decide) (StrChars.Road.backV (W := 1) hZ hws (kI := 4) (hw _ (List.mem_of_getElem? (i := 11) rfl)) (cs := ([(nar .char ((((px.toUInt32 >>> ((2 : Int32) &&& 31).toUInt32).toInt32) &&& (255 : Int32)).toUInt32.toUInt16.toUInt32.toInt32))] : List Int32)) (bs := (([(nar .char ((((px.toUInt32 >>> ((2 : Int32) &&& 31).toUInt32).toInt32) &&& (255 : Int32)).toUInt32.toUInt16.toUInt32.toInt32))] : List Int32)).map (fun c => c.toInt8.toInt32)) (n := 1) ge19 f24 A19 F19_value F19_coder f25 (S1.ext f26.2) P5 rfl rfl (by decide) (by decide) hp rfl (by decide) (by decide)) (g := (mkF m 60 #[.val (.int px), .val (.int ((px &&& (3 : Int32)) % (3 : Int32))), .val (.int ((((px.toUInt32 >>> ((2 : Int32) &&& 31).toUInt32).toInt32) &&& (255 : Int32)).toUInt32.toUInt16.toUInt32.toInt32)), .val (.int ((((px.toUInt32 >>> ((10 : Int32) &&& 31).toUInt32).toInt32) &&& (255 : Int32)).toUInt32.toUInt16.toUInt32.toInt32)), .val (.ref b14)] [(.ref b14), (.ref b19), (.ref b19)])) rfl (by rw [hml]; rfl) (Steps.refl _) (a := b19) (argsL := [(.ref b14)]) (rest := [(.ref b19)]) (lenOf own_pd2 rfl) rfl (by show 2 * 0 + _ ≤ _; exact Nat.le_of_eq rfl) (hb hby d_m_3_60) (fun _ _ => ⟨rfl, e19, (by decide : 2 + 1 ≤ _), (by decide : 5 + 1 ≤ _)⟩)
      dsimp only [Pt.U, Pt.locs, Pt.cells, Pt.slots] at X23 l23 y23 z23 st23 hQ23
      subst l23 y23 z23
      obtain ⟨rfl, N23q, K23, Ex23, Co23, t23, kt23, gt23, sz23, nt23, Va23, Ar23⟩ := hQ23
      have N23 := Fr.app N17 N23q
      refine own_up (fun _ k => st23.trans k) ?_
      have nt23_0 : b14 ≠ t23 := Nat.ne_of_lt (Nat.lt_of_lt_of_le f25.lt sz23)
      have nt23_1 : b19 ≠ t23 := Nat.ne_of_lt (Nat.lt_of_lt_of_le A19.lt sz23)
      have f27 : h0.size ≤ h19.size := (Nat.le_trans f21 E19.1)
      have szz23 : h0.size ≤ t23 := Nat.le_trans f27 sz23
      have CR28 := CHr.trans CR22 (CHr.keep K23 (sfS (own_safe hZ.alike A19 F19_value) sf0) CR22.1)
      have hk28 := (Nat.le_trans hk22 K23.1)
      show own_Go p.tables e below _ (T23.setTop (mkF m 63 #[.val (.int px), .val (.int ((px &&& (3 : Int32)) % (3 : Int32))), .val (.int ((((px.toUInt32 >>> ((2 : Int32) &&& 31).toUInt32).toInt32) &&& (255 : Int32)).toUInt32.toUInt16.toUInt32.toInt32)), .val (.int ((((px.toUInt32 >>> ((10 : Int32) &&& 31).toUInt32).toInt32) &&& (255 : Int32)).toUInt32.toUInt16.toUInt32.toInt32)), .val (.ref b14)] [(.ref b19)]))
      have ecs : own_cs px = [(nar .char ((((px.toUInt32 >>> ((2 : Int32) &&& 31).toUInt32).toInt32) &&& (255 : Int32)).toUInt32.toUInt16.toUInt32.toInt32))] := (if_neg c0).trans (if_pos c1)
      exact own_endW X23 hlk hZ (own_EW hw) hS0 hk28 (v := some (.ref b19)) (fun h => by rw [Bd.returns] at h; cases h) (fun fs hr => retOut X23 hx Bd.returns rfl (Or.inr (Or.inr (Or.inr (Or.inr ⟨rfl, rfl, rfl⟩)))) (hb hby d_m_3_63) hr) rfl hh CR28 ⟨b19, t23, kt23, rfl, N23, (((((Keep.refl h0 []).ext E14).wr W17 (Or.inr sz14)).ext E19).trans K23 (allS (Or.inr sz19) all0)), sz19, Ex23, Co23, Va23, (by rw [ecs]; exact Ar23)⟩ (by decide) (by decide)
    ·
      refine own_up (fun _ k => XS.icmpYes X1.here hx rfl (pc0 := 41) (pc' := 64) rfl (hb hby d_m_3_41) rfl (feq c1).2 (by decide) (by decide) k) ?_
      show own_Go p.tables e below _ (T1.setTop (mkF m 64 #[.val (.int px), .val (.int ((px &&& (3 : Int32)) % (3 : Int32))), .val (.int ((((px.toUInt32 >>> ((2 : Int32) &&& 31).toUInt32).toInt32) &&& (255 : Int32)).toUInt32.toUInt16.toUInt32.toInt32)), .val (.int ((((px.toUInt32 >>> ((10 : Int32) &&& 31).toUInt32).toInt32) &&& (255 : Int32)).toUInt32.toUInt16.toUInt32.toInt32)), .unset] []))
      refine own_up (fun _ k => XS.iconst X1.here hx rfl (hb hby d_m_3_64) k) ?_
      show own_Go p.tables e below _ (T1.setTop (mkF m 65 #[.val (.int px), .val (.int ((px &&& (3 : Int32)) % (3 : Int32))), .val (.int ((((px.toUInt32 >>> ((2 : Int32) &&& 31).toUInt32).toInt32) &&& (255 : Int32)).toUInt32.toUInt16.toUInt32.toInt32)), .val (.int ((((px.toUInt32 >>> ((10 : Int32) &&& 31).toUInt32).toInt32) &&& (255 : Int32)).toUInt32.toUInt16.toUInt32.toInt32)), .unset] [(.int (2 : Int32))]))
      obtain ⟨T29, h29, k29, X29, e29, E29, A29, st29⟩ := newP X1 hx hZ (hw _ (List.mem_of_getElem? (i := 13) rfl)) eq1 (g := (mkF m 65 #[.val (.int px), .val (.int ((px &&& (3 : Int32)) % (3 : Int32))), .val (.int ((((px.toUInt32 >>> ((2 : Int32) &&& 31).toUInt32).toInt32) &&& (255 : Int32)).toUInt32.toUInt16.toUInt32.toInt32)), .val (.int ((((px.toUInt32 >>> ((10 : Int32) &&& 31).toUInt32).toInt32) &&& (255 : Int32)).toUInt32.toUInt16.toUInt32.toInt32)), .unset] [(.int (2 : Int32))])) rfl (hb hby d_m_3_65) rfl (by decide) (cap := 2) (by decide) (by decide) (by decide) (by decide)
      obtain ⟨b29, g29⟩ : ∃ z, z = h0.size := ⟨_, rfl⟩
      rw [← g29] at A29 st29
      have ge29 : n0 ≤ b29 := Nat.le_trans Z0 (Nat.le_of_eq g29.symm)
      have sz29 : h0.size ≤ b29 := Nat.le_trans (Nat.le_refl _) (Nat.le_of_eq g29.symm)
      have CR30 := CHr.trans CR0 (CHr.ext E29 CR0.1)
      have hk30 := (Nat.le_trans hk0 E29.1)
      refine own_up st29 ?_
      have V29 : Arv Z h29 b29 k29 .char (2 : Int32) [(.int (0 : Int32)), (.int (0 : Int32))] (.int (0 : Int32)) := (Arv.new A29 (by decide)).pad (pad_rep [] (.int (0 : Int32)) 2)
      show own_Go p.tables e below _ (T29.setTop (mkF m 67 #[.val (.int px), .val (.int ((px &&& (3 : Int32)) % (3 : Int32))), .val (.int ((((px.toUInt32 >>> ((2 : Int32) &&& 31).toUInt32).toInt32) &&& (255 : Int32)).toUInt32.toUInt16.toUInt32.toInt32)), .val (.int ((((px.toUInt32 >>> ((10 : Int32) &&& 31).toUInt32).toInt32) &&& (255 : Int32)).toUInt32.toUInt16.toUInt32.toInt32)), .unset] [(.ref b29)]))
      refine own_up (fun _ k => XS.astore X29.here hx rfl (hb hby d_m_3_67) rfl rfl (l' := #[.val (.int px), .val (.int ((px &&& (3 : Int32)) % (3 : Int32))), .val (.int ((((px.toUInt32 >>> ((2 : Int32) &&& 31).toUInt32).toInt32) &&& (255 : Int32)).toUInt32.toUInt16.toUInt32.toInt32)), .val (.int ((((px.toUInt32 >>> ((10 : Int32) &&& 31).toUInt32).toInt32) &&& (255 : Int32)).toUInt32.toUInt16.toUInt32.toInt32)), .val (.ref b29)]) rfl k) ?_
      show own_Go p.tables e below _ (T29.setTop (mkF m 69 #[.val (.int px), .val (.int ((px &&& (3 : Int32)) % (3 : Int32))), .val (.int ((((px.toUInt32 >>> ((2 : Int32) &&& 31).toUInt32).toInt32) &&& (255 : Int32)).toUInt32.toUInt16.toUInt32.toInt32)), .val (.int ((((px.toUInt32 >>> ((10 : Int32) &&& 31).toUInt32).toInt32) &&& (255 : Int32)).toUInt32.toUInt16.toUInt32.toInt32)), .val (.ref b29)] []))
      refine own_up (fun _ k => XS.aload X29.here hx rfl (hb hby d_m_3_69) rfl rfl k) ?_
      show own_Go p.tables e below _ (T29.setTop (mkF m 71 #[.val (.int px), .val (.int ((px &&& (3 : Int32)) % (3 : Int32))), .val (.int ((((px.toUInt32 >>> ((2 : Int32) &&& 31).toUInt32).toInt32) &&& (255 : Int32)).toUInt32.toUInt16.toUInt32.toInt32)), .val (.int ((((px.toUInt32 >>> ((10 : Int32) &&& 31).toUInt32).toInt32) &&& (255 : Int32)).toUInt32.toUInt16.toUInt32.toInt32)), .val (.ref b29)] [(.ref b29)]))
      refine own_up (fun _ k => XS.iconst X29.here hx rfl (hb hby d_m_3_71) k) ?_
      show own_Go p.tables e below _ (T29.setTop (mkF m 72 #[.val (.int px), .val (.int ((px &&& (3 : Int32)) % (3 : Int32))), .val (.int ((((px.toUInt32 >>> ((2 : Int32) &&& 31).toUInt32).toInt32) &&& (255 : Int32)).toUInt32.toUInt16.toUInt32.toInt32)), .val (.int ((((px.toUInt32 >>> ((10 : Int32) &&& 31).toUInt32).toInt32) &&& (255 : Int32)).toUInt32.toUInt16.toUInt32.toInt32)), .val (.ref b29)] [(.int (0 : Int32)), (.ref b29)]))
      refine own_up (fun _ k => XS.iloadN X29.here hx rfl (hb hby d_m_3_72) rfl k) ?_
      show own_Go p.tables e below _ (T29.setTop (mkF m 73 #[.val (.int px), .val (.int ((px &&& (3 : Int32)) % (3 : Int32))), .val (.int ((((px.toUInt32 >>> ((2 : Int32) &&& 31).toUInt32).toInt32) &&& (255 : Int32)).toUInt32.toUInt16.toUInt32.toInt32)), .val (.int ((((px.toUInt32 >>> ((10 : Int32) &&& 31).toUInt32).toInt32) &&& (255 : Int32)).toUInt32.toUInt16.toUInt32.toInt32)), .val (.ref b29)] [(.int ((((px.toUInt32 >>> ((2 : Int32) &&& 31).toUInt32).toInt32) &&& (255 : Int32)).toUInt32.toUInt16.toUInt32.toInt32)), (.int (0 : Int32)), (.ref b29)]))
      obtain ⟨cl31_, Ar31, q31, S31, M31, Hs31, G31⟩ := id (V29)
      have hin32 : ¬ ((0 : Int32) < 0 ∨ cl31_.slots.size ≤ ((0 : Int32)).toNatClampNeg) := inb_of S31 ⟨by decide, by decide⟩
      obtain ⟨T32, h32, X32, e32, W32, st32⟩ := stC X29 hx hZ e29 Ar31 (j := (0 : Int32)) hin32 (g := (mkF m 73 #[.val (.int px), .val (.int ((px &&& (3 : Int32)) % (3 : Int32))), .val (.int ((((px.toUInt32 >>> ((2 : Int32) &&& 31).toUInt32).toInt32) &&& (255 : Int32)).toUInt32.toUInt16.toUInt32.toInt32)), .val (.int ((((px.toUInt32 >>> ((10 : Int32) &&& 31).toUInt32).toInt32) &&& (255 : Int32)).toUInt32.toUInt16.toUInt32.toInt32)), .val (.ref b29)] [(.int ((((px.toUInt32 >>> ((2 : Int32) &&& 31).toUInt32).toInt32) &&& (255 : Int32)).toUInt32.toUInt16.toUInt32.toInt32)), (.int (0 : Int32)), (.ref b29)])) rfl rfl (hb hby d_m_3_73)
      have V32 : Arv Z h32 b29 k29 .char (2 : Int32) [(.int (nar .char ((((px.toUInt32 >>> ((2 : Int32) &&& 31).toUInt32).toInt32) &&& (255 : Int32)).toUInt32.toUInt16.toUInt32.toInt32))), (.int (0 : Int32))] (.int (0 : Int32)) := Arv.set Ar31 q31 S31 M31 Hs31 G31 (fits_nar_char _) W32 0 rfl (Nat.le_of_ble_eq_true rfl)
      have N32 := Fr.snoc X32 N1 ge29
      have CR33 := CHr.trans CR30 (CHr.wr W32 (Safe.arv hZ.alike V29 (by decide)) CR30.1)
      have hk33 := (Nat.le_trans hk30 (Nat.le_of_eq (Wr.size W32).symm))
      refine own_up st32 ?_
      show own_Go p.tables e below _ (T32.setTop (mkF m 74 #[.val (.int px), .val (.int ((px &&& (3 : Int32)) % (3 : Int32))), .val (.int ((((px.toUInt32 >>> ((2 : Int32) &&& 31).toUInt32).toInt32) &&& (255 : Int32)).toUInt32.toUInt16.toUInt32.toInt32)), .val (.int ((((px.toUInt32 >>> ((10 : Int32) &&& 31).toUInt32).toInt32) &&& (255 : Int32)).toUInt32.toUInt16.toUInt32.toInt32)), .val (.ref b29)] []))
      refine own_up (fun _ k => XS.aload X32.here hx rfl (hb hby d_m_3_74) rfl rfl k) ?_
      show own_Go p.tables e below _ (T32.setTop (mkF m 76 #[.val (.int px), .val (.int ((px &&& (3 : Int32)) % (3 : Int32))), .val (.int ((((px.toUInt32 >>> ((2 : Int32) &&& 31).toUInt32).toInt32) &&& (255 : Int32)).toUInt32.toUInt16.toUInt32.toInt32)), .val (.int ((((px.toUInt32 >>> ((10 : Int32) &&& 31).toUInt32).toInt32) &&& (255 : Int32)).toUInt32.toUInt16.toUInt32.toInt32)), .val (.ref b29)] [(.ref b29)]))
      refine own_up (fun _ k => XS.iconst X32.here hx rfl (hb hby d_m_3_76) k) ?_
      show own_Go p.tables e below _ (T32.setTop (mkF m 77 #[.val (.int px), .val (.int ((px &&& (3 : Int32)) % (3 : Int32))), .val (.int ((((px.toUInt32 >>> ((2 : Int32) &&& 31).toUInt32).toInt32) &&& (255 : Int32)).toUInt32.toUInt16.toUInt32.toInt32)), .val (.int ((((px.toUInt32 >>> ((10 : Int32) &&& 31).toUInt32).toInt32) &&& (255 : Int32)).toUInt32.toUInt16.toUInt32.toInt32)), .val (.ref b29)] [(.int (1 : Int32)), (.ref b29)]))
      refine own_up (fun _ k => XS.iloadN X32.here hx rfl (hb hby d_m_3_77) rfl k) ?_
      show own_Go p.tables e below _ (T32.setTop (mkF m 78 #[.val (.int px), .val (.int ((px &&& (3 : Int32)) % (3 : Int32))), .val (.int ((((px.toUInt32 >>> ((2 : Int32) &&& 31).toUInt32).toInt32) &&& (255 : Int32)).toUInt32.toUInt16.toUInt32.toInt32)), .val (.int ((((px.toUInt32 >>> ((10 : Int32) &&& 31).toUInt32).toInt32) &&& (255 : Int32)).toUInt32.toUInt16.toUInt32.toInt32)), .val (.ref b29)] [(.int ((((px.toUInt32 >>> ((10 : Int32) &&& 31).toUInt32).toInt32) &&& (255 : Int32)).toUInt32.toUInt16.toUInt32.toInt32)), (.int (1 : Int32)), (.ref b29)]))
      obtain ⟨cl34_, Ar34, q34, S34, M34, Hs34, G34⟩ := id (V32)
      have hin35 : ¬ ((1 : Int32) < 0 ∨ cl34_.slots.size ≤ ((1 : Int32)).toNatClampNeg) := inb_of S34 ⟨by decide, by decide⟩
      obtain ⟨T35, h35, X35, e35, W35, st35⟩ := stC X32 hx hZ e32 Ar34 (j := (1 : Int32)) hin35 (g := (mkF m 78 #[.val (.int px), .val (.int ((px &&& (3 : Int32)) % (3 : Int32))), .val (.int ((((px.toUInt32 >>> ((2 : Int32) &&& 31).toUInt32).toInt32) &&& (255 : Int32)).toUInt32.toUInt16.toUInt32.toInt32)), .val (.int ((((px.toUInt32 >>> ((10 : Int32) &&& 31).toUInt32).toInt32) &&& (255 : Int32)).toUInt32.toUInt16.toUInt32.toInt32)), .val (.ref b29)] [(.int ((((px.toUInt32 >>> ((10 : Int32) &&& 31).toUInt32).toInt32) &&& (255 : Int32)).toUInt32.toUInt16.toUInt32.toInt32)), (.int (1 : Int32)), (.ref b29)])) rfl rfl (hb hby d_m_3_78)
      have V35 : Arv Z h35 b29 k29 .char (2 : Int32) [(.int (nar .char ((((px.toUInt32 >>> ((2 : Int32) &&& 31).toUInt32).toInt32) &&& (255 : Int32)).toUInt32.toUInt16.toUInt32.toInt32))), (.int (nar .char ((((px.toUInt32 >>> ((10 : Int32) &&& 31).toUInt32).toInt32) &&& (255 : Int32)).toUInt32.toUInt16.toUInt32.toInt32)))] (.int (0 : Int32)) := Arv.set Ar34 q34 S34 M34 Hs34 G34 (fits_nar_char _) W35 1 rfl (Nat.le_of_ble_eq_true rfl)
      have N35 := Fr.snoc X35 N32 ge29
      have CR36 := CHr.trans CR33 (CHr.wr W35 (Safe.arv hZ.alike V32 (by decide)) CR33.1)
      have hk36 := (Nat.le_trans hk33 (Nat.le_of_eq (Wr.size W35).symm))
      refine own_up st35 ?_
      show own_Go p.tables e below _ (T35.setTop (mkF m 79 #[.val (.int px), .val (.int ((px &&& (3 : Int32)) % (3 : Int32))), .val (.int ((((px.toUInt32 >>> ((2 : Int32) &&& 31).toUInt32).toInt32) &&& (255 : Int32)).toUInt32.toUInt16.toUInt32.toInt32)), .val (.int ((((px.toUInt32 >>> ((10 : Int32) &&& 31).toUInt32).toInt32) &&& (255 : Int32)).toUInt32.toUInt16.toUInt32.toInt32)), .val (.ref b29)] []))
      obtain ⟨T37, h37, X37, e37, E37, A37, D37, -, st37⟩ := newO X35 hx hZ hown (hw _ (List.mem_of_getElem? (i := 10) rfl)) (hw _ (List.mem_of_getElem? (i := 11) rfl)) (hw _ (List.mem_of_getElem? (i := 12) rfl)) e35 (g := (mkF m 79 #[.val (.int px), .val (.int ((px &&& (3 : Int32)) % (3 : Int32))), .val (.int ((((px.toUInt32 >>> ((2 : Int32) &&& 31).toUInt32).toInt32) &&& (255 : Int32)).toUInt32.toUInt16.toUInt32.toInt32)), .val (.int ((((px.toUInt32 >>> ((10 : Int32) &&& 31).toUInt32).toInt32) &&& (255 : Int32)).toUInt32.toUInt16.toUInt32.toInt32)), .val (.ref b29)] [])) rfl (hb hby d_m_3_79) (by decide) (by decide)
      have f38 : n0 ≤ h35.size := (Nat.le_trans (Nat.le_trans (Nat.le_trans Z0 E29.1) (Nat.le_of_eq (Wr.size W32).symm)) (Nat.le_of_eq (Wr.size W35).symm))
      have f39 : h0.size ≤ h35.size := (Nat.le_trans (Nat.le_trans (Nat.le_trans (Nat.le_refl _) E29.1) (Nat.le_of_eq (Wr.size W32).symm)) (Nat.le_of_eq (Wr.size W35).symm))
      obtain ⟨b37, g37⟩ : ∃ z, z = h35.size := ⟨_, rfl⟩
      rw [← g37] at A37 D37 st37
      have ge37 : n0 ≤ b37 := Nat.le_trans f38 (Nat.le_of_eq g37.symm)
      have ne37_0 : b29 ≠ b37 := Nat.ne_of_lt (Nat.lt_of_lt_of_le V35.lt (Nat.le_of_eq g37.symm))
      have sz37 : h0.size ≤ b37 := Nat.le_trans f39 (Nat.le_of_eq g37.symm)
      have CR40 := CHr.trans CR36 (CHr.ext E37 CR36.1)
      have hk40 := (Nat.le_trans hk36 E37.1)
      refine own_up st37 ?_
      have F37_value : Fld Z h37 b37 "java/lang/String" "value" "[B" .null := D37 (Or.inr (hw _ (List.mem_of_getElem? (i := 26) rfl))) (ty := (.array .byte)) (by decide)
      have F37_coder : Fld Z h37 b37 "java/lang/String" "coder" "B" (.int (0 : Int32)) := D37 (Or.inr (hw _ (List.mem_of_getElem? (i := 27) rfl))) (ty := .byte) (by decide)
      show own_Go p.tables e below _ (T37.setTop (mkF m 82 #[.val (.int px), .val (.int ((px &&& (3 : Int32)) % (3 : Int32))), .val (.int ((((px.toUInt32 >>> ((2 : Int32) &&& 31).toUInt32).toInt32) &&& (255 : Int32)).toUInt32.toUInt16.toUInt32.toInt32)), .val (.int ((((px.toUInt32 >>> ((10 : Int32) &&& 31).toUInt32).toInt32) &&& (255 : Int32)).toUInt32.toUInt16.toUInt32.toInt32)), .val (.ref b29)] [(.ref b37)]))
      refine own_up (fun _ k => XS.dup X37.here hx rfl (hb hby d_m_3_82) rfl rfl k) ?_
      show own_Go p.tables e below _ (T37.setTop (mkF m 83 #[.val (.int px), .val (.int ((px &&& (3 : Int32)) % (3 : Int32))), .val (.int ((((px.toUInt32 >>> ((2 : Int32) &&& 31).toUInt32).toInt32) &&& (255 : Int32)).toUInt32.toUInt16.toUInt32.toInt32)), .val (.int ((((px.toUInt32 >>> ((10 : Int32) &&& 31).toUInt32).toInt32) &&& (255 : Int32)).toUInt32.toUInt16.toUInt32.toInt32)), .val (.ref b29)] [(.ref b37), (.ref b37)]))
      refine own_up (fun _ k => XS.aload X37.here hx rfl (hb hby d_m_3_83) rfl rfl k) ?_
      show own_Go p.tables e below _ (T37.setTop (mkF m 85 #[.val (.int px), .val (.int ((px &&& (3 : Int32)) % (3 : Int32))), .val (.int ((((px.toUInt32 >>> ((2 : Int32) &&& 31).toUInt32).toInt32) &&& (255 : Int32)).toUInt32.toUInt16.toUInt32.toInt32)), .val (.int ((((px.toUInt32 >>> ((10 : Int32) &&& 31).toUInt32).toInt32) &&& (255 : Int32)).toUInt32.toUInt16.toUInt32.toInt32)), .val (.ref b29)] [(.ref b29), (.ref b37), (.ref b37)]))
      have hp : ∀ c ∈ ([(nar .char ((((px.toUInt32 >>> ((2 : Int32) &&& 31).toUInt32).toInt32) &&& (255 : Int32)).toUInt32.toUInt16.toUInt32.toInt32)), (nar .char ((((px.toUInt32 >>> ((10 : Int32) &&& 31).toUInt32).toInt32) &&& (255 : Int32)).toUInt32.toUInt16.toUInt32.toInt32))] : List Int32), ¬ c < 0 ∧ ¬ (255 : Int32) < c := by
        intro c hc
        simp only [List.mem_cons, List.not_mem_nil, or_false] at hc
        rcases hc with rfl | rfl
        · exact own_chars _
        · exact own_chars _
      have f42 : n0 ≤ h37.size := (Nat.le_trans f38 E37.1)
      have f43 : Arv Z h37 b29 k29 .char (2 : Int32) [(.int (nar .char ((((px.toUInt32 >>> ((2 : Int32) &&& 31).toUInt32).toInt32) &&& (255 : Int32)).toUInt32.toUInt16.toUInt32.toInt32))), (.int (nar .char ((((px.toUInt32 >>> ((10 : Int32) &&& 31).toUInt32).toInt32) &&& (255 : Int32)).toUInt32.toUInt16.toUInt32.toInt32)))] (.int (0 : Int32)) := (V35.ext E37)
      have f44 : Old Z n0 h37 := ((((O.ext E29).wr W32 ge29).wr W35 ge29).ext E37)
      obtain ⟨_, _, ⟨T41, L41, k41, n41⟩, -, X41, ⟨Lc41, hQ41, l41, y41, z41⟩, st41⟩ := X37.specialBack hx (y := (⟨"java/lang/String", "<init>", "([C)V"⟩ : MethodName)) rfl hown (mvT hZ (hw _ (List.mem_of_getElem? (i := 14) rfl))) (mvT hZ (hw _ (List.mem_of_getElem? (i := 15) rfl))) (mvT hZ (hw _ (List.mem_of_getElem? (i := 16) rfl))) (by decide) (StrChars.Road.backV (W := 1) hZ hws (kI := 4) (hw _ (List.mem_of_getElem? (i := 11) rfl)) (cs := ([(nar .char ((((px.toUInt32 >>> ((2 : Int32) &&& 31).toUInt32).toInt32) &&& (255 : Int32)).toUInt32.toUInt16.toUInt32.toInt32)), (nar .char ((((px.toUInt32 >>> ((10 : Int32) &&& 31).toUInt32).toInt32) &&& (255 : Int32)).toUInt32.toUInt16.toUInt32.toInt32))] : List Int32)) (bs := (([(nar .char ((((px.toUInt32 >>> ((2 : Int32) &&& 31).toUInt32).toInt32) &&& (255 : Int32)).toUInt32.toUInt16.toUInt32.toInt32)), (nar .char ((((px.toUInt32 >>> ((10 : Int32) &&& 31).toUInt32).toInt32) &&& (255 : Int32)).toUInt32.toUInt16.toUInt32.toInt32))] : List Int32)).map (fun c => c.toInt8.toInt32)) (n := 2) ge37 f42 A37 F37_value F37_coder f43 (S1.ext f44.2) P5 rfl rfl (by decide) (by decide) hp rfl (by decide) (by decide)) (g := (mkF m 85 #[.val (.int px), .val (.int ((px &&& (3 : Int32)) % (3 : Int32))), .val (.int ((((px.toUInt32 >>> ((2 : Int32) &&& 31).toUInt32).toInt32) &&& (255 : Int32)).toUInt32.toUInt16.toUInt32.toInt32)), .val (.int ((((px.toUInt32 >>> ((10 : Int32) &&& 31).toUInt32).toInt32) &&& (255 : Int32)).toUInt32.toUInt16.toUInt32.toInt32)), .val (.ref b29)] [(.ref b29), (.ref b37), (.ref b37)])) rfl (by rw [hml]; rfl) (Steps.refl _) (a := b37) (argsL := [(.ref b29)]) (rest := [(.ref b37)]) (lenOf own_pd2 rfl) rfl (by show 2 * 0 + _ ≤ _; exact Nat.le_of_eq rfl) (hb hby d_m_3_85) (fun _ _ => ⟨rfl, e37, (by decide : 2 + 1 ≤ _), (by decide : 6 + 2 ≤ _)⟩)
      dsimp only [Pt.U, Pt.locs, Pt.cells, Pt.slots] at X41 l41 y41 z41 st41 hQ41
      subst l41 y41 z41
      obtain ⟨rfl, N41q, K41, Ex41, Co41, t41, kt41, gt41, sz41, nt41, Va41, Ar41⟩ := hQ41
      have N41 := Fr.app N35 N41q
      refine own_up (fun _ k => st41.trans k) ?_
      have nt41_0 : b29 ≠ t41 := Nat.ne_of_lt (Nat.lt_of_lt_of_le f43.lt sz41)
      have nt41_1 : b37 ≠ t41 := Nat.ne_of_lt (Nat.lt_of_lt_of_le A37.lt sz41)
      have f45 : h0.size ≤ h37.size := (Nat.le_trans f39 E37.1)
      have szz41 : h0.size ≤ t41 := Nat.le_trans f45 sz41
      have CR46 := CHr.trans CR40 (CHr.keep K41 (sfS (own_safe hZ.alike A37 F37_value) sf0) CR40.1)
      have hk46 := (Nat.le_trans hk40 K41.1)
      show own_Go p.tables e below _ (T41.setTop (mkF m 88 #[.val (.int px), .val (.int ((px &&& (3 : Int32)) % (3 : Int32))), .val (.int ((((px.toUInt32 >>> ((2 : Int32) &&& 31).toUInt32).toInt32) &&& (255 : Int32)).toUInt32.toUInt16.toUInt32.toInt32)), .val (.int ((((px.toUInt32 >>> ((10 : Int32) &&& 31).toUInt32).toInt32) &&& (255 : Int32)).toUInt32.toUInt16.toUInt32.toInt32)), .val (.ref b29)] [(.ref b37)]))
      have ecs : own_cs px = [(nar .char ((((px.toUInt32 >>> ((2 : Int32) &&& 31).toUInt32).toInt32) &&& (255 : Int32)).toUInt32.toUInt16.toUInt32.toInt32)), (nar .char ((((px.toUInt32 >>> ((10 : Int32) &&& 31).toUInt32).toInt32) &&& (255 : Int32)).toUInt32.toUInt16.toUInt32.toInt32))] := (if_neg c0).trans (if_neg c1)
      exact own_endW X41 hlk hZ (own_EW hw) hS0 hk46 (v := some (.ref b37)) (fun h => by rw [Bd.returns] at h; cases h) (fun fs hr => retOut X41 hx Bd.returns rfl (Or.inr (Or.inr (Or.inr (Or.inr ⟨rfl, rfl, rfl⟩)))) (hb hby d_m_3_88) hr) rfl hh CR46 ⟨b37, t41, kt41, rfl, N41, ((((((Keep.refl h0 []).ext E29).wr W32 (Or.inr sz29)).wr W35 (Or.inr sz29)).ext E37).trans K41 (allS (Or.inr sz37) all0)), sz37, Ex41, Co41, Va41, (by rw [ecs]; exact Ar41)⟩ (by decide) (by decide)
theorem d_m_4_0 : decode method_4_code 0 = .ok (.iload_n 0, 1) := by decide +kernel
theorem d_m_4_1 : decode method_4_code 1 = .ok (.invokestatic 7, 3) := by decide +kernel
theorem d_m_4_4 : decode method_4_code 4 = .ok (.istore_n 1, 1) := by decide +kernel
theorem d_m_4_5 : decode method_4_code 5 = .ok (.iload_n 1, 1) := by decide +kernel
theorem d_m_4_6 : decode method_4_code 6 = .ok (.istore_n 2, 1) := by decide +kernel
theorem d_m_4_7 : decode method_4_code 7 = .ok (.iload_n 1, 1) := by decide +kernel
theorem d_m_4_8 : decode method_4_code 8 = .ok (.iconst 1, 1) := by decide +kernel
theorem d_m_4_9 : decode method_4_code 9 = .ok (.if_icmp .lt 15, 3) := by decide +kernel
theorem d_m_4_24 : decode method_4_code 24 = .ok (.iload_n 1, 1) := by decide +kernel
theorem d_m_4_25 : decode method_4_code 25 = .ok (.iconst 2, 1) := by decide +kernel
theorem d_m_4_26 : decode method_4_code 26 = .ok (.if_icmp .lt 17, 3) := by decide +kernel
theorem d_m_4_43 : decode method_4_code 43 = .ok (.iload_n 2, 1) := by decide +kernel
theorem d_m_4_44 : decode method_4_code 44 = .ok (.ireturn, 1) := by decide +kernel
theorem d_m_4_29 : decode method_4_code 29 = .ok (.iload_n 2, 1) := by decide +kernel
theorem d_m_4_30 : decode method_4_code 30 = .ok (.iload_n 0, 1) := by decide +kernel
theorem d_m_4_31 : decode method_4_code 31 = .ok (.bipush 10, 2) := by decide +kernel
theorem d_m_4_33 : decode method_4_code 33 = .ok (.iushr, 1) := by decide +kernel
theorem d_m_4_34 : decode method_4_code 34 = .ok (.sipush 255, 3) := by decide +kernel
theorem d_m_4_37 : decode method_4_code 37 = .ok (.iand, 1) := by decide +kernel
theorem d_m_4_38 : decode method_4_code 38 = .ok (.bipush 10, 2) := by decide +kernel
theorem d_m_4_40 : decode method_4_code 40 = .ok (.ishl, 1) := by decide +kernel
theorem d_m_4_41 : decode method_4_code 41 = .ok (.ior, 1) := by decide +kernel
theorem d_m_4_42 : decode method_4_code 42 = .ok (.istore_n 2, 1) := by decide +kernel
theorem d_m_4_12 : decode method_4_code 12 = .ok (.iload_n 2, 1) := by decide +kernel
theorem d_m_4_13 : decode method_4_code 13 = .ok (.iload_n 0, 1) := by decide +kernel
theorem d_m_4_14 : decode method_4_code 14 = .ok (.iconst 2, 1) := by decide +kernel
theorem d_m_4_15 : decode method_4_code 15 = .ok (.iushr, 1) := by decide +kernel
theorem d_m_4_16 : decode method_4_code 16 = .ok (.sipush 255, 3) := by decide +kernel
theorem d_m_4_19 : decode method_4_code 19 = .ok (.iand, 1) := by decide +kernel
theorem d_m_4_20 : decode method_4_code 20 = .ok (.iconst 2, 1) := by decide +kernel
theorem d_m_4_21 : decode method_4_code 21 = .ok (.ishl, 1) := by decide +kernel
theorem d_m_4_22 : decode method_4_code 22 = .ok (.ior, 1) := by decide +kernel
theorem d_m_4_23 : decode method_4_code 23 = .ok (.istore_n 2, 1) := by decide +kernel
theorem ef_rmKey (m : MethodId) (y0 : Int32) : entryFrame m #[(.int y0)] 3 = mkF m 0 #[.val (.int y0), .unset, .unset] [] := by first | (simp [entryFrame, mkF, argsToLocals, Value.category]; done) | rfl
def Q_rmKey (Z : State) (px : Int32) (h0 : Heap) (n0 : Nat) (v : Option Value) (h : Heap) (L : List Loc) : Prop := v = some (.int (own_key px)) ∧ Fr n0 L ∧ h = h0
set_option maxRecDepth 65536 in
set_option maxHeartbeats 40000000 in
theorem rmKey (l : Launch) (Z : State) (a0 : Array Value) (hw : ∀ d ∈ tables_1, d.before a0 Z = true) (ws : List Jvm.Cond) (px : Int32) (h0 : Heap) (n0 : Nat) (Z0 : n0 ≤ h0.size) :
    MetFree l (⟨"com/example/hintikka/hintikka/ontology/FeatureValueEqualsPinLaw", "key", "(I)I"⟩ : MethodName) (head1 (Jvm.Cond.code (⟨"com/example/hintikka/hintikka/ontology/FeatureValueEqualsPinLaw", "key", "(I)I"⟩ : MethodName) method_4_code 3 (some .int) :: ws) ({ frames := 1, cells := 0, slots := 0, locals := 12 } : Room)) (fun ar U => ar = #[(.int px)] ∧ Z.Warmed39 U.vm ∧ U.heap = h0) (fun _ _ _ _ _ => True) (fun _ U o U' => ∃ v L, o = .returned v ∧ Q_rmKey Z px h0 n0 v U'.heap L ∧ FrameEnd U o U' L ({ frames := 1, cells := 0, slots := 0, locals := 12 } : Room).cells ({ frames := 1, cells := 0, slots := 0, locals := 12 } : Room).slots) := by
  refine MetFree.of_bodySF (plainFor_of_name own_pn1) hisR ?_
  intro p e s m args below meth c s₁ Bd hml0 hP hK
  obtain ⟨rfl, hZ, hh⟩ := hP
  have hx := Bd.exec
  have hby := Bd.bytes
  have hlk : meth.locks = false := BodyLoose.notSynchronized Bd
  have hml : c.maxLocals = 3 := hml0
  have hown : s.vm.findClass "com/example/hintikka/hintikka/ontology/FeatureValueEqualsPinLaw" = some m.cls := findClass_of_methodNamed Bd.named
  have hnm := (name_of_methodNamed Bd.named Bd.method).1
  have X0 : Stand p l e ({ frames := 1, cells := 0, slots := 0, locals := 12 } : Room) s m #[(.int px)] below meth c s₁ [] 0 0 := Stand.of_body Bd
  have e0 : s₁.heap = h0 := by rw [← hh, Bd.state]; rfl
  have N0 := Fr.nil n0
  show own_Go p.tables e below (fun u o => ∃ v L, o = .returned v ∧ Q_rmKey Z px h0 n0 v u.heap L ∧ FrameEnd s o u L ({ frames := 1, cells := 0, slots := 0, locals := 12 } : Room).cells ({ frames := 1, cells := 0, slots := 0, locals := 12 } : Room).slots) (s₁.setTop (entryFrame m #[(.int px)] 3))
  refine own_up (fun _ k => castTop (ef_rmKey m px) k) ?_
  show own_Go p.tables e below _ (s₁.setTop (mkF m 0 #[.val (.int px), .unset, .unset] []))
  refine own_up (fun _ k => XS.iloadN X0.here hx rfl (hb hby d_m_4_0) rfl k) ?_
  show own_Go p.tables e below _ (s₁.setTop (mkF m 1 #[.val (.int px), .unset, .unset] [(.int px)]))
  obtain ⟨_, _, ⟨T1, L1, k1, n1⟩, -, X1, ⟨Lc1, hQ1, l1, y1, z1⟩, st1⟩ := Jvm.LawKit.callS X0 hx (y := (⟨"com/example/hintikka/hintikka/ontology/FeatureValueEqualsPinLaw", "len", "(I)I"⟩ : MethodName)) hown (mvT hZ (hw _ (List.mem_of_getElem? (i := 7) rfl))) (mvT hZ (hw _ (List.mem_of_getElem? (i := 8) rfl))) (mvT hZ (hw _ (List.mem_of_getElem? (i := 5) rfl))) (mvT hZ (hw _ (List.mem_of_getElem? (i := 9) rfl))) (by decide) (backOf (W := 0) (rmLen l Z a0 hw [] px h0 n0 Z0 ) hZ (hw _ (List.mem_of_getElem? (i := 9) rfl)) (hw _ (List.mem_of_getElem? (i := 5) rfl)) (by decide) (by decide)) (g := (mkF m 1 #[.val (.int px), .unset, .unset] [(.int px)])) rfl (by rw [hml]; rfl) (argsL := [(.int px)]) (rest := []) (lenOf own_pd1 rfl) rfl (by show 2 * 0 + _ ≤ _; exact Nat.le_of_eq rfl) (hb hby d_m_4_1) (fun _ _ => ⟨rfl, e0, (by decide : 0 + 0 ≤ _), (by decide : 0 + 0 ≤ _)⟩)
  dsimp only [Pt.U, Pt.locs, Pt.cells, Pt.slots] at X1 l1 y1 z1 st1 hQ1
  subst l1 y1 z1
  obtain ⟨rfl, N1q, eq1⟩ := hQ1
  have N1 := Fr.app N0 N1q
  refine own_up (fun _ k => st1 _ k) ?_
  show own_Go p.tables e below _ (T1.setTop (mkF m 4 #[.val (.int px), .unset, .unset] [(.int ((px &&& (3 : Int32)) % (3 : Int32)))]))
  refine own_up (fun _ k => XS.istoreN X1.here hx rfl (hb hby d_m_4_4) rfl (l' := #[.val (.int px), .val (.int ((px &&& (3 : Int32)) % (3 : Int32))), .unset]) rfl k) ?_
  show own_Go p.tables e below _ (T1.setTop (mkF m 5 #[.val (.int px), .val (.int ((px &&& (3 : Int32)) % (3 : Int32))), .unset] []))
  refine own_up (fun _ k => XS.iloadN X1.here hx rfl (hb hby d_m_4_5) rfl k) ?_
  show own_Go p.tables e below _ (T1.setTop (mkF m 6 #[.val (.int px), .val (.int ((px &&& (3 : Int32)) % (3 : Int32))), .unset] [(.int ((px &&& (3 : Int32)) % (3 : Int32)))]))
  refine own_up (fun _ k => XS.istoreN X1.here hx rfl (hb hby d_m_4_6) rfl (l' := #[.val (.int px), .val (.int ((px &&& (3 : Int32)) % (3 : Int32))), .val (.int ((px &&& (3 : Int32)) % (3 : Int32)))]) rfl k) ?_
  show own_Go p.tables e below _ (T1.setTop (mkF m 7 #[.val (.int px), .val (.int ((px &&& (3 : Int32)) % (3 : Int32))), .val (.int ((px &&& (3 : Int32)) % (3 : Int32)))] []))
  refine own_up (fun _ k => XS.iloadN X1.here hx rfl (hb hby d_m_4_7) rfl k) ?_
  show own_Go p.tables e below _ (T1.setTop (mkF m 8 #[.val (.int px), .val (.int ((px &&& (3 : Int32)) % (3 : Int32))), .val (.int ((px &&& (3 : Int32)) % (3 : Int32)))] [(.int ((px &&& (3 : Int32)) % (3 : Int32)))]))
  refine own_up (fun _ k => XS.iconst X1.here hx rfl (hb hby d_m_4_8) k) ?_
  show own_Go p.tables e below _ (T1.setTop (mkF m 9 #[.val (.int px), .val (.int ((px &&& (3 : Int32)) % (3 : Int32))), .val (.int ((px &&& (3 : Int32)) % (3 : Int32)))] [(.int (1 : Int32)), (.int ((px &&& (3 : Int32)) % (3 : Int32)))]))
  by_cases c1 : ((px &&& (3 : Int32)) % (3 : Int32)) < (1 : Int32)
  ·
    refine own_up (fun _ k => XS.icmpYes X1.here hx rfl (pc0 := 9) (pc' := 24) rfl (hb hby d_m_4_9) rfl (tlt c1).1 (by decide) (by decide) k) ?_
    show own_Go p.tables e below _ (T1.setTop (mkF m 24 #[.val (.int px), .val (.int ((px &&& (3 : Int32)) % (3 : Int32))), .val (.int ((px &&& (3 : Int32)) % (3 : Int32)))] []))
    refine own_up (fun _ k => XS.iloadN X1.here hx rfl (hb hby d_m_4_24) rfl k) ?_
    show own_Go p.tables e below _ (T1.setTop (mkF m 25 #[.val (.int px), .val (.int ((px &&& (3 : Int32)) % (3 : Int32))), .val (.int ((px &&& (3 : Int32)) % (3 : Int32)))] [(.int ((px &&& (3 : Int32)) % (3 : Int32)))]))
    refine own_up (fun _ k => XS.iconst X1.here hx rfl (hb hby d_m_4_25) k) ?_
    show own_Go p.tables e below _ (T1.setTop (mkF m 26 #[.val (.int px), .val (.int ((px &&& (3 : Int32)) % (3 : Int32))), .val (.int ((px &&& (3 : Int32)) % (3 : Int32)))] [(.int (2 : Int32)), (.int ((px &&& (3 : Int32)) % (3 : Int32)))]))
    by_cases c2 : ((px &&& (3 : Int32)) % (3 : Int32)) < (2 : Int32)
    ·
      refine own_up (fun _ k => XS.icmpYes X1.here hx rfl (pc0 := 26) (pc' := 43) rfl (hb hby d_m_4_26) rfl (tlt c2).1 (by decide) (by decide) k) ?_
      show own_Go p.tables e below _ (T1.setTop (mkF m 43 #[.val (.int px), .val (.int ((px &&& (3 : Int32)) % (3 : Int32))), .val (.int ((px &&& (3 : Int32)) % (3 : Int32)))] []))
      refine own_up (fun _ k => XS.iloadN X1.here hx rfl (hb hby d_m_4_43) rfl k) ?_
      show own_Go p.tables e below _ (T1.setTop (mkF m 44 #[.val (.int px), .val (.int ((px &&& (3 : Int32)) % (3 : Int32))), .val (.int ((px &&& (3 : Int32)) % (3 : Int32)))] [(.int ((px &&& (3 : Int32)) % (3 : Int32)))]))
      exact own_end X1 hlk (v := some (.int ((px &&& (3 : Int32)) % (3 : Int32)))) (fun h => by rw [Bd.returns] at h; cases h) (fun fs hr => retOut X1 hx Bd.returns rfl (Or.inl ⟨rfl, Or.inl rfl, _, rfl⟩) (hb hby d_m_4_44) hr) eq1 ⟨by rw [own_key, if_pos c1, if_pos c2], N1, rfl⟩ (by decide) (by decide)
    ·
      refine own_up (fun _ k => XS.icmpNo X1.here hx rfl (hb hby d_m_4_26) rfl (flt c2).1 k) ?_
      show own_Go p.tables e below _ (T1.setTop (mkF m 29 #[.val (.int px), .val (.int ((px &&& (3 : Int32)) % (3 : Int32))), .val (.int ((px &&& (3 : Int32)) % (3 : Int32)))] []))
      refine own_up (fun _ k => XS.iloadN X1.here hx rfl (hb hby d_m_4_29) rfl k) ?_
      show own_Go p.tables e below _ (T1.setTop (mkF m 30 #[.val (.int px), .val (.int ((px &&& (3 : Int32)) % (3 : Int32))), .val (.int ((px &&& (3 : Int32)) % (3 : Int32)))] [(.int ((px &&& (3 : Int32)) % (3 : Int32)))]))
      refine own_up (fun _ k => XS.iloadN X1.here hx rfl (hb hby d_m_4_30) rfl k) ?_
      show own_Go p.tables e below _ (T1.setTop (mkF m 31 #[.val (.int px), .val (.int ((px &&& (3 : Int32)) % (3 : Int32))), .val (.int ((px &&& (3 : Int32)) % (3 : Int32)))] [(.int px), (.int ((px &&& (3 : Int32)) % (3 : Int32)))]))
      refine own_up (fun _ k => XS.bipush X1.here hx rfl (hb hby d_m_4_31) k) ?_
      show own_Go p.tables e below _ (T1.setTop (mkF m 33 #[.val (.int px), .val (.int ((px &&& (3 : Int32)) % (3 : Int32))), .val (.int ((px &&& (3 : Int32)) % (3 : Int32)))] [(.int (10 : Int32)), (.int px), (.int ((px &&& (3 : Int32)) % (3 : Int32)))]))
      refine own_up (fun _ k => XS.iushr X1.here hx rfl (hb hby d_m_4_33) rfl k) ?_
      show own_Go p.tables e below _ (T1.setTop (mkF m 34 #[.val (.int px), .val (.int ((px &&& (3 : Int32)) % (3 : Int32))), .val (.int ((px &&& (3 : Int32)) % (3 : Int32)))] [(.int ((px.toUInt32 >>> ((10 : Int32) &&& 31).toUInt32).toInt32)), (.int ((px &&& (3 : Int32)) % (3 : Int32)))]))
      refine own_up (fun _ k => XS.sipush X1.here hx rfl (hb hby d_m_4_34) k) ?_
      show own_Go p.tables e below _ (T1.setTop (mkF m 37 #[.val (.int px), .val (.int ((px &&& (3 : Int32)) % (3 : Int32))), .val (.int ((px &&& (3 : Int32)) % (3 : Int32)))] [(.int (255 : Int32)), (.int ((px.toUInt32 >>> ((10 : Int32) &&& 31).toUInt32).toInt32)), (.int ((px &&& (3 : Int32)) % (3 : Int32)))]))
      refine own_up (fun _ k => XS.iand X1.here hx rfl (hb hby d_m_4_37) rfl k) ?_
      show own_Go p.tables e below _ (T1.setTop (mkF m 38 #[.val (.int px), .val (.int ((px &&& (3 : Int32)) % (3 : Int32))), .val (.int ((px &&& (3 : Int32)) % (3 : Int32)))] [(.int (((px.toUInt32 >>> ((10 : Int32) &&& 31).toUInt32).toInt32) &&& (255 : Int32))), (.int ((px &&& (3 : Int32)) % (3 : Int32)))]))
      refine own_up (fun _ k => XS.bipush X1.here hx rfl (hb hby d_m_4_38) k) ?_
      show own_Go p.tables e below _ (T1.setTop (mkF m 40 #[.val (.int px), .val (.int ((px &&& (3 : Int32)) % (3 : Int32))), .val (.int ((px &&& (3 : Int32)) % (3 : Int32)))] [(.int (10 : Int32)), (.int (((px.toUInt32 >>> ((10 : Int32) &&& 31).toUInt32).toInt32) &&& (255 : Int32))), (.int ((px &&& (3 : Int32)) % (3 : Int32)))]))
      refine own_up (fun _ k => XS.ishl X1.here hx rfl (hb hby d_m_4_40) rfl k) ?_
      show own_Go p.tables e below _ (T1.setTop (mkF m 41 #[.val (.int px), .val (.int ((px &&& (3 : Int32)) % (3 : Int32))), .val (.int ((px &&& (3 : Int32)) % (3 : Int32)))] [(.int ((((px.toUInt32 >>> ((10 : Int32) &&& 31).toUInt32).toInt32) &&& (255 : Int32)) <<< ((10 : Int32) &&& 31))), (.int ((px &&& (3 : Int32)) % (3 : Int32)))]))
      refine own_up (fun _ k => XS.ior X1.here hx rfl (hb hby d_m_4_41) rfl k) ?_
      show own_Go p.tables e below _ (T1.setTop (mkF m 42 #[.val (.int px), .val (.int ((px &&& (3 : Int32)) % (3 : Int32))), .val (.int ((px &&& (3 : Int32)) % (3 : Int32)))] [(.int (((px &&& (3 : Int32)) % (3 : Int32)) ||| ((((px.toUInt32 >>> ((10 : Int32) &&& 31).toUInt32).toInt32) &&& (255 : Int32)) <<< ((10 : Int32) &&& 31))))]))
      refine own_up (fun _ k => XS.istoreN X1.here hx rfl (hb hby d_m_4_42) rfl (l' := #[.val (.int px), .val (.int ((px &&& (3 : Int32)) % (3 : Int32))), .val (.int (((px &&& (3 : Int32)) % (3 : Int32)) ||| ((((px.toUInt32 >>> ((10 : Int32) &&& 31).toUInt32).toInt32) &&& (255 : Int32)) <<< ((10 : Int32) &&& 31))))]) rfl k) ?_
      show own_Go p.tables e below _ (T1.setTop (mkF m 43 #[.val (.int px), .val (.int ((px &&& (3 : Int32)) % (3 : Int32))), .val (.int (((px &&& (3 : Int32)) % (3 : Int32)) ||| ((((px.toUInt32 >>> ((10 : Int32) &&& 31).toUInt32).toInt32) &&& (255 : Int32)) <<< ((10 : Int32) &&& 31))))] []))
      refine own_up (fun _ k => XS.iloadN X1.here hx rfl (hb hby d_m_4_43) rfl k) ?_
      show own_Go p.tables e below _ (T1.setTop (mkF m 44 #[.val (.int px), .val (.int ((px &&& (3 : Int32)) % (3 : Int32))), .val (.int (((px &&& (3 : Int32)) % (3 : Int32)) ||| ((((px.toUInt32 >>> ((10 : Int32) &&& 31).toUInt32).toInt32) &&& (255 : Int32)) <<< ((10 : Int32) &&& 31))))] [(.int (((px &&& (3 : Int32)) % (3 : Int32)) ||| ((((px.toUInt32 >>> ((10 : Int32) &&& 31).toUInt32).toInt32) &&& (255 : Int32)) <<< ((10 : Int32) &&& 31))))]))
      exact own_end X1 hlk (v := some (.int (((px &&& (3 : Int32)) % (3 : Int32)) ||| ((((px.toUInt32 >>> ((10 : Int32) &&& 31).toUInt32).toInt32) &&& (255 : Int32)) <<< ((10 : Int32) &&& 31))))) (fun h => by rw [Bd.returns] at h; cases h) (fun fs hr => retOut X1 hx Bd.returns rfl (Or.inl ⟨rfl, Or.inl rfl, _, rfl⟩) (hb hby d_m_4_44) hr) eq1 ⟨by rw [own_key, if_pos c1, if_neg c2], N1, rfl⟩ (by decide) (by decide)
  ·
    refine own_up (fun _ k => XS.icmpNo X1.here hx rfl (hb hby d_m_4_9) rfl (flt c1).1 k) ?_
    show own_Go p.tables e below _ (T1.setTop (mkF m 12 #[.val (.int px), .val (.int ((px &&& (3 : Int32)) % (3 : Int32))), .val (.int ((px &&& (3 : Int32)) % (3 : Int32)))] []))
    refine own_up (fun _ k => XS.iloadN X1.here hx rfl (hb hby d_m_4_12) rfl k) ?_
    show own_Go p.tables e below _ (T1.setTop (mkF m 13 #[.val (.int px), .val (.int ((px &&& (3 : Int32)) % (3 : Int32))), .val (.int ((px &&& (3 : Int32)) % (3 : Int32)))] [(.int ((px &&& (3 : Int32)) % (3 : Int32)))]))
    refine own_up (fun _ k => XS.iloadN X1.here hx rfl (hb hby d_m_4_13) rfl k) ?_
    show own_Go p.tables e below _ (T1.setTop (mkF m 14 #[.val (.int px), .val (.int ((px &&& (3 : Int32)) % (3 : Int32))), .val (.int ((px &&& (3 : Int32)) % (3 : Int32)))] [(.int px), (.int ((px &&& (3 : Int32)) % (3 : Int32)))]))
    refine own_up (fun _ k => XS.iconst X1.here hx rfl (hb hby d_m_4_14) k) ?_
    show own_Go p.tables e below _ (T1.setTop (mkF m 15 #[.val (.int px), .val (.int ((px &&& (3 : Int32)) % (3 : Int32))), .val (.int ((px &&& (3 : Int32)) % (3 : Int32)))] [(.int (2 : Int32)), (.int px), (.int ((px &&& (3 : Int32)) % (3 : Int32)))]))
    refine own_up (fun _ k => XS.iushr X1.here hx rfl (hb hby d_m_4_15) rfl k) ?_
    show own_Go p.tables e below _ (T1.setTop (mkF m 16 #[.val (.int px), .val (.int ((px &&& (3 : Int32)) % (3 : Int32))), .val (.int ((px &&& (3 : Int32)) % (3 : Int32)))] [(.int ((px.toUInt32 >>> ((2 : Int32) &&& 31).toUInt32).toInt32)), (.int ((px &&& (3 : Int32)) % (3 : Int32)))]))
    refine own_up (fun _ k => XS.sipush X1.here hx rfl (hb hby d_m_4_16) k) ?_
    show own_Go p.tables e below _ (T1.setTop (mkF m 19 #[.val (.int px), .val (.int ((px &&& (3 : Int32)) % (3 : Int32))), .val (.int ((px &&& (3 : Int32)) % (3 : Int32)))] [(.int (255 : Int32)), (.int ((px.toUInt32 >>> ((2 : Int32) &&& 31).toUInt32).toInt32)), (.int ((px &&& (3 : Int32)) % (3 : Int32)))]))
    refine own_up (fun _ k => XS.iand X1.here hx rfl (hb hby d_m_4_19) rfl k) ?_
    show own_Go p.tables e below _ (T1.setTop (mkF m 20 #[.val (.int px), .val (.int ((px &&& (3 : Int32)) % (3 : Int32))), .val (.int ((px &&& (3 : Int32)) % (3 : Int32)))] [(.int (((px.toUInt32 >>> ((2 : Int32) &&& 31).toUInt32).toInt32) &&& (255 : Int32))), (.int ((px &&& (3 : Int32)) % (3 : Int32)))]))
    refine own_up (fun _ k => XS.iconst X1.here hx rfl (hb hby d_m_4_20) k) ?_
    show own_Go p.tables e below _ (T1.setTop (mkF m 21 #[.val (.int px), .val (.int ((px &&& (3 : Int32)) % (3 : Int32))), .val (.int ((px &&& (3 : Int32)) % (3 : Int32)))] [(.int (2 : Int32)), (.int (((px.toUInt32 >>> ((2 : Int32) &&& 31).toUInt32).toInt32) &&& (255 : Int32))), (.int ((px &&& (3 : Int32)) % (3 : Int32)))]))
    refine own_up (fun _ k => XS.ishl X1.here hx rfl (hb hby d_m_4_21) rfl k) ?_
    show own_Go p.tables e below _ (T1.setTop (mkF m 22 #[.val (.int px), .val (.int ((px &&& (3 : Int32)) % (3 : Int32))), .val (.int ((px &&& (3 : Int32)) % (3 : Int32)))] [(.int ((((px.toUInt32 >>> ((2 : Int32) &&& 31).toUInt32).toInt32) &&& (255 : Int32)) <<< ((2 : Int32) &&& 31))), (.int ((px &&& (3 : Int32)) % (3 : Int32)))]))
    refine own_up (fun _ k => XS.ior X1.here hx rfl (hb hby d_m_4_22) rfl k) ?_
    show own_Go p.tables e below _ (T1.setTop (mkF m 23 #[.val (.int px), .val (.int ((px &&& (3 : Int32)) % (3 : Int32))), .val (.int ((px &&& (3 : Int32)) % (3 : Int32)))] [(.int (((px &&& (3 : Int32)) % (3 : Int32)) ||| ((((px.toUInt32 >>> ((2 : Int32) &&& 31).toUInt32).toInt32) &&& (255 : Int32)) <<< ((2 : Int32) &&& 31))))]))
    refine own_up (fun _ k => XS.istoreN X1.here hx rfl (hb hby d_m_4_23) rfl (l' := #[.val (.int px), .val (.int ((px &&& (3 : Int32)) % (3 : Int32))), .val (.int (((px &&& (3 : Int32)) % (3 : Int32)) ||| ((((px.toUInt32 >>> ((2 : Int32) &&& 31).toUInt32).toInt32) &&& (255 : Int32)) <<< ((2 : Int32) &&& 31))))]) rfl k) ?_
    show own_Go p.tables e below _ (T1.setTop (mkF m 24 #[.val (.int px), .val (.int ((px &&& (3 : Int32)) % (3 : Int32))), .val (.int (((px &&& (3 : Int32)) % (3 : Int32)) ||| ((((px.toUInt32 >>> ((2 : Int32) &&& 31).toUInt32).toInt32) &&& (255 : Int32)) <<< ((2 : Int32) &&& 31))))] []))
    refine own_up (fun _ k => XS.iloadN X1.here hx rfl (hb hby d_m_4_24) rfl k) ?_
    show own_Go p.tables e below _ (T1.setTop (mkF m 25 #[.val (.int px), .val (.int ((px &&& (3 : Int32)) % (3 : Int32))), .val (.int (((px &&& (3 : Int32)) % (3 : Int32)) ||| ((((px.toUInt32 >>> ((2 : Int32) &&& 31).toUInt32).toInt32) &&& (255 : Int32)) <<< ((2 : Int32) &&& 31))))] [(.int ((px &&& (3 : Int32)) % (3 : Int32)))]))
    refine own_up (fun _ k => XS.iconst X1.here hx rfl (hb hby d_m_4_25) k) ?_
    show own_Go p.tables e below _ (T1.setTop (mkF m 26 #[.val (.int px), .val (.int ((px &&& (3 : Int32)) % (3 : Int32))), .val (.int (((px &&& (3 : Int32)) % (3 : Int32)) ||| ((((px.toUInt32 >>> ((2 : Int32) &&& 31).toUInt32).toInt32) &&& (255 : Int32)) <<< ((2 : Int32) &&& 31))))] [(.int (2 : Int32)), (.int ((px &&& (3 : Int32)) % (3 : Int32)))]))
    by_cases c2 : ((px &&& (3 : Int32)) % (3 : Int32)) < (2 : Int32)
    ·
      refine own_up (fun _ k => XS.icmpYes X1.here hx rfl (pc0 := 26) (pc' := 43) rfl (hb hby d_m_4_26) rfl (tlt c2).1 (by decide) (by decide) k) ?_
      show own_Go p.tables e below _ (T1.setTop (mkF m 43 #[.val (.int px), .val (.int ((px &&& (3 : Int32)) % (3 : Int32))), .val (.int (((px &&& (3 : Int32)) % (3 : Int32)) ||| ((((px.toUInt32 >>> ((2 : Int32) &&& 31).toUInt32).toInt32) &&& (255 : Int32)) <<< ((2 : Int32) &&& 31))))] []))
      refine own_up (fun _ k => XS.iloadN X1.here hx rfl (hb hby d_m_4_43) rfl k) ?_
      show own_Go p.tables e below _ (T1.setTop (mkF m 44 #[.val (.int px), .val (.int ((px &&& (3 : Int32)) % (3 : Int32))), .val (.int (((px &&& (3 : Int32)) % (3 : Int32)) ||| ((((px.toUInt32 >>> ((2 : Int32) &&& 31).toUInt32).toInt32) &&& (255 : Int32)) <<< ((2 : Int32) &&& 31))))] [(.int (((px &&& (3 : Int32)) % (3 : Int32)) ||| ((((px.toUInt32 >>> ((2 : Int32) &&& 31).toUInt32).toInt32) &&& (255 : Int32)) <<< ((2 : Int32) &&& 31))))]))
      exact own_end X1 hlk (v := some (.int (((px &&& (3 : Int32)) % (3 : Int32)) ||| ((((px.toUInt32 >>> ((2 : Int32) &&& 31).toUInt32).toInt32) &&& (255 : Int32)) <<< ((2 : Int32) &&& 31))))) (fun h => by rw [Bd.returns] at h; cases h) (fun fs hr => retOut X1 hx Bd.returns rfl (Or.inl ⟨rfl, Or.inl rfl, _, rfl⟩) (hb hby d_m_4_44) hr) eq1 ⟨by rw [own_key, if_neg c1, if_pos c2], N1, rfl⟩ (by decide) (by decide)
    ·
      refine own_up (fun _ k => XS.icmpNo X1.here hx rfl (hb hby d_m_4_26) rfl (flt c2).1 k) ?_
      show own_Go p.tables e below _ (T1.setTop (mkF m 29 #[.val (.int px), .val (.int ((px &&& (3 : Int32)) % (3 : Int32))), .val (.int (((px &&& (3 : Int32)) % (3 : Int32)) ||| ((((px.toUInt32 >>> ((2 : Int32) &&& 31).toUInt32).toInt32) &&& (255 : Int32)) <<< ((2 : Int32) &&& 31))))] []))
      refine own_up (fun _ k => XS.iloadN X1.here hx rfl (hb hby d_m_4_29) rfl k) ?_
      show own_Go p.tables e below _ (T1.setTop (mkF m 30 #[.val (.int px), .val (.int ((px &&& (3 : Int32)) % (3 : Int32))), .val (.int (((px &&& (3 : Int32)) % (3 : Int32)) ||| ((((px.toUInt32 >>> ((2 : Int32) &&& 31).toUInt32).toInt32) &&& (255 : Int32)) <<< ((2 : Int32) &&& 31))))] [(.int (((px &&& (3 : Int32)) % (3 : Int32)) ||| ((((px.toUInt32 >>> ((2 : Int32) &&& 31).toUInt32).toInt32) &&& (255 : Int32)) <<< ((2 : Int32) &&& 31))))]))
      refine own_up (fun _ k => XS.iloadN X1.here hx rfl (hb hby d_m_4_30) rfl k) ?_
      show own_Go p.tables e below _ (T1.setTop (mkF m 31 #[.val (.int px), .val (.int ((px &&& (3 : Int32)) % (3 : Int32))), .val (.int (((px &&& (3 : Int32)) % (3 : Int32)) ||| ((((px.toUInt32 >>> ((2 : Int32) &&& 31).toUInt32).toInt32) &&& (255 : Int32)) <<< ((2 : Int32) &&& 31))))] [(.int px), (.int (((px &&& (3 : Int32)) % (3 : Int32)) ||| ((((px.toUInt32 >>> ((2 : Int32) &&& 31).toUInt32).toInt32) &&& (255 : Int32)) <<< ((2 : Int32) &&& 31))))]))
      refine own_up (fun _ k => XS.bipush X1.here hx rfl (hb hby d_m_4_31) k) ?_
      show own_Go p.tables e below _ (T1.setTop (mkF m 33 #[.val (.int px), .val (.int ((px &&& (3 : Int32)) % (3 : Int32))), .val (.int (((px &&& (3 : Int32)) % (3 : Int32)) ||| ((((px.toUInt32 >>> ((2 : Int32) &&& 31).toUInt32).toInt32) &&& (255 : Int32)) <<< ((2 : Int32) &&& 31))))] [(.int (10 : Int32)), (.int px), (.int (((px &&& (3 : Int32)) % (3 : Int32)) ||| ((((px.toUInt32 >>> ((2 : Int32) &&& 31).toUInt32).toInt32) &&& (255 : Int32)) <<< ((2 : Int32) &&& 31))))]))
      refine own_up (fun _ k => XS.iushr X1.here hx rfl (hb hby d_m_4_33) rfl k) ?_
      show own_Go p.tables e below _ (T1.setTop (mkF m 34 #[.val (.int px), .val (.int ((px &&& (3 : Int32)) % (3 : Int32))), .val (.int (((px &&& (3 : Int32)) % (3 : Int32)) ||| ((((px.toUInt32 >>> ((2 : Int32) &&& 31).toUInt32).toInt32) &&& (255 : Int32)) <<< ((2 : Int32) &&& 31))))] [(.int ((px.toUInt32 >>> ((10 : Int32) &&& 31).toUInt32).toInt32)), (.int (((px &&& (3 : Int32)) % (3 : Int32)) ||| ((((px.toUInt32 >>> ((2 : Int32) &&& 31).toUInt32).toInt32) &&& (255 : Int32)) <<< ((2 : Int32) &&& 31))))]))
      refine own_up (fun _ k => XS.sipush X1.here hx rfl (hb hby d_m_4_34) k) ?_
      show own_Go p.tables e below _ (T1.setTop (mkF m 37 #[.val (.int px), .val (.int ((px &&& (3 : Int32)) % (3 : Int32))), .val (.int (((px &&& (3 : Int32)) % (3 : Int32)) ||| ((((px.toUInt32 >>> ((2 : Int32) &&& 31).toUInt32).toInt32) &&& (255 : Int32)) <<< ((2 : Int32) &&& 31))))] [(.int (255 : Int32)), (.int ((px.toUInt32 >>> ((10 : Int32) &&& 31).toUInt32).toInt32)), (.int (((px &&& (3 : Int32)) % (3 : Int32)) ||| ((((px.toUInt32 >>> ((2 : Int32) &&& 31).toUInt32).toInt32) &&& (255 : Int32)) <<< ((2 : Int32) &&& 31))))]))
      refine own_up (fun _ k => XS.iand X1.here hx rfl (hb hby d_m_4_37) rfl k) ?_
      show own_Go p.tables e below _ (T1.setTop (mkF m 38 #[.val (.int px), .val (.int ((px &&& (3 : Int32)) % (3 : Int32))), .val (.int (((px &&& (3 : Int32)) % (3 : Int32)) ||| ((((px.toUInt32 >>> ((2 : Int32) &&& 31).toUInt32).toInt32) &&& (255 : Int32)) <<< ((2 : Int32) &&& 31))))] [(.int (((px.toUInt32 >>> ((10 : Int32) &&& 31).toUInt32).toInt32) &&& (255 : Int32))), (.int (((px &&& (3 : Int32)) % (3 : Int32)) ||| ((((px.toUInt32 >>> ((2 : Int32) &&& 31).toUInt32).toInt32) &&& (255 : Int32)) <<< ((2 : Int32) &&& 31))))]))
      refine own_up (fun _ k => XS.bipush X1.here hx rfl (hb hby d_m_4_38) k) ?_
      show own_Go p.tables e below _ (T1.setTop (mkF m 40 #[.val (.int px), .val (.int ((px &&& (3 : Int32)) % (3 : Int32))), .val (.int (((px &&& (3 : Int32)) % (3 : Int32)) ||| ((((px.toUInt32 >>> ((2 : Int32) &&& 31).toUInt32).toInt32) &&& (255 : Int32)) <<< ((2 : Int32) &&& 31))))] [(.int (10 : Int32)), (.int (((px.toUInt32 >>> ((10 : Int32) &&& 31).toUInt32).toInt32) &&& (255 : Int32))), (.int (((px &&& (3 : Int32)) % (3 : Int32)) ||| ((((px.toUInt32 >>> ((2 : Int32) &&& 31).toUInt32).toInt32) &&& (255 : Int32)) <<< ((2 : Int32) &&& 31))))]))
      refine own_up (fun _ k => XS.ishl X1.here hx rfl (hb hby d_m_4_40) rfl k) ?_
      show own_Go p.tables e below _ (T1.setTop (mkF m 41 #[.val (.int px), .val (.int ((px &&& (3 : Int32)) % (3 : Int32))), .val (.int (((px &&& (3 : Int32)) % (3 : Int32)) ||| ((((px.toUInt32 >>> ((2 : Int32) &&& 31).toUInt32).toInt32) &&& (255 : Int32)) <<< ((2 : Int32) &&& 31))))] [(.int ((((px.toUInt32 >>> ((10 : Int32) &&& 31).toUInt32).toInt32) &&& (255 : Int32)) <<< ((10 : Int32) &&& 31))), (.int (((px &&& (3 : Int32)) % (3 : Int32)) ||| ((((px.toUInt32 >>> ((2 : Int32) &&& 31).toUInt32).toInt32) &&& (255 : Int32)) <<< ((2 : Int32) &&& 31))))]))
      refine own_up (fun _ k => XS.ior X1.here hx rfl (hb hby d_m_4_41) rfl k) ?_
      show own_Go p.tables e below _ (T1.setTop (mkF m 42 #[.val (.int px), .val (.int ((px &&& (3 : Int32)) % (3 : Int32))), .val (.int (((px &&& (3 : Int32)) % (3 : Int32)) ||| ((((px.toUInt32 >>> ((2 : Int32) &&& 31).toUInt32).toInt32) &&& (255 : Int32)) <<< ((2 : Int32) &&& 31))))] [(.int ((((px &&& (3 : Int32)) % (3 : Int32)) ||| ((((px.toUInt32 >>> ((2 : Int32) &&& 31).toUInt32).toInt32) &&& (255 : Int32)) <<< ((2 : Int32) &&& 31))) ||| ((((px.toUInt32 >>> ((10 : Int32) &&& 31).toUInt32).toInt32) &&& (255 : Int32)) <<< ((10 : Int32) &&& 31))))]))
      refine own_up (fun _ k => XS.istoreN X1.here hx rfl (hb hby d_m_4_42) rfl (l' := #[.val (.int px), .val (.int ((px &&& (3 : Int32)) % (3 : Int32))), .val (.int ((((px &&& (3 : Int32)) % (3 : Int32)) ||| ((((px.toUInt32 >>> ((2 : Int32) &&& 31).toUInt32).toInt32) &&& (255 : Int32)) <<< ((2 : Int32) &&& 31))) ||| ((((px.toUInt32 >>> ((10 : Int32) &&& 31).toUInt32).toInt32) &&& (255 : Int32)) <<< ((10 : Int32) &&& 31))))]) rfl k) ?_
      show own_Go p.tables e below _ (T1.setTop (mkF m 43 #[.val (.int px), .val (.int ((px &&& (3 : Int32)) % (3 : Int32))), .val (.int ((((px &&& (3 : Int32)) % (3 : Int32)) ||| ((((px.toUInt32 >>> ((2 : Int32) &&& 31).toUInt32).toInt32) &&& (255 : Int32)) <<< ((2 : Int32) &&& 31))) ||| ((((px.toUInt32 >>> ((10 : Int32) &&& 31).toUInt32).toInt32) &&& (255 : Int32)) <<< ((10 : Int32) &&& 31))))] []))
      refine own_up (fun _ k => XS.iloadN X1.here hx rfl (hb hby d_m_4_43) rfl k) ?_
      show own_Go p.tables e below _ (T1.setTop (mkF m 44 #[.val (.int px), .val (.int ((px &&& (3 : Int32)) % (3 : Int32))), .val (.int ((((px &&& (3 : Int32)) % (3 : Int32)) ||| ((((px.toUInt32 >>> ((2 : Int32) &&& 31).toUInt32).toInt32) &&& (255 : Int32)) <<< ((2 : Int32) &&& 31))) ||| ((((px.toUInt32 >>> ((10 : Int32) &&& 31).toUInt32).toInt32) &&& (255 : Int32)) <<< ((10 : Int32) &&& 31))))] [(.int ((((px &&& (3 : Int32)) % (3 : Int32)) ||| ((((px.toUInt32 >>> ((2 : Int32) &&& 31).toUInt32).toInt32) &&& (255 : Int32)) <<< ((2 : Int32) &&& 31))) ||| ((((px.toUInt32 >>> ((10 : Int32) &&& 31).toUInt32).toInt32) &&& (255 : Int32)) <<< ((10 : Int32) &&& 31))))]))
      exact own_end X1 hlk (v := some (.int ((((px &&& (3 : Int32)) % (3 : Int32)) ||| ((((px.toUInt32 >>> ((2 : Int32) &&& 31).toUInt32).toInt32) &&& (255 : Int32)) <<< ((2 : Int32) &&& 31))) ||| ((((px.toUInt32 >>> ((10 : Int32) &&& 31).toUInt32).toInt32) &&& (255 : Int32)) <<< ((10 : Int32) &&& 31))))) (fun h => by rw [Bd.returns] at h; cases h) (fun fs hr => retOut X1 hx Bd.returns rfl (Or.inl ⟨rfl, Or.inl rfl, _, rfl⟩) (hb hby d_m_4_44) hr) eq1 ⟨by rw [own_key, if_neg c1, if_neg c2], N1, rfl⟩ (by decide) (by decide)
theorem d_jdk_31_m_11_0 : decode jdk_31_method_11_code 0 = .ok (.aload_n 0, 1) := by decide +kernel
theorem d_jdk_31_m_11_1 : decode jdk_31_method_11_code 1 = .ok (.ifnonnull 12, 3) := by decide +kernel
theorem d_jdk_31_m_11_13 : decode jdk_31_method_11_code 13 = .ok (.aload_n 0, 1) := by decide +kernel
theorem d_jdk_31_m_11_14 : decode jdk_31_method_11_code 14 = .ok (.areturn, 1) := by decide +kernel
theorem own_pn2 : plainName "java/util/Objects" = true := by first | (simp [plainName, overriddenIn]; done) | decide +kernel
theorem ef_rmNN (m : MethodId) (y0 : Addr) (y1 : Addr) : entryFrame m #[(.ref y0), (.ref y1)] 2 = mkF m 0 #[.val (.ref y0), .val (.ref y1)] [] := by first | (simp [entryFrame, mkF, argsToLocals, Value.category]; done) | rfl
def Q_rmNN (Z : State) (xo : Addr) (xm : Addr) (h0 : Heap) (n0 : Nat) (v : Option Value) (h : Heap) (L : List Loc) : Prop := v = some (.ref xo) ∧ Fr n0 L ∧ h = h0
set_option maxRecDepth 65536 in
set_option maxHeartbeats 40000000 in
theorem rmNN (l : Launch) (Z : State) (a0 : Array Value) (hw : ∀ d ∈ tables_1, d.before a0 Z = true) (ws : List Jvm.Cond) (xo : Addr) (xm : Addr) (h0 : Heap) (n0 : Nat) (Z0 : n0 ≤ h0.size) :
    MetFree l (⟨"java/util/Objects", "requireNonNull", "(Ljava/lang/Object;Ljava/lang/String;)Ljava/lang/Object;"⟩ : MethodName) (head1 (Jvm.Cond.code (⟨"java/util/Objects", "requireNonNull", "(Ljava/lang/Object;Ljava/lang/String;)Ljava/lang/Object;"⟩ : MethodName) jdk_31_method_11_code 2 (some (.object "java/lang/Object")) :: ws) ({ frames := 0, cells := 0, slots := 0, locals := 0 } : Room)) (fun ar U => ar = #[(.ref xo), (.ref xm)] ∧ Z.Warmed39 U.vm ∧ U.heap = h0) (fun _ _ _ _ _ => True) (fun _ U o U' => ∃ v L, o = .returned v ∧ Q_rmNN Z xo xm h0 n0 v U'.heap L ∧ FrameEnd U o U' L ({ frames := 0, cells := 0, slots := 0, locals := 0 } : Room).cells ({ frames := 0, cells := 0, slots := 0, locals := 0 } : Room).slots) := by
  refine MetFree.of_bodySF (plainFor_of_name own_pn2) hisR ?_
  intro p e s m args below meth c s₁ Bd hml0 hP hK
  obtain ⟨rfl, hZ, hh⟩ := hP
  have hx := Bd.exec
  have hby := Bd.bytes
  have hlk : meth.locks = false := BodyLoose.notSynchronized Bd
  have hml : c.maxLocals = 2 := hml0
  have hown : s.vm.findClass "java/util/Objects" = some m.cls := findClass_of_methodNamed Bd.named
  have hnm := (name_of_methodNamed Bd.named Bd.method).1
  have X0 : Stand p l e ({ frames := 0, cells := 0, slots := 0, locals := 0 } : Room) s m #[(.ref xo), (.ref xm)] below meth c s₁ [] 0 0 := Stand.of_body Bd
  have e0 : s₁.heap = h0 := by rw [← hh, Bd.state]; rfl
  have N0 := Fr.nil n0
  show own_Go p.tables e below (fun u o => ∃ v L, o = .returned v ∧ Q_rmNN Z xo xm h0 n0 v u.heap L ∧ FrameEnd s o u L ({ frames := 0, cells := 0, slots := 0, locals := 0 } : Room).cells ({ frames := 0, cells := 0, slots := 0, locals := 0 } : Room).slots) (s₁.setTop (entryFrame m #[(.ref xo), (.ref xm)] 2))
  refine own_up (fun _ k => castTop (ef_rmNN m xo xm) k) ?_
  show own_Go p.tables e below _ (s₁.setTop (mkF m 0 #[.val (.ref xo), .val (.ref xm)] []))
  refine own_up (fun _ k => XS.aloadN X0.here hx rfl (hb hby d_jdk_31_m_11_0) rfl rfl k) ?_
  show own_Go p.tables e below _ (s₁.setTop (mkF m 1 #[.val (.ref xo), .val (.ref xm)] [(.ref xo)]))
  refine own_up (fun _ k => XS.ifnonnullYes X0.here hx rfl (pc0 := 1) (pc' := 13) rfl (hb hby d_jdk_31_m_11_1) rfl (by decide) (by decide) k) ?_
  show own_Go p.tables e below _ (s₁.setTop (mkF m 13 #[.val (.ref xo), .val (.ref xm)] []))
  refine own_up (fun _ k => XS.aloadN X0.here hx rfl (hb hby d_jdk_31_m_11_13) rfl rfl k) ?_
  show own_Go p.tables e below _ (s₁.setTop (mkF m 14 #[.val (.ref xo), .val (.ref xm)] [(.ref xo)]))
  exact own_end X0 hlk (v := some (.ref xo)) (fun h => by rw [Bd.returns] at h; cases h) (fun fs hr => retOut X0 hx Bd.returns rfl (Or.inr (Or.inr (Or.inr (Or.inr ⟨rfl, rfl, rfl⟩)))) (hb hby d_jdk_31_m_11_14) hr) e0 ⟨rfl, N0, rfl⟩ (by decide) (by decide)
theorem d_prog_31_m_1_0 : decode prog_31_method_1_code 0 = .ok (.aload_n 0, 1) := by decide +kernel
theorem d_prog_31_m_1_1 : decode prog_31_method_1_code 1 = .ok (.invokespecial 1, 3) := by decide +kernel
theorem d_prog_31_m_1_4 : decode prog_31_method_1_code 4 = .ok (.aload_n 0, 1) := by decide +kernel
theorem d_prog_31_m_1_5 : decode prog_31_method_1_code 5 = .ok (.aload_n 1, 1) := by decide +kernel
theorem d_prog_31_m_1_6 : decode prog_31_method_1_code 6 = .ok (.ldc 7, 2) := by decide +kernel
theorem d_prog_31_m_1_8 : decode prog_31_method_1_code 8 = .ok (.invokestatic 9, 3) := by decide +kernel
theorem own_pd3 : parseMethodDescriptor "(Ljava/lang/Object;Ljava/lang/String;)Ljava/lang/Object;" = some ⟨[(.object "java/lang/Object"), (.object "java/lang/String")], some (.object "java/lang/Object")⟩ := by decide +kernel
theorem d_prog_31_m_1_11 : decode prog_31_method_1_code 11 = .ok (.checkcast 15, 3) := by decide +kernel
theorem d_prog_31_m_1_14 : decode prog_31_method_1_code 14 = .ok (.putfield 17, 3) := by decide +kernel
theorem d_prog_31_m_1_17 : decode prog_31_method_1_code 17 = .ok (.aload_n 0, 1) := by decide +kernel
theorem d_prog_31_m_1_18 : decode prog_31_method_1_code 18 = .ok (.aload_n 2, 1) := by decide +kernel
theorem d_prog_31_m_1_19 : decode prog_31_method_1_code 19 = .ok (.ldc 22, 2) := by decide +kernel
theorem d_prog_31_m_1_21 : decode prog_31_method_1_code 21 = .ok (.invokestatic 9, 3) := by decide +kernel
theorem d_prog_31_m_1_24 : decode prog_31_method_1_code 24 = .ok (.checkcast 15, 3) := by decide +kernel
theorem d_prog_31_m_1_27 : decode prog_31_method_1_code 27 = .ok (.putfield 24, 3) := by decide +kernel
theorem d_prog_31_m_1_30 : decode prog_31_method_1_code 30 = .ok (.return_, 1) := by decide +kernel
theorem own_pn3 : plainName "com/example/hintikka/hintikka/ontology/FeatureValue" = true := by first | (simp [plainName, overriddenIn]; done) | decide +kernel
theorem ef_rmFV (m : MethodId) (y0 : Addr) (y1 : Addr) (y2 : Addr) : entryFrame m #[(.ref y0), (.ref y1), (.ref y2)] 3 = mkF m 0 #[.val (.ref y0), .val (.ref y1), .val (.ref y2)] [] := by first | (simp [entryFrame, mkF, argsToLocals, Value.category]; done) | rfl
def Q_rmFV (Z : State) (a : Addr) (s1 : Addr) (s2 : Addr) (h0 : Heap) (n0 : Nat) (v : Option Value) (h : Heap) (L : List Loc) : Prop := v = none ∧ Fr n0 L ∧ Keep h0 h [a] ∧ Exa Z h a "com/example/hintikka/hintikka/ontology/FeatureValue" ∧ Fld Z h a "com/example/hintikka/hintikka/ontology/FeatureValue" "individual" "Ljava/lang/String;" (.ref s1) ∧ Fld Z h a "com/example/hintikka/hintikka/ontology/FeatureValue" "feature" "Ljava/lang/String;" (.ref s2)
set_option maxRecDepth 65536 in
set_option maxHeartbeats 40000000 in
theorem rmFV (l : Launch) (Z : State) (a0 : Array Value) (hw : ∀ d ∈ tables_1, d.before a0 Z = true) (ws : List Jvm.Cond) (a : Addr) (s1 : Addr) (s2 : Addr) (h0 : Heap) (n0 : Nat) (Z0 : n0 ≤ h0.size) (E : Exa Z h0 a "com/example/hintikka/hintikka/ontology/FeatureValue") (F1 : Fld Z h0 a "com/example/hintikka/hintikka/ontology/FeatureValue" "individual" "Ljava/lang/String;" .null) (F2 : Fld Z h0 a "com/example/hintikka/hintikka/ontology/FeatureValue" "feature" "Ljava/lang/String;" .null) (G : n0 ≤ a) (ES1 : Exa Z h0 s1 "java/lang/String") (ES2 : Exa Z h0 s2 "java/lang/String") :
    MetFree l (⟨"com/example/hintikka/hintikka/ontology/FeatureValue", "<init>", "(Ljava/lang/String;Ljava/lang/String;)V"⟩ : MethodName) (head1 (Jvm.Cond.code (⟨"com/example/hintikka/hintikka/ontology/FeatureValue", "<init>", "(Ljava/lang/String;Ljava/lang/String;)V"⟩ : MethodName) prog_31_method_1_code 3 none :: ws) ({ frames := 1, cells := 4, slots := 76, locals := 14 } : Room)) (fun ar U => ar = #[(.ref a), (.ref s1), (.ref s2)] ∧ Z.Warmed39 U.vm ∧ U.heap = h0 ∧ CHv Z own_EL U.vm h0) (fun _ _ _ _ _ => True) (fun _ U o U' => ∃ v L, o = .returned v ∧ Q_rmFV Z a s1 s2 h0 n0 v U'.heap L ∧ CHr Z own_EL U.vm U.heap U'.vm U'.heap ∧ ReturnedEndW U o U' L ({ frames := 1, cells := 4, slots := 76, locals := 14 } : Room).cells ({ frames := 1, cells := 4, slots := 76, locals := 14 } : Room).slots) := by
  refine MetFree.of_bodySF (plainFor_of_name own_pn3) hisR ?_
  intro p e s m args below meth c s₁ Bd hml0 hP hK
  obtain ⟨rfl, hZ, hh, hC0⟩ := hP
  have hx := Bd.exec
  have hby := Bd.bytes
  have hlk : meth.locks = false := BodyLoose.notSynchronized Bd
  have hml : c.maxLocals = 3 := hml0
  have hown : s.vm.findClass "com/example/hintikka/hintikka/ontology/FeatureValue" = some m.cls := findClass_of_methodNamed Bd.named
  have hnm := (name_of_methodNamed Bd.named Bd.method).1
  have X0 : Stand p l e ({ frames := 1, cells := 4, slots := 76, locals := 14 } : Room) (s.setVm s.vm) m #[(.ref a), (.ref s1), (.ref s2)] below meth c s₁ [] 0 0 := Stand.of_body Bd
  have e0 : s₁.heap = h0 := by rw [← hh, Bd.state]; rfl
  have N0 := Fr.nil n0
  have hS0 : s.Since s.vm 0 := (State.WarmedH.refl s).since 0
  have hk0 : 0 ≤ h0.size := Nat.zero_le _
  have CR0 : CHr Z own_EL s.vm h0 s.vm h0 := CHr.refl hC0
  have wS := own_wS hw
  show own_Go p.tables e below (fun u o => ∃ v L, o = .returned v ∧ Q_rmFV Z a s1 s2 h0 n0 v u.heap L ∧ CHr Z own_EL s.vm s.heap u.vm u.heap ∧ ReturnedEndW s o u L ({ frames := 1, cells := 4, slots := 76, locals := 14 } : Room).cells ({ frames := 1, cells := 4, slots := 76, locals := 14 } : Room).slots) (s₁.setTop (entryFrame m #[(.ref a), (.ref s1), (.ref s2)] 3))
  refine own_up (fun _ k => castTop (ef_rmFV m a s1 s2) k) ?_
  show own_Go p.tables e below _ (s₁.setTop (mkF m 0 #[.val (.ref a), .val (.ref s1), .val (.ref s2)] []))
  refine own_up (fun _ k => XS.aloadN X0.here hx rfl (hb hby d_prog_31_m_1_0) rfl rfl k) ?_
  show own_Go p.tables e below _ (s₁.setTop (mkF m 1 #[.val (.ref a), .val (.ref s1), .val (.ref s2)] [(.ref a)]))
  obtain ⟨T1, X1, e1, st1⟩ := initO X0 hx hZ hown (hw _ (List.mem_of_getElem? (i := 35) rfl)) (hw _ (List.mem_of_getElem? (i := 22) rfl)) (hw _ (List.mem_of_getElem? (i := 23) rfl)) e0 (g := (mkF m 1 #[.val (.ref a), .val (.ref s1), .val (.ref s2)] [(.ref a)])) rfl (by rw [hml]; rfl) rfl (hb hby d_prog_31_m_1_1) (by decide) (W := 0) (by show 2 * 0 + _ ≤ _; exact Nat.le_of_eq rfl) (by decide)
  refine own_up st1 ?_
  show own_Go p.tables e below _ (T1.setTop (mkF m 4 #[.val (.ref a), .val (.ref s1), .val (.ref s2)] []))
  refine own_up (fun _ k => XS.aloadN X1.here hx rfl (hb hby d_prog_31_m_1_4) rfl rfl k) ?_
  show own_Go p.tables e below _ (T1.setTop (mkF m 5 #[.val (.ref a), .val (.ref s1), .val (.ref s2)] [(.ref a)]))
  refine own_up (fun _ k => XS.aloadN X1.here hx rfl (hb hby d_prog_31_m_1_5) rfl rfl k) ?_
  show own_Go p.tables e below _ (T1.setTop (mkF m 6 #[.val (.ref a), .val (.ref s1), .val (.ref s2)] [(.ref s1), (.ref a)]))
  obtain ⟨l2, T2, h2, k2, X2, e2, E2, hS2, hk2, hZ2, hown2, A2, Li2, st2⟩ := ldcOH X1 hx hZ hown (hw _ (List.mem_of_getElem? (i := 36) rfl)) wS e1 hS0 hk0 (own_EW hw) CR0.1 (g := (mkF m 6 #[.val (.ref a), .val (.ref s1), .val (.ref s2)] [(.ref s1), (.ref a)])) rfl (hb hby d_prog_31_m_1_6) (n := 40) (by decide) (by decide) (by decide) (by decide)
  have CR2 := CHr.trans CR0 A2
  refine own_up st2 ?_
  show own_Go p.tables e below _ (T2.setTop (mkF m 8 #[.val (.ref a), .val (.ref s1), .val (.ref s2)] [(.ref l2), (.ref s1), (.ref a)]))
  have f4 : n0 ≤ h2.size := (Nat.le_trans Z0 E2.1)
  obtain ⟨_, _, ⟨T3, L3, k3, n3⟩, -, X3, ⟨Lc3, hQ3, l3, y3, z3⟩, st3⟩ := Jvm.LawKit.callS X2 hx (y := (⟨"java/util/Objects", "requireNonNull", "(Ljava/lang/Object;Ljava/lang/String;)Ljava/lang/Object;"⟩ : MethodName)) hown2 (mvT hZ2 (hw _ (List.mem_of_getElem? (i := 37) rfl))) (mvT hZ2 (hw _ (List.mem_of_getElem? (i := 38) rfl))) (mvT hZ2 (hw _ (List.mem_of_getElem? (i := 39) rfl))) (mvT hZ2 (hw _ (List.mem_of_getElem? (i := 40) rfl))) (by decide) (backOf (W := 1) (rmNN l Z a0 hw [] s1 l2 h2 n0 f4 ) hZ2 (hw _ (List.mem_of_getElem? (i := 40) rfl)) (hw _ (List.mem_of_getElem? (i := 39) rfl)) (by decide) (by decide)) (g := (mkF m 8 #[.val (.ref a), .val (.ref s1), .val (.ref s2)] [(.ref l2), (.ref s1), (.ref a)])) rfl (by rw [hml]; rfl) (argsL := [(.ref s1), (.ref l2)]) (rest := [(.ref a)]) (lenOf own_pd3 rfl) rfl (by show 2 * 0 + _ ≤ _; exact Nat.le_of_eq rfl) (hb hby d_prog_31_m_1_8) (fun _ _ => ⟨rfl, e2, (by decide : 2 + 0 ≤ _), (by decide : 44 + 0 ≤ _)⟩)
  dsimp only [Pt.U, Pt.locs, Pt.cells, Pt.slots] at X3 l3 y3 z3 st3 hQ3
  subst l3 y3 z3
  have f5 : h0.size ≤ h2.size := (Nat.le_trans (Nat.le_refl _) E2.1)
  obtain ⟨rfl, N3q, eq3⟩ := hQ3
  have N3 := Fr.app N0 N3q
  refine own_up (fun _ k => st3 _ k) ?_
  show own_Go p.tables e below _ (T3.setTop (mkF m 11 #[.val (.ref a), .val (.ref s1), .val (.ref s2)] [(.ref s1), (.ref a)]))
  have f7 : Exa Z h2 s1 "java/lang/String" := (ES1.ext E2)
  obtain ⟨T6, X6, e6, st6⟩ := castY X3 hx hZ2 hown2 (hw _ (List.mem_of_getElem? (i := 41) rfl)) eq3 (Ins.self f7) (g := (mkF m 11 #[.val (.ref a), .val (.ref s1), .val (.ref s2)] [(.ref s1), (.ref a)])) rfl rfl (hb hby d_prog_31_m_1_11)
  refine own_up st6 ?_
  show own_Go p.tables e below _ (T6.setTop (mkF m 14 #[.val (.ref a), .val (.ref s1), .val (.ref s2)] [(.ref s1), (.ref a)]))
  have f8 : Fld Z h2 a "com/example/hintikka/hintikka/ontology/FeatureValue" "individual" "Ljava/lang/String;" .null := (F1.ext E2)
  have f9 : Exa Z h2 a "com/example/hintikka/hintikka/ontology/FeatureValue" := (E.ext E2)
  obtain ⟨T10, h10, X10, e10, W10, st10⟩ := putF X6 hx hZ2 hown2 (host := "") (Or.inl (hw _ (List.mem_of_getElem? (i := 42) rfl))) Via.refl e6 f8 f9 (Or.inr ⟨(hw _ (List.mem_of_getElem? (i := 43) rfl)), rfl, hnm⟩) (hw _ (List.mem_of_getElem? (i := 1) rfl)) (ty := (.object "java/lang/String")) (by decide) rfl rfl (g := (mkF m 14 #[.val (.ref a), .val (.ref s1), .val (.ref s2)] [(.ref s1), (.ref a)])) rfl rfl (hb hby d_prog_31_m_1_14)
  have Fw10 := f8.same W10
  have N10 := Fr.snoc X10 N3 G
  have CR11 := CHr.trans CR2 (CHr.wr W10 (Safe.exa hZ2.alike f9 (by decide) (by decide)) CR2.1)
  have hk11 := (Nat.le_trans hk2 (Nat.le_of_eq (Wr.size W10).symm))
  refine own_up st10 ?_
  show own_Go p.tables e below _ (T10.setTop (mkF m 17 #[.val (.ref a), .val (.ref s1), .val (.ref s2)] []))
  refine own_up (fun _ k => XS.aloadN X10.here hx rfl (hb hby d_prog_31_m_1_17) rfl rfl k) ?_
  show own_Go p.tables e below _ (T10.setTop (mkF m 18 #[.val (.ref a), .val (.ref s1), .val (.ref s2)] [(.ref a)]))
  refine own_up (fun _ k => XS.aloadN X10.here hx rfl (hb hby d_prog_31_m_1_18) rfl rfl k) ?_
  show own_Go p.tables e below _ (T10.setTop (mkF m 19 #[.val (.ref a), .val (.ref s1), .val (.ref s2)] [(.ref s2), (.ref a)]))
  obtain ⟨l12, T12, h12, k12, X12, e12, E12, hS12, hk12, hZ12, hown12, A12, Li12, st12⟩ := ldcOH X10 hx hZ2 hown2 (hw _ (List.mem_of_getElem? (i := 44) rfl)) wS e10 hS2 hk11 (own_EW hw) CR11.1 (g := (mkF m 19 #[.val (.ref a), .val (.ref s1), .val (.ref s2)] [(.ref s2), (.ref a)])) rfl (hb hby d_prog_31_m_1_19) (n := 28) (by decide) (by decide) (by decide) (by decide)
  have CR12 := CHr.trans CR11 A12
  refine own_up st12 ?_
  show own_Go p.tables e below _ (T12.setTop (mkF m 21 #[.val (.ref a), .val (.ref s1), .val (.ref s2)] [(.ref l12), (.ref s2), (.ref a)]))
  have f14 : n0 ≤ h12.size := (Nat.le_trans (Nat.le_trans f4 (Nat.le_of_eq (Wr.size W10).symm)) E12.1)
  obtain ⟨_, _, ⟨T13, L13, k13, n13⟩, -, X13, ⟨Lc13, hQ13, l13, y13, z13⟩, st13⟩ := Jvm.LawKit.callS X12 hx (y := (⟨"java/util/Objects", "requireNonNull", "(Ljava/lang/Object;Ljava/lang/String;)Ljava/lang/Object;"⟩ : MethodName)) hown12 (mvT hZ12 (hw _ (List.mem_of_getElem? (i := 37) rfl))) (mvT hZ12 (hw _ (List.mem_of_getElem? (i := 38) rfl))) (mvT hZ12 (hw _ (List.mem_of_getElem? (i := 39) rfl))) (mvT hZ12 (hw _ (List.mem_of_getElem? (i := 40) rfl))) (by decide) (backOf (W := 1) (rmNN l Z a0 hw [] s2 l12 h12 n0 f14 ) hZ12 (hw _ (List.mem_of_getElem? (i := 40) rfl)) (hw _ (List.mem_of_getElem? (i := 39) rfl)) (by decide) (by decide)) (g := (mkF m 21 #[.val (.ref a), .val (.ref s1), .val (.ref s2)] [(.ref l12), (.ref s2), (.ref a)])) rfl (by rw [hml]; rfl) (argsL := [(.ref s2), (.ref l12)]) (rest := [(.ref a)]) (lenOf own_pd3 rfl) rfl (by show 2 * 0 + _ ≤ _; exact Nat.le_of_eq rfl) (hb hby d_prog_31_m_1_21) (fun _ _ => ⟨rfl, e12, (by decide : 4 + 0 ≤ _), (by decide : 76 + 0 ≤ _)⟩)
  dsimp only [Pt.U, Pt.locs, Pt.cells, Pt.slots] at X13 l13 y13 z13 st13 hQ13
  subst l13 y13 z13
  have f15 : h0.size ≤ h12.size := (Nat.le_trans (Nat.le_trans f5 (Nat.le_of_eq (Wr.size W10).symm)) E12.1)
  obtain ⟨rfl, N13q, eq13⟩ := hQ13
  have N13 := Fr.app N10 N13q
  refine own_up (fun _ k => st13 _ k) ?_
  show own_Go p.tables e below _ (T13.setTop (mkF m 24 #[.val (.ref a), .val (.ref s1), .val (.ref s2)] [(.ref s2), (.ref a)]))
  have f17 : Exa Z h12 s2 "java/lang/String" := (((ES2.ext E2).wr W10).ext E12)
  obtain ⟨T16, X16, e16, st16⟩ := castY X13 hx hZ12 hown12 (hw _ (List.mem_of_getElem? (i := 41) rfl)) eq13 (Ins.self f17) (g := (mkF m 24 #[.val (.ref a), .val (.ref s1), .val (.ref s2)] [(.ref s2), (.ref a)])) rfl rfl (hb hby d_prog_31_m_1_24)
  refine own_up st16 ?_
  show own_Go p.tables e below _ (T16.setTop (mkF m 27 #[.val (.ref a), .val (.ref s1), .val (.ref s2)] [(.ref s2), (.ref a)]))
  have f18 : Fld Z h12 a "com/example/hintikka/hintikka/ontology/FeatureValue" "feature" "Ljava/lang/String;" .null := (((F2.ext E2).other W10 (Or.inr (slot_ne (Or.inr (hw _ (List.mem_of_getElem? (i := 46) rfl))) (Or.inr (hw _ (List.mem_of_getElem? (i := 43) rfl))) (by decide) (t := (.object "java/lang/String")) (t' := (.object "java/lang/String")) (by decide) (by decide)))).ext E12)
  have f19 : Exa Z h12 a "com/example/hintikka/hintikka/ontology/FeatureValue" := ((f9.wr W10).ext E12)
  obtain ⟨T20, h20, X20, e20, W20, st20⟩ := putF X16 hx hZ12 hown12 (host := "") (Or.inl (hw _ (List.mem_of_getElem? (i := 45) rfl))) Via.refl e16 f18 f19 (Or.inr ⟨(hw _ (List.mem_of_getElem? (i := 46) rfl)), rfl, hnm⟩) (hw _ (List.mem_of_getElem? (i := 1) rfl)) (ty := (.object "java/lang/String")) (by decide) rfl rfl (g := (mkF m 27 #[.val (.ref a), .val (.ref s1), .val (.ref s2)] [(.ref s2), (.ref a)])) rfl rfl (hb hby d_prog_31_m_1_27)
  have Fw20 := f18.same W20
  have N20 := Fr.snoc X20 N13 G
  have CR21 := CHr.trans CR12 (CHr.wr W20 (Safe.exa hZ12.alike f19 (by decide) (by decide)) CR12.1)
  have hk21 := (Nat.le_trans hk12 (Nat.le_of_eq (Wr.size W20).symm))
  refine own_up st20 ?_
  show own_Go p.tables e below _ (T20.setTop (mkF m 30 #[.val (.ref a), .val (.ref s1), .val (.ref s2)] []))
  have f22 : Exa Z h20 a "com/example/hintikka/hintikka/ontology/FeatureValue" := (f19.wr W20)
  have f23 : Fld Z h20 a "com/example/hintikka/hintikka/ontology/FeatureValue" "individual" "Ljava/lang/String;" (.ref s1) := ((Fw10.ext E12).other W20 (Or.inr (slot_ne (Or.inr (hw _ (List.mem_of_getElem? (i := 43) rfl))) (Or.inr (hw _ (List.mem_of_getElem? (i := 46) rfl))) (by decide) (t := (.object "java/lang/String")) (t' := (.object "java/lang/String")) (by decide) (by decide))))
  exact own_endW X20 hlk hZ12 (own_EW hw) hS12 hk21 (v := none) (fun _ => rfl) (fun fs hr => X20.returnOut hx Bd.returns (hb hby d_prog_31_m_1_30) hr) e20 hh CR21 ⟨rfl, N20, (((((Keep.refl h0 [a]).ext E2).wr W10 (Or.inl (List.mem_of_getElem? (i := 0) rfl))).ext E12).wr W20 (Or.inl (List.mem_of_getElem? (i := 0) rfl))), f22, f23, Fw20⟩ (by decide) (by decide)
theorem d_prog_31_m_4_0 : decode prog_31_method_4_code 0 = .ok (.aload_n 1, 1) := by decide +kernel
theorem d_prog_31_m_4_1 : decode prog_31_method_4_code 1 = .ok (.instanceof 18, 3) := by decide +kernel
theorem d_prog_31_m_4_4 : decode prog_31_method_4_code 4 = .ok (.ifCond .eq 40, 3) := by decide +kernel
theorem d_prog_31_m_4_44 : decode prog_31_method_4_code 44 = .ok (.iconst 0, 1) := by decide +kernel
theorem d_prog_31_m_4_45 : decode prog_31_method_4_code 45 = .ok (.ireturn, 1) := by decide +kernel
theorem ef_rmEN (m : MethodId) (y0 : Addr) : entryFrame m #[(.ref y0), .null] 3 = mkF m 0 #[.val (.ref y0), .val .null, .unset] [] := by first | (simp [entryFrame, mkF, argsToLocals, Value.category]; done) | rfl
def Q_rmEN (Z : State) (a : Addr) (h0 : Heap) (n0 : Nat) (v : Option Value) (h : Heap) (L : List Loc) : Prop := v = some (.int (0 : Int32)) ∧ Fr n0 L ∧ h = h0
set_option maxRecDepth 65536 in
set_option maxHeartbeats 40000000 in
theorem rmEN (l : Launch) (Z : State) (a0 : Array Value) (hw : ∀ d ∈ tables_1, d.before a0 Z = true) (ws : List Jvm.Cond) (a : Addr) (h0 : Heap) (n0 : Nat) (Z0 : n0 ≤ h0.size) :
    MetFree l (⟨"com/example/hintikka/hintikka/ontology/FeatureValue", "equals", "(Ljava/lang/Object;)Z"⟩ : MethodName) (head1 (Jvm.Cond.code (⟨"com/example/hintikka/hintikka/ontology/FeatureValue", "equals", "(Ljava/lang/Object;)Z"⟩ : MethodName) prog_31_method_4_code 3 (some .boolean) :: ws) ({ frames := 0, cells := 0, slots := 0, locals := 0 } : Room)) (fun ar U => ar = #[(.ref a), .null] ∧ Z.Warmed39 U.vm ∧ U.heap = h0) (fun _ _ _ _ _ => True) (fun _ U o U' => ∃ v L, o = .returned v ∧ Q_rmEN Z a h0 n0 v U'.heap L ∧ FrameEnd U o U' L ({ frames := 0, cells := 0, slots := 0, locals := 0 } : Room).cells ({ frames := 0, cells := 0, slots := 0, locals := 0 } : Room).slots) := by
  refine MetFree.of_bodySF (plainFor_of_name own_pn3) hisR ?_
  intro p e s m args below meth c s₁ Bd hml0 hP hK
  obtain ⟨rfl, hZ, hh⟩ := hP
  have hx := Bd.exec
  have hby := Bd.bytes
  have hlk : meth.locks = false := BodyLoose.notSynchronized Bd
  have hml : c.maxLocals = 3 := hml0
  have hown : s.vm.findClass "com/example/hintikka/hintikka/ontology/FeatureValue" = some m.cls := findClass_of_methodNamed Bd.named
  have hnm := (name_of_methodNamed Bd.named Bd.method).1
  have X0 : Stand p l e ({ frames := 0, cells := 0, slots := 0, locals := 0 } : Room) s m #[(.ref a), .null] below meth c s₁ [] 0 0 := Stand.of_body Bd
  have e0 : s₁.heap = h0 := by rw [← hh, Bd.state]; rfl
  have N0 := Fr.nil n0
  show own_Go p.tables e below (fun u o => ∃ v L, o = .returned v ∧ Q_rmEN Z a h0 n0 v u.heap L ∧ FrameEnd s o u L ({ frames := 0, cells := 0, slots := 0, locals := 0 } : Room).cells ({ frames := 0, cells := 0, slots := 0, locals := 0 } : Room).slots) (s₁.setTop (entryFrame m #[(.ref a), .null] 3))
  refine own_up (fun _ k => castTop (ef_rmEN m a) k) ?_
  show own_Go p.tables e below _ (s₁.setTop (mkF m 0 #[.val (.ref a), .val .null, .unset] []))
  refine own_up (fun _ k => XS.aloadN X0.here hx rfl (hb hby d_prog_31_m_4_0) rfl rfl k) ?_
  show own_Go p.tables e below _ (s₁.setTop (mkF m 1 #[.val (.ref a), .val .null, .unset] [.null]))
  refine own_up (fun _ k => X0.instanceofNull hx (g := (mkF m 1 #[.val (.ref a), .val .null, .unset] [.null])) rfl rfl (hb hby d_prog_31_m_4_1) _ k) ?_
  show own_Go p.tables e below _ (s₁.setTop (mkF m 4 #[.val (.ref a), .val .null, .unset] [(.int (0 : Int32))]))
  refine own_up (fun _ k => XS.ifYes X0.here hx rfl (pc0 := 4) (pc' := 44) rfl (hb hby d_prog_31_m_4_4) rfl ((if0 _ _).trans (teq rfl).1) (by decide) (by decide) k) ?_
  show own_Go p.tables e below _ (s₁.setTop (mkF m 44 #[.val (.ref a), .val .null, .unset] []))
  refine own_up (fun _ k => XS.iconst X0.here hx rfl (hb hby d_prog_31_m_4_44) k) ?_
  show own_Go p.tables e below _ (s₁.setTop (mkF m 45 #[.val (.ref a), .val .null, .unset] [(.int (0 : Int32))]))
  exact own_end X0 hlk (v := some (.int (0 : Int32))) (fun h => by rw [Bd.returns] at h; cases h) (fun fs hr => retN X0 hx (z := (0 : Int32)) (t := .boolean) Bd.returns (by simp) (hb hby d_prog_31_m_4_45) hr) e0 ⟨rfl, N0, rfl⟩ (by decide) (by decide)
theorem ef_rmES (m : MethodId) (y0 : Addr) (y1 : Addr) : entryFrame m #[(.ref y0), (.ref y1)] 3 = mkF m 0 #[.val (.ref y0), .val (.ref y1), .unset] [] := by first | (simp [entryFrame, mkF, argsToLocals, Value.category]; done) | rfl
def Q_rmES (Z : State) (a : Addr) (b : Addr) (h0 : Heap) (n0 : Nat) (v : Option Value) (h : Heap) (L : List Loc) : Prop := v = some (.int (0 : Int32)) ∧ Fr n0 L ∧ h = h0
set_option maxRecDepth 65536 in
set_option maxHeartbeats 40000000 in
theorem rmES (l : Launch) (Z : State) (a0 : Array Value) (hw : ∀ d ∈ tables_1, d.before a0 Z = true) (ws : List Jvm.Cond) (a : Addr) (b : Addr) (h0 : Heap) (n0 : Nat) (Z0 : n0 ≤ h0.size) (E : Exa Z h0 b "java/lang/String") :
    MetFree l (⟨"com/example/hintikka/hintikka/ontology/FeatureValue", "equals", "(Ljava/lang/Object;)Z"⟩ : MethodName) (head1 (Jvm.Cond.code (⟨"com/example/hintikka/hintikka/ontology/FeatureValue", "equals", "(Ljava/lang/Object;)Z"⟩ : MethodName) prog_31_method_4_code 3 (some .boolean) :: ws) ({ frames := 0, cells := 0, slots := 0, locals := 0 } : Room)) (fun ar U => ar = #[(.ref a), (.ref b)] ∧ Z.Warmed39 U.vm ∧ U.heap = h0) (fun _ _ _ _ _ => True) (fun _ U o U' => ∃ v L, o = .returned v ∧ Q_rmES Z a b h0 n0 v U'.heap L ∧ FrameEnd U o U' L ({ frames := 0, cells := 0, slots := 0, locals := 0 } : Room).cells ({ frames := 0, cells := 0, slots := 0, locals := 0 } : Room).slots) := by
  refine MetFree.of_bodySF (plainFor_of_name own_pn3) hisR ?_
  intro p e s m args below meth c s₁ Bd hml0 hP hK
  obtain ⟨rfl, hZ, hh⟩ := hP
  have hx := Bd.exec
  have hby := Bd.bytes
  have hlk : meth.locks = false := BodyLoose.notSynchronized Bd
  have hml : c.maxLocals = 3 := hml0
  have hown : s.vm.findClass "com/example/hintikka/hintikka/ontology/FeatureValue" = some m.cls := findClass_of_methodNamed Bd.named
  have hnm := (name_of_methodNamed Bd.named Bd.method).1
  have X0 : Stand p l e ({ frames := 0, cells := 0, slots := 0, locals := 0 } : Room) s m #[(.ref a), (.ref b)] below meth c s₁ [] 0 0 := Stand.of_body Bd
  have e0 : s₁.heap = h0 := by rw [← hh, Bd.state]; rfl
  have N0 := Fr.nil n0
  show own_Go p.tables e below (fun u o => ∃ v L, o = .returned v ∧ Q_rmES Z a b h0 n0 v u.heap L ∧ FrameEnd s o u L ({ frames := 0, cells := 0, slots := 0, locals := 0 } : Room).cells ({ frames := 0, cells := 0, slots := 0, locals := 0 } : Room).slots) (s₁.setTop (entryFrame m #[(.ref a), (.ref b)] 3))
  refine own_up (fun _ k => castTop (ef_rmES m a b) k) ?_
  show own_Go p.tables e below _ (s₁.setTop (mkF m 0 #[.val (.ref a), .val (.ref b), .unset] []))
  refine own_up (fun _ k => XS.aloadN X0.here hx rfl (hb hby d_prog_31_m_4_0) rfl rfl k) ?_
  show own_Go p.tables e below _ (s₁.setTop (mkF m 1 #[.val (.ref a), .val (.ref b), .unset] [(.ref b)]))
  obtain ⟨T1, X1, e1, st1⟩ := instNo X0 hx hZ hown (hw _ (List.mem_of_getElem? (i := 66) rfl)) e0 E (own_other2 (hw _ (List.mem_of_getElem? (i := 78) rfl)) (hw _ (List.mem_of_getElem? (i := 79) rfl)) (hw _ (List.mem_of_getElem? (i := 1) rfl)) (by decide) (by decide)) (g := (mkF m 1 #[.val (.ref a), .val (.ref b), .unset] [(.ref b)])) rfl rfl (hb hby d_prog_31_m_4_1)
  refine own_up st1 ?_
  show own_Go p.tables e below _ (T1.setTop (mkF m 4 #[.val (.ref a), .val (.ref b), .unset] [(.int (0 : Int32))]))
  refine own_up (fun _ k => XS.ifYes X1.here hx rfl (pc0 := 4) (pc' := 44) rfl (hb hby d_prog_31_m_4_4) rfl ((if0 _ _).trans (teq rfl).1) (by decide) (by decide) k) ?_
  show own_Go p.tables e below _ (T1.setTop (mkF m 44 #[.val (.ref a), .val (.ref b), .unset] []))
  refine own_up (fun _ k => XS.iconst X1.here hx rfl (hb hby d_prog_31_m_4_44) k) ?_
  show own_Go p.tables e below _ (T1.setTop (mkF m 45 #[.val (.ref a), .val (.ref b), .unset] [(.int (0 : Int32))]))
  exact own_end X1 hlk (v := some (.int (0 : Int32))) (fun h => by rw [Bd.returns] at h; cases h) (fun fs hr => retN X1 hx (z := (0 : Int32)) (t := .boolean) Bd.returns (by simp) (hb hby d_prog_31_m_4_45) hr) e1 ⟨rfl, N0, rfl⟩ (by decide) (by decide)
theorem d_prog_31_m_4_7 : decode prog_31_method_4_code 7 = .ok (.aload_n 1, 1) := by decide +kernel
theorem d_prog_31_m_4_8 : decode prog_31_method_4_code 8 = .ok (.checkcast 18, 3) := by decide +kernel
theorem d_prog_31_m_4_11 : decode prog_31_method_4_code 11 = .ok (.astore_n 2, 1) := by decide +kernel
theorem d_prog_31_m_4_12 : decode prog_31_method_4_code 12 = .ok (.aload_n 0, 1) := by decide +kernel
theorem d_prog_31_m_4_13 : decode prog_31_method_4_code 13 = .ok (.getfield 17, 3) := by decide +kernel
theorem d_prog_31_m_4_16 : decode prog_31_method_4_code 16 = .ok (.aload_n 2, 1) := by decide +kernel
theorem d_prog_31_m_4_17 : decode prog_31_method_4_code 17 = .ok (.getfield 17, 3) := by decide +kernel
theorem d_prog_31_m_4_20 : decode prog_31_method_4_code 20 = .ok (.invokevirtual 26, 3) := by decide +kernel
theorem own_pd4 : parseMethodDescriptor "(Ljava/lang/Object;)Z" = some ⟨[(.object "java/lang/Object")], some .boolean⟩ := by decide +kernel
theorem d_prog_31_m_4_23 : decode prog_31_method_4_code 23 = .ok (.ifCond .eq 21, 3) := by decide +kernel
theorem d_prog_31_m_4_26 : decode prog_31_method_4_code 26 = .ok (.aload_n 0, 1) := by decide +kernel
theorem d_prog_31_m_4_27 : decode prog_31_method_4_code 27 = .ok (.getfield 24, 3) := by decide +kernel
theorem d_prog_31_m_4_30 : decode prog_31_method_4_code 30 = .ok (.aload_n 2, 1) := by decide +kernel
theorem d_prog_31_m_4_31 : decode prog_31_method_4_code 31 = .ok (.getfield 24, 3) := by decide +kernel
theorem d_prog_31_m_4_34 : decode prog_31_method_4_code 34 = .ok (.invokevirtual 26, 3) := by decide +kernel
theorem d_prog_31_m_4_37 : decode prog_31_method_4_code 37 = .ok (.ifCond .eq 7, 3) := by decide +kernel
theorem d_prog_31_m_4_40 : decode prog_31_method_4_code 40 = .ok (.iconst 1, 1) := by decide +kernel
theorem d_prog_31_m_4_41 : decode prog_31_method_4_code 41 = .ok (.goto 4, 3) := by decide +kernel
theorem ef_rmEF (m : MethodId) (y0 : Addr) (y1 : Addr) : entryFrame m #[(.ref y0), (.ref y1)] 3 = mkF m 0 #[.val (.ref y0), .val (.ref y1), .unset] [] := by first | (simp [entryFrame, mkF, argsToLocals, Value.category]; done) | rfl
def Q_rmEF (Z : State) (a : Addr) (b : Addr) (G1 : Int32) (s1 : Addr) (s2 : Addr) (s3 : Addr) (s4 : Addr) (t1 : Addr) (t2 : Addr) (t3 : Addr) (t4 : Addr) (k1 : ClassId) (k2 : ClassId) (k3 : ClassId) (k4 : ClassId) (cs1 : List Int32) (cs2 : List Int32) (cs3 : List Int32) (cs4 : List Int32) (h0 : Heap) (n0 : Nat) (v : Option Value) (h : Heap) (L : List Loc) : Prop := v = some (.int (if cs1 = cs3 ∧ cs2 = cs4 then (1 : Int32) else 0)) ∧ Fr n0 L ∧ h = h0
set_option maxRecDepth 65536 in
set_option maxHeartbeats 40000000 in
theorem rmEF (l : Launch) (Z : State) (a0 : Array Value) (hw : ∀ d ∈ tables_1, d.before a0 Z = true) (ws : List Jvm.Cond) (a : Addr) (b : Addr) (G1 : Int32) (s1 : Addr) (s2 : Addr) (s3 : Addr) (s4 : Addr) (t1 : Addr) (t2 : Addr) (t3 : Addr) (t4 : Addr) (k1 : ClassId) (k2 : ClassId) (k3 : ClassId) (k4 : ClassId) (cs1 : List Int32) (cs2 : List Int32) (cs3 : List Int32) (cs4 : List Int32) (h0 : Heap) (n0 : Nat) (Z0 : n0 ≤ h0.size) (O : Old Z n0 h0) (S1 : Sta Z Z.heap "java/lang/String" "COMPACT_STRINGS" "Z" (.int G1)) (P5 : ¬ (G1 = (0 : Int32))) (Eb : Exa Z h0 b "com/example/hintikka/hintikka/ontology/FeatureValue") (Fa1 : Fld Z h0 a "com/example/hintikka/hintikka/ontology/FeatureValue" "individual" "Ljava/lang/String;" (.ref s1)) (Fa2 : Fld Z h0 a "com/example/hintikka/hintikka/ontology/FeatureValue" "feature" "Ljava/lang/String;" (.ref s2)) (Fb1 : Fld Z h0 b "com/example/hintikka/hintikka/ontology/FeatureValue" "individual" "Ljava/lang/String;" (.ref s3)) (Fb2 : Fld Z h0 b "com/example/hintikka/hintikka/ontology/FeatureValue" "feature" "Ljava/lang/String;" (.ref s4)) (p1_0 : Exa Z h0 s1 "java/lang/String") (p1_1 : Fld Z h0 s1 "java/lang/String" "coder" "B" (.int (0 : Int32))) (p1_2 : Fld Z h0 s1 "java/lang/String" "value" "[B" (.ref t1)) (p1_3 : Arv Z h0 t1 k1 .byte (Int32.ofNat cs1.length) ((cs1.map (fun c => c.toInt8.toInt32)).map Value.int) (.int (0 : Int32))) (p2_0 : Exa Z h0 s2 "java/lang/String") (p2_1 : Fld Z h0 s2 "java/lang/String" "coder" "B" (.int (0 : Int32))) (p2_2 : Fld Z h0 s2 "java/lang/String" "value" "[B" (.ref t2)) (p2_3 : Arv Z h0 t2 k2 .byte (Int32.ofNat cs2.length) ((cs2.map (fun c => c.toInt8.toInt32)).map Value.int) (.int (0 : Int32))) (p3_0 : Exa Z h0 s3 "java/lang/String") (p3_1 : Fld Z h0 s3 "java/lang/String" "coder" "B" (.int (0 : Int32))) (p3_2 : Fld Z h0 s3 "java/lang/String" "value" "[B" (.ref t3)) (p3_3 : Arv Z h0 t3 k3 .byte (Int32.ofNat cs3.length) ((cs3.map (fun c => c.toInt8.toInt32)).map Value.int) (.int (0 : Int32))) (p4_0 : Exa Z h0 s4 "java/lang/String") (p4_1 : Fld Z h0 s4 "java/lang/String" "coder" "B" (.int (0 : Int32))) (p4_2 : Fld Z h0 s4 "java/lang/String" "value" "[B" (.ref t4)) (p4_3 : Arv Z h0 t4 k4 .byte (Int32.ofNat cs4.length) ((cs4.map (fun c => c.toInt8.toInt32)).map Value.int) (.int (0 : Int32))) (hb1 : ∀ c ∈ cs1, ¬ c < 0 ∧ ¬ (255 : Int32) < c) (hl1 : cs1.length ≤ 4000) (hb2 : ∀ c ∈ cs2, ¬ c < 0 ∧ ¬ (255 : Int32) < c) (hl2 : cs2.length ≤ 4000) (hb3 : ∀ c ∈ cs3, ¬ c < 0 ∧ ¬ (255 : Int32) < c) (hl3 : cs3.length ≤ 4000) (hb4 : ∀ c ∈ cs4, ¬ c < 0 ∧ ¬ (255 : Int32) < c) (hl4 : cs4.length ≤ 4000) :
    MetFree l (⟨"com/example/hintikka/hintikka/ontology/FeatureValue", "equals", "(Ljava/lang/Object;)Z"⟩ : MethodName) (head1 (Jvm.Cond.code (⟨"com/example/hintikka/hintikka/ontology/FeatureValue", "equals", "(Ljava/lang/Object;)Z"⟩ : MethodName) prog_31_method_4_code 3 (some .boolean) :: ws) ({ frames := 2, cells := 0, slots := 0, locals := 28 } : Room)) (fun ar U => ar = #[(.ref a), (.ref b)] ∧ Z.Warmed39 U.vm ∧ U.heap = h0) (fun _ _ _ _ _ => True) (fun _ U o U' => ∃ v L, o = .returned v ∧ Q_rmEF Z a b G1 s1 s2 s3 s4 t1 t2 t3 t4 k1 k2 k3 k4 cs1 cs2 cs3 cs4 h0 n0 v U'.heap L ∧ FrameEnd U o U' L ({ frames := 2, cells := 0, slots := 0, locals := 28 } : Room).cells ({ frames := 2, cells := 0, slots := 0, locals := 28 } : Room).slots) := by
  refine MetFree.of_bodySF (plainFor_of_name own_pn3) hisR ?_
  intro p e s m args below meth c s₁ Bd hml0 hP hK
  obtain ⟨rfl, hZ, hh⟩ := hP
  have hx := Bd.exec
  have hby := Bd.bytes
  have hlk : meth.locks = false := BodyLoose.notSynchronized Bd
  have hml : c.maxLocals = 3 := hml0
  have hown : s.vm.findClass "com/example/hintikka/hintikka/ontology/FeatureValue" = some m.cls := findClass_of_methodNamed Bd.named
  have hnm := (name_of_methodNamed Bd.named Bd.method).1
  have X0 : Stand p l e ({ frames := 2, cells := 0, slots := 0, locals := 28 } : Room) s m #[(.ref a), (.ref b)] below meth c s₁ [] 0 0 := Stand.of_body Bd
  have e0 : s₁.heap = h0 := by rw [← hh, Bd.state]; rfl
  have N0 := Fr.nil n0
  show own_Go p.tables e below (fun u o => ∃ v L, o = .returned v ∧ Q_rmEF Z a b G1 s1 s2 s3 s4 t1 t2 t3 t4 k1 k2 k3 k4 cs1 cs2 cs3 cs4 h0 n0 v u.heap L ∧ FrameEnd s o u L ({ frames := 2, cells := 0, slots := 0, locals := 28 } : Room).cells ({ frames := 2, cells := 0, slots := 0, locals := 28 } : Room).slots) (s₁.setTop (entryFrame m #[(.ref a), (.ref b)] 3))
  refine own_up (fun _ k => castTop (ef_rmEF m a b) k) ?_
  show own_Go p.tables e below _ (s₁.setTop (mkF m 0 #[.val (.ref a), .val (.ref b), .unset] []))
  have heq : ∀ d ∈ StrChars.Road.wordsEq, d.before a0 Z = true := fun d hd => hw d ((by decide +kernel : ∀ d ∈ StrChars.Road.wordsEq, d ∈ tables_1) d hd)
  refine own_up (fun _ k => XS.aloadN X0.here hx rfl (hb hby d_prog_31_m_4_0) rfl rfl k) ?_
  show own_Go p.tables e below _ (s₁.setTop (mkF m 1 #[.val (.ref a), .val (.ref b), .unset] [(.ref b)]))
  obtain ⟨T1, X1, e1, st1⟩ := instY X0 hx hZ hown (hw _ (List.mem_of_getElem? (i := 66) rfl)) e0 (Ins.self Eb) (g := (mkF m 1 #[.val (.ref a), .val (.ref b), .unset] [(.ref b)])) rfl rfl (hb hby d_prog_31_m_4_1)
  refine own_up st1 ?_
  show own_Go p.tables e below _ (T1.setTop (mkF m 4 #[.val (.ref a), .val (.ref b), .unset] [(.int (1 : Int32))]))
  refine own_up (fun _ k => XS.ifNo X1.here hx rfl (hb hby d_prog_31_m_4_4) rfl ((if0 _ _).trans (feq (by decide)).1) k) ?_
  show own_Go p.tables e below _ (T1.setTop (mkF m 7 #[.val (.ref a), .val (.ref b), .unset] []))
  refine own_up (fun _ k => XS.aloadN X1.here hx rfl (hb hby d_prog_31_m_4_7) rfl rfl k) ?_
  show own_Go p.tables e below _ (T1.setTop (mkF m 8 #[.val (.ref a), .val (.ref b), .unset] [(.ref b)]))
  obtain ⟨T2, X2, e2, st2⟩ := castY X1 hx hZ hown (hw _ (List.mem_of_getElem? (i := 66) rfl)) e1 (Ins.self Eb) (g := (mkF m 8 #[.val (.ref a), .val (.ref b), .unset] [(.ref b)])) rfl rfl (hb hby d_prog_31_m_4_8)
  refine own_up st2 ?_
  show own_Go p.tables e below _ (T2.setTop (mkF m 11 #[.val (.ref a), .val (.ref b), .unset] [(.ref b)]))
  refine own_up (fun _ k => XS.astoreN X2.here hx rfl (hb hby d_prog_31_m_4_11) rfl rfl (l' := #[.val (.ref a), .val (.ref b), .val (.ref b)]) rfl k) ?_
  show own_Go p.tables e below _ (T2.setTop (mkF m 12 #[.val (.ref a), .val (.ref b), .val (.ref b)] []))
  refine own_up (fun _ k => XS.aloadN X2.here hx rfl (hb hby d_prog_31_m_4_12) rfl rfl k) ?_
  show own_Go p.tables e below _ (T2.setTop (mkF m 13 #[.val (.ref a), .val (.ref b), .val (.ref b)] [(.ref a)]))
  obtain ⟨T3, X3, e3, st3⟩ := getF X2 hx hZ hown (host := "") (Or.inl (hw _ (List.mem_of_getElem? (i := 42) rfl))) Via.refl e2 Fa1 (g := (mkF m 13 #[.val (.ref a), .val (.ref b), .val (.ref b)] [(.ref a)])) rfl rfl (hb hby d_prog_31_m_4_13)
  refine own_up st3 ?_
  show own_Go p.tables e below _ (T3.setTop (mkF m 16 #[.val (.ref a), .val (.ref b), .val (.ref b)] [(.ref s1)]))
  refine own_up (fun _ k => XS.aloadN X3.here hx rfl (hb hby d_prog_31_m_4_16) rfl rfl k) ?_
  show own_Go p.tables e below _ (T3.setTop (mkF m 17 #[.val (.ref a), .val (.ref b), .val (.ref b)] [(.ref b), (.ref s1)]))
  obtain ⟨T4, X4, e4, st4⟩ := getF X3 hx hZ hown (host := "") (Or.inl (hw _ (List.mem_of_getElem? (i := 42) rfl))) Via.refl e3 Fb1 (g := (mkF m 17 #[.val (.ref a), .val (.ref b), .val (.ref b)] [(.ref b), (.ref s1)])) rfl rfl (hb hby d_prog_31_m_4_17)
  refine own_up st4 ?_
  show own_Go p.tables e below _ (T4.setTop (mkF m 20 #[.val (.ref a), .val (.ref b), .val (.ref b)] [(.ref s3), (.ref s1)]))
  obtain ⟨cq5, kq5, q5a, q5b, q5c⟩ := isOf hZ e4 p1_0
  obtain ⟨_, _, ⟨T5, L5, k5, n5⟩, -, X5, ⟨Lc5, hQ5, l5, y5, z5⟩, st5⟩ := X4.virtualBack hx (y := (⟨"java/lang/String", "equals", "(Ljava/lang/Object;)Z"⟩ : MethodName)) (z := (⟨"java/lang/String", "equals", "(Ljava/lang/Object;)Z"⟩ : MethodName)) hown (mvT hZ (hw _ (List.mem_of_getElem? (i := 68) rfl))) (mvT hZ (hw _ (List.mem_of_getElem? (i := 69) rfl))) (notFace_of_selects (args := #[]) (mvT hZ (hw _ (List.mem_of_getElem? (i := 71) rfl)))) (mvT hZ (hw _ (List.mem_of_getElem? (i := 71) rfl))) (mvT hZ (hw _ (List.mem_of_getElem? (i := 70) rfl))) (by decide) (StrChars.Road.eqW (W := 0) hZ heq (kI := 4) (hw _ (List.mem_of_getElem? (i := 11) rfl)) p1_0 p1_2 p1_1 p1_3 (StrChars.Road.codOf (n := cs1.length) rfl (fun c hc => (hb1 c hc).2)) (own_up2 hb1) hl1 p3_0 p3_2 p3_1 p3_3 (StrChars.Road.codOf (n := cs3.length) rfl (fun c hc => (hb3 c hc).2)) (own_up2 hb3) hl3 (S1.ext O.2) P5 (by decide) (by decide)) q5a q5c (g := (mkF m 20 #[.val (.ref a), .val (.ref b), .val (.ref b)] [(.ref s3), (.ref s1)])) rfl (by rw [hml]; rfl) (Steps.refl _) (argsL := [(.ref s3)]) (rest := []) (lenOf own_pd4 rfl) rfl (by show 2 * 0 + _ ≤ _; exact Nat.le_of_eq rfl) (hb hby d_prog_31_m_4_20) (fun _ _ => ⟨rfl, e4, (by decide : 0 + 0 ≤ _), (by decide : 0 + 0 ≤ _)⟩)
  dsimp only [Pt.U, Pt.locs, Pt.cells, Pt.slots] at X5 l5 y5 z5 st5 hQ5
  subst l5 y5 z5
  obtain ⟨hcase5, hl5, eq5⟩ := hQ5
  have hv5 := own_case hcase5
  subst hl5 hv5
  have N5 := Fr.app N0 (Fr.nil n0)
  refine own_up (fun _ k => st5.trans k) ?_
  show own_Go p.tables e below _ (T5.setTop (mkF m 23 #[.val (.ref a), .val (.ref b), .val (.ref b)] [(.int (if cs1 = cs3 then (1 : Int32) else 0))]))
  by_cases q1 : cs1 = cs3
  ·
    refine own_up (fun _ k => XS.ifNo X5.here hx rfl (hb hby d_prog_31_m_4_23) rfl ((if0 _ _).trans (feq (by rw [if_pos q1]; decide)).1) k) ?_
    show own_Go p.tables e below _ (T5.setTop (mkF m 26 #[.val (.ref a), .val (.ref b), .val (.ref b)] []))
    refine own_up (fun _ k => XS.aloadN X5.here hx rfl (hb hby d_prog_31_m_4_26) rfl rfl k) ?_
    show own_Go p.tables e below _ (T5.setTop (mkF m 27 #[.val (.ref a), .val (.ref b), .val (.ref b)] [(.ref a)]))
    obtain ⟨T6, X6, e6, st6⟩ := getF X5 hx hZ hown (host := "") (Or.inl (hw _ (List.mem_of_getElem? (i := 45) rfl))) Via.refl eq5 Fa2 (g := (mkF m 27 #[.val (.ref a), .val (.ref b), .val (.ref b)] [(.ref a)])) rfl rfl (hb hby d_prog_31_m_4_27)
    refine own_up st6 ?_
    show own_Go p.tables e below _ (T6.setTop (mkF m 30 #[.val (.ref a), .val (.ref b), .val (.ref b)] [(.ref s2)]))
    refine own_up (fun _ k => XS.aloadN X6.here hx rfl (hb hby d_prog_31_m_4_30) rfl rfl k) ?_
    show own_Go p.tables e below _ (T6.setTop (mkF m 31 #[.val (.ref a), .val (.ref b), .val (.ref b)] [(.ref b), (.ref s2)]))
    obtain ⟨T7, X7, e7, st7⟩ := getF X6 hx hZ hown (host := "") (Or.inl (hw _ (List.mem_of_getElem? (i := 45) rfl))) Via.refl e6 Fb2 (g := (mkF m 31 #[.val (.ref a), .val (.ref b), .val (.ref b)] [(.ref b), (.ref s2)])) rfl rfl (hb hby d_prog_31_m_4_31)
    refine own_up st7 ?_
    show own_Go p.tables e below _ (T7.setTop (mkF m 34 #[.val (.ref a), .val (.ref b), .val (.ref b)] [(.ref s4), (.ref s2)]))
    obtain ⟨cq8, kq8, q8a, q8b, q8c⟩ := isOf hZ e7 p2_0
    obtain ⟨_, _, ⟨T8, L8, k8, n8⟩, -, X8, ⟨Lc8, hQ8, l8, y8, z8⟩, st8⟩ := X7.virtualBack hx (y := (⟨"java/lang/String", "equals", "(Ljava/lang/Object;)Z"⟩ : MethodName)) (z := (⟨"java/lang/String", "equals", "(Ljava/lang/Object;)Z"⟩ : MethodName)) hown (mvT hZ (hw _ (List.mem_of_getElem? (i := 68) rfl))) (mvT hZ (hw _ (List.mem_of_getElem? (i := 69) rfl))) (notFace_of_selects (args := #[]) (mvT hZ (hw _ (List.mem_of_getElem? (i := 71) rfl)))) (mvT hZ (hw _ (List.mem_of_getElem? (i := 71) rfl))) (mvT hZ (hw _ (List.mem_of_getElem? (i := 70) rfl))) (by decide) (StrChars.Road.eqW (W := 0) hZ heq (kI := 4) (hw _ (List.mem_of_getElem? (i := 11) rfl)) p2_0 p2_2 p2_1 p2_3 (StrChars.Road.codOf (n := cs2.length) rfl (fun c hc => (hb2 c hc).2)) (own_up2 hb2) hl2 p4_0 p4_2 p4_1 p4_3 (StrChars.Road.codOf (n := cs4.length) rfl (fun c hc => (hb4 c hc).2)) (own_up2 hb4) hl4 (S1.ext O.2) P5 (by decide) (by decide)) q8a q8c (g := (mkF m 34 #[.val (.ref a), .val (.ref b), .val (.ref b)] [(.ref s4), (.ref s2)])) rfl (by rw [hml]; rfl) (Steps.refl _) (argsL := [(.ref s4)]) (rest := []) (lenOf own_pd4 rfl) rfl (by show 2 * 0 + _ ≤ _; exact Nat.le_of_eq rfl) (hb hby d_prog_31_m_4_34) (fun _ _ => ⟨rfl, e7, (by decide : 0 + 0 ≤ _), (by decide : 0 + 0 ≤ _)⟩)
    dsimp only [Pt.U, Pt.locs, Pt.cells, Pt.slots] at X8 l8 y8 z8 st8 hQ8
    subst l8 y8 z8
    obtain ⟨hcase8, hl8, eq8⟩ := hQ8
    have hv8 := own_case hcase8
    subst hl8 hv8
    have N8 := Fr.app N5 (Fr.nil n0)
    refine own_up (fun _ k => st8.trans k) ?_
    show own_Go p.tables e below _ (T8.setTop (mkF m 37 #[.val (.ref a), .val (.ref b), .val (.ref b)] [(.int (if cs2 = cs4 then (1 : Int32) else 0))]))
    by_cases q2 : cs2 = cs4
    ·
      refine own_up (fun _ k => XS.ifNo X8.here hx rfl (hb hby d_prog_31_m_4_37) rfl ((if0 _ _).trans (feq (by rw [if_pos q2]; decide)).1) k) ?_
      show own_Go p.tables e below _ (T8.setTop (mkF m 40 #[.val (.ref a), .val (.ref b), .val (.ref b)] []))
      refine own_up (fun _ k => XS.iconst X8.here hx rfl (hb hby d_prog_31_m_4_40) k) ?_
      show own_Go p.tables e below _ (T8.setTop (mkF m 41 #[.val (.ref a), .val (.ref b), .val (.ref b)] [(.int (1 : Int32))]))
      refine own_up (fun _ k => XS.goto X8.here hx rfl (pc0 := 41) (pc' := 45) rfl (hb hby d_prog_31_m_4_41) (by decide) (by decide) k) ?_
      show own_Go p.tables e below _ (T8.setTop (mkF m 45 #[.val (.ref a), .val (.ref b), .val (.ref b)] [(.int (1 : Int32))]))
      exact own_end X8 hlk (v := some (.int (1 : Int32))) (fun h => by rw [Bd.returns] at h; cases h) (fun fs hr => retN X8 hx (z := (1 : Int32)) (t := .boolean) Bd.returns (by simp) (hb hby d_prog_31_m_4_45) hr) eq8 ⟨by rw [if_pos ⟨q1, q2⟩], N8, rfl⟩ (by decide) (by decide)
    ·
      refine own_up (fun _ k => XS.ifYes X8.here hx rfl (pc0 := 37) (pc' := 44) rfl (hb hby d_prog_31_m_4_37) rfl ((if0 _ _).trans (teq (if_neg q2)).1) (by decide) (by decide) k) ?_
      show own_Go p.tables e below _ (T8.setTop (mkF m 44 #[.val (.ref a), .val (.ref b), .val (.ref b)] []))
      refine own_up (fun _ k => XS.iconst X8.here hx rfl (hb hby d_prog_31_m_4_44) k) ?_
      show own_Go p.tables e below _ (T8.setTop (mkF m 45 #[.val (.ref a), .val (.ref b), .val (.ref b)] [(.int (0 : Int32))]))
      exact own_end X8 hlk (v := some (.int (0 : Int32))) (fun h => by rw [Bd.returns] at h; cases h) (fun fs hr => retN X8 hx (z := (0 : Int32)) (t := .boolean) Bd.returns (by simp) (hb hby d_prog_31_m_4_45) hr) eq8 ⟨by rw [if_neg (fun q => q2 q.2)], N8, rfl⟩ (by decide) (by decide)
  ·
    refine own_up (fun _ k => XS.ifYes X5.here hx rfl (pc0 := 23) (pc' := 44) rfl (hb hby d_prog_31_m_4_23) rfl ((if0 _ _).trans (teq (if_neg q1)).1) (by decide) (by decide) k) ?_
    show own_Go p.tables e below _ (T5.setTop (mkF m 44 #[.val (.ref a), .val (.ref b), .val (.ref b)] []))
    refine own_up (fun _ k => XS.iconst X5.here hx rfl (hb hby d_prog_31_m_4_44) k) ?_
    show own_Go p.tables e below _ (T5.setTop (mkF m 45 #[.val (.ref a), .val (.ref b), .val (.ref b)] [(.int (0 : Int32))]))
    exact own_end X5 hlk (v := some (.int (0 : Int32))) (fun h => by rw [Bd.returns] at h; cases h) (fun fs hr => retN X5 hx (z := (0 : Int32)) (t := .boolean) Bd.returns (by simp) (hb hby d_prog_31_m_4_45) hr) eq5 ⟨by rw [if_neg (fun q => q1 q.1)], N5, rfl⟩ (by decide) (by decide)
theorem own_pd5 : parseMethodDescriptor "(I)Ljava/lang/String;" = some ⟨[.int], some (.object "java/lang/String")⟩ := by decide +kernel
theorem own_pd6 : parseMethodDescriptor "(Ljava/lang/String;Ljava/lang/String;)V" = some ⟨[(.object "java/lang/String"), (.object "java/lang/String")], none⟩ := by decide +kernel
theorem ef_rm0 (m : MethodId) (y0 : Int32) (y1 : Int32) (y2 : Int32) (y3 : Int32) (y4 : Int32) : entryFrame m #[(.int y0), (.int y1), (.int y2), (.int y3), (.int y4)] maxLocals = mkF m 0 #[.val (.int y0), .val (.int y1), .val (.int y2), .val (.int y3), .val (.int y4), .unset, .unset, .unset, .unset, .unset, .unset] [] := by first | (simp [entryFrame, mkF, argsToLocals, Value.category, maxLocals]; done) | rfl
def Q_rm0 (Z : State) (p0 : Int32) (p1 : Int32) (p2 : Int32) (p3 : Int32) (p4 : Int32) (G1 : Int32) (h0 : Heap) (n0 : Nat) (v : Option Value) (h : Heap) (L : List Loc) : Prop := v = some (.int (1 : Int32)) ∧ Fr n0 L
set_option maxRecDepth 65536 in
set_option maxHeartbeats 40000000 in
theorem rm0 (l : Launch) (Z : State) (a0 : Array Value) (hw : ∀ d ∈ tables_1, d.before a0 Z = true) (ws : List Jvm.Cond) (p0 : Int32) (p1 : Int32) (p2 : Int32) (p3 : Int32) (p4 : Int32) (G1 : Int32) (h0 : Heap) (n0 : Nat) (Z0 : n0 ≤ h0.size) (O : Old Z n0 h0) (S1 : Sta Z Z.heap "java/lang/String" "COMPACT_STRINGS" "Z" (.int G1)) (P5 : ¬ (G1 = (0 : Int32))) :
    MetFree l x (head1 (Jvm.Cond.code x code maxLocals ret :: ws) room_1) (fun ar U => ar = #[(.int p0), (.int p1), (.int p2), (.int p3), (.int p4)] ∧ Z.Warmed39 U.vm ∧ U.heap = h0 ∧ CHv Z own_EL U.vm h0) (fun _ _ _ _ _ => True) (fun _ U o U' => ∃ v L, o = .returned v ∧ Q_rm0 Z p0 p1 p2 p3 p4 G1 h0 n0 v U'.heap L ∧ CHr Z own_EL U.vm U.heap U'.vm U'.heap ∧ ReturnedEndW U o U' L room_1.cells room_1.slots) := by
  refine MetFree.of_bodySF (plainFor_of_name own_pn1) hisR ?_
  intro p e s m args below meth c s₁ Bd hml0 hP hK
  obtain ⟨rfl, hZ, hh, hC0⟩ := hP
  have hx := Bd.exec
  have hby := Bd.bytes
  have hlk : meth.locks = false := BodyLoose.notSynchronized Bd
  have hml : c.maxLocals = 11 := hml0
  have hown : s.vm.findClass "com/example/hintikka/hintikka/ontology/FeatureValueEqualsPinLaw" = some m.cls := findClass_of_methodNamed Bd.named
  have hnm := (name_of_methodNamed Bd.named Bd.method).1
  have X0 : Stand p l e room_1 (s.setVm s.vm) m #[(.int p0), (.int p1), (.int p2), (.int p3), (.int p4)] below meth c s₁ [] 0 0 := Stand.of_body Bd
  have e0 : s₁.heap = h0 := by rw [← hh, Bd.state]; rfl
  have N0 := Fr.nil n0
  have hS0 : s.Since s.vm 0 := (State.WarmedH.refl s).since 0
  have hk0 : 0 ≤ h0.size := Nat.zero_le _
  have CR0 : CHr Z own_EL s.vm h0 s.vm h0 := CHr.refl hC0
  have wS := own_wS hw
  show own_Go p.tables e below (fun u o => ∃ v L, o = .returned v ∧ Q_rm0 Z p0 p1 p2 p3 p4 G1 h0 n0 v u.heap L ∧ CHr Z own_EL s.vm s.heap u.vm u.heap ∧ ReturnedEndW s o u L room_1.cells room_1.slots) (s₁.setTop (entryFrame m #[(.int p0), (.int p1), (.int p2), (.int p3), (.int p4)] maxLocals))
  refine own_up (fun _ k => castTop (ef_rm0 m p0 p1 p2 p3 p4) k) ?_
  show own_Go p.tables e below _ (s₁.setTop (mkF m 0 #[.val (.int p0), .val (.int p1), .val (.int p2), .val (.int p3), .val (.int p4), .unset, .unset, .unset, .unset, .unset, .unset] []))
  refine own_up (fun _ k => XS.iload X0.here hx rfl (hb hby at_0) rfl k) ?_
  show own_Go p.tables e below _ (s₁.setTop (mkF m 2 #[.val (.int p0), .val (.int p1), .val (.int p2), .val (.int p3), .val (.int p4), .unset, .unset, .unset, .unset, .unset, .unset] [(.int p4)]))
  refine own_up (fun _ k => XS.iconst X0.here hx rfl (hb hby at_2) k) ?_
  show own_Go p.tables e below _ (s₁.setTop (mkF m 3 #[.val (.int p0), .val (.int p1), .val (.int p2), .val (.int p3), .val (.int p4), .unset, .unset, .unset, .unset, .unset, .unset] [(.int (1 : Int32)), (.int p4)]))
  refine own_up (fun _ k => XS.iand X0.here hx rfl (hb hby at_3) rfl k) ?_
  show own_Go p.tables e below _ (s₁.setTop (mkF m 4 #[.val (.int p0), .val (.int p1), .val (.int p2), .val (.int p3), .val (.int p4), .unset, .unset, .unset, .unset, .unset, .unset] [(.int (p4 &&& (1 : Int32)))]))
  have t28 : ∀ (Tt1 : State) (Lt1 : List Loc) (Xt1 : Stand p l e room_1 (s.setVm s.vm) m #[(.int p0), (.int p1), (.int p2), (.int p3), (.int p4)] below meth c Tt1 Lt1 0 0) (et1 : Tt1.heap = h0) (Nt1 : Fr n0 Lt1) (y5 : Int32) (y6 : Int32), own_Go p.tables e below (fun u o => ∃ v L, o = .returned v ∧ Q_rm0 Z p0 p1 p2 p3 p4 G1 h0 n0 v u.heap L ∧ CHr Z own_EL s.vm s.heap u.vm u.heap ∧ ReturnedEndW s o u L room_1.cells room_1.slots) (Tt1.setTop (mkF m 28 #[.val (.int p0), .val (.int p1), .val (.int p2), .val (.int p3), .val (.int p4), .val (.int y5), .val (.int y6), .unset, .unset, .unset, .unset] [])) := by
    intro Tt1 Lt1 Xt1 et1 Nt1 y5 y6
    obtain ⟨T2, h2, X2, e2, E2, A2, D2, -, st2⟩ := newO Xt1 hx hZ hown (hw _ (List.mem_of_getElem? (i := 0) rfl)) (hw _ (List.mem_of_getElem? (i := 1) rfl)) (hw _ (List.mem_of_getElem? (i := 2) rfl)) et1 (g := (mkF m 28 #[.val (.int p0), .val (.int p1), .val (.int p2), .val (.int p3), .val (.int p4), .val (.int y5), .val (.int y6), .unset, .unset, .unset, .unset] [])) rfl (hb hby at_28) (by decide) (by decide)
    obtain ⟨b2, g2⟩ : ∃ z, z = h0.size := ⟨_, rfl⟩
    rw [← g2] at A2 D2 st2
    have ge2 : n0 ≤ b2 := Nat.le_trans Z0 (Nat.le_of_eq g2.symm)
    have CR3 := CHr.trans CR0 (CHr.ext E2 CR0.1)
    have hk3 := (Nat.le_trans hk0 E2.1)
    refine own_up st2 ?_
    have F2_individual : Fld Z h2 b2 "com/example/hintikka/hintikka/ontology/FeatureValue" "individual" "Ljava/lang/String;" .null := D2 (Or.inr (hw _ (List.mem_of_getElem? (i := 43) rfl))) (ty := (.object "java/lang/String")) (by decide)
    have F2_feature : Fld Z h2 b2 "com/example/hintikka/hintikka/ontology/FeatureValue" "feature" "Ljava/lang/String;" .null := D2 (Or.inr (hw _ (List.mem_of_getElem? (i := 46) rfl))) (ty := (.object "java/lang/String")) (by decide)
    show own_Go p.tables e below _ (T2.setTop (mkF m 31 #[.val (.int p0), .val (.int p1), .val (.int p2), .val (.int p3), .val (.int p4), .val (.int y5), .val (.int y6), .unset, .unset, .unset, .unset] [(.ref b2)]))
    refine own_up (fun _ k => XS.dup X2.here hx rfl (hb hby at_31) rfl rfl k) ?_
    show own_Go p.tables e below _ (T2.setTop (mkF m 32 #[.val (.int p0), .val (.int p1), .val (.int p2), .val (.int p3), .val (.int p4), .val (.int y5), .val (.int y6), .unset, .unset, .unset, .unset] [(.ref b2), (.ref b2)]))
    refine own_up (fun _ k => XS.iloadN X2.here hx rfl (hb hby at_32) rfl k) ?_
    show own_Go p.tables e below _ (T2.setTop (mkF m 33 #[.val (.int p0), .val (.int p1), .val (.int p2), .val (.int p3), .val (.int p4), .val (.int y5), .val (.int y6), .unset, .unset, .unset, .unset] [(.int p0), (.ref b2), (.ref b2)]))
    have f5 : Old Z n0 h2 := (O.ext E2)
    have f6 : n0 ≤ h2.size := (Nat.le_trans Z0 E2.1)
    obtain ⟨_, _, ⟨T4, L4, k4, n4⟩, -, X4', hS4', hg4', ⟨Lc4, hQ4, l4, y4, z4, A4⟩, st4⟩ := callSS X2 hx (y := (⟨"com/example/hintikka/hintikka/ontology/FeatureValueEqualsPinLaw", "mk", "(I)Ljava/lang/String;"⟩ : MethodName)) hown (mvT hZ (hw _ (List.mem_of_getElem? (i := 3) rfl))) (mvT hZ (hw _ (List.mem_of_getElem? (i := 4) rfl))) (mvT hZ (hw _ (List.mem_of_getElem? (i := 5) rfl))) (mvT hZ (hw _ (List.mem_of_getElem? (i := 6) rfl))) (by decide) (backOfSH (W := 2) (rmMk l Z a0 hw [] p0 G1 h2 n0 f6 f5 S1 P5) hZ (hw _ (List.mem_of_getElem? (i := 6) rfl)) (hw _ (List.mem_of_getElem? (i := 5) rfl)) (by decide) (by decide) (own_EW hw) CR3.1) (g := (mkF m 33 #[.val (.int p0), .val (.int p1), .val (.int p2), .val (.int p3), .val (.int p4), .val (.int y5), .val (.int y6), .unset, .unset, .unset, .unset] [(.int p0), (.ref b2), (.ref b2)])) rfl (by rw [hml]; rfl) (argsL := [(.int p0)]) (rest := [(.ref b2), (.ref b2)]) (lenOf own_pd5 rfl) rfl (by show 2 * 0 + _ ≤ _; exact Nat.le_of_eq rfl) (hb hby at_33) (fun _ _ => ⟨rfl, e2, (by decide : 1 + 6 ≤ _), (by decide : 2 + 12 ≤ _)⟩)
    dsimp only [Pt.U, Pt.locs, Pt.cells, Pt.slots] at X4' hS4' hg4' l4 y4 z4 A4 st4 hQ4
    subst l4 y4 z4
    obtain ⟨X4, hS4, hZ4, hown4⟩ := rebS hS0 (by rw [e2]; exact hk3) X4' hS4' hg4' hZ hown
    obtain ⟨sb_4, tb_4, kb_4, rfl, N4q, K4, P4_0, P4_1, P4_2, P4_3, P4_4⟩ := hQ4
    have N4 := Fr.app Nt1 N4q
    refine own_up (fun _ k => st4.trans k) ?_
    have CR4 := CHr.trans CR3 A4
    have hk4 : T4.heap.size ≤ T4.heap.size := Nat.le_refl _
    have nl4_0_0 : b2 ≠ sb_4 := Nat.ne_of_lt (Nat.lt_of_lt_of_le A2.lt P4_0)
    show own_Go p.tables e below _ (T4.setTop (mkF m 36 #[.val (.int p0), .val (.int p1), .val (.int p2), .val (.int p3), .val (.int p4), .val (.int y5), .val (.int y6), .unset, .unset, .unset, .unset] [(.ref sb_4), (.ref b2), (.ref b2)]))
    have f8 : Exa Z T4.heap b2 "com/example/hintikka/hintikka/ontology/FeatureValue" := (A2.keep K4)
    have na7 : b2 ≠ tb_4 := Exa.neArv f8 P4_4 (hw _ (List.mem_of_getElem? (i := 1) rfl))
    refine own_up (fun _ k => XS.iloadN X4.here hx rfl (hb hby at_36) rfl k) ?_
    show own_Go p.tables e below _ (T4.setTop (mkF m 37 #[.val (.int p0), .val (.int p1), .val (.int p2), .val (.int p3), .val (.int p4), .val (.int y5), .val (.int y6), .unset, .unset, .unset, .unset] [(.int p1), (.ref sb_4), (.ref b2), (.ref b2)]))
    have f10 : Old Z n0 T4.heap := (f5.keep K4 all0)
    have f11 : n0 ≤ T4.heap.size := (Nat.le_trans f6 K4.1)
    obtain ⟨_, _, ⟨T9, L9, k9, n9⟩, -, X9', hS9', hg9', ⟨Lc9, hQ9, l9, y9, z9, A9⟩, st9⟩ := callSS X4 hx (y := (⟨"com/example/hintikka/hintikka/ontology/FeatureValueEqualsPinLaw", "mk", "(I)Ljava/lang/String;"⟩ : MethodName)) hown4 (mvT hZ4 (hw _ (List.mem_of_getElem? (i := 3) rfl))) (mvT hZ4 (hw _ (List.mem_of_getElem? (i := 4) rfl))) (mvT hZ4 (hw _ (List.mem_of_getElem? (i := 5) rfl))) (mvT hZ4 (hw _ (List.mem_of_getElem? (i := 6) rfl))) (by decide) (backOfSH (W := 3) (rmMk l Z a0 hw [] p1 G1 T4.heap n0 f11 f10 S1 P5) hZ4 (hw _ (List.mem_of_getElem? (i := 6) rfl)) (hw _ (List.mem_of_getElem? (i := 5) rfl)) (by decide) (by decide) (own_EW hw) CR4.1) (g := (mkF m 37 #[.val (.int p0), .val (.int p1), .val (.int p2), .val (.int p3), .val (.int p4), .val (.int y5), .val (.int y6), .unset, .unset, .unset, .unset] [(.int p1), (.ref sb_4), (.ref b2), (.ref b2)])) rfl (by rw [hml]; rfl) (argsL := [(.int p1)]) (rest := [(.ref sb_4), (.ref b2), (.ref b2)]) (lenOf own_pd5 rfl) rfl (by show 2 * 0 + _ ≤ _; exact Nat.le_of_eq rfl) (hb hby at_37) (fun _ _ => ⟨rfl, rfl, (by decide : 7 + 6 ≤ _), (by decide : 14 + 12 ≤ _)⟩)
    dsimp only [Pt.U, Pt.locs, Pt.cells, Pt.slots] at X9' hS9' hg9' l9 y9 z9 A9 st9 hQ9
    subst l9 y9 z9
    obtain ⟨X9, hS9, hZ9, hown9⟩ := rebS hS4 hk4 X9' hS9' hg9' hZ4 hown4
    obtain ⟨sb_9, tb_9, kb_9, rfl, N9q, K9, P9_0, P9_1, P9_2, P9_3, P9_4⟩ := hQ9
    have N9 := Fr.app N4 N9q
    refine own_up (fun _ k => st9.trans k) ?_
    have CR9 := CHr.trans CR4 A9
    have hk9 : T9.heap.size ≤ T9.heap.size := Nat.le_refl _
    have nl9_0_0 : b2 ≠ sb_9 := Nat.ne_of_lt (Nat.lt_of_lt_of_le f8.lt P9_0)
    have nl9_0_1 : sb_4 ≠ sb_9 := Nat.ne_of_lt (Nat.lt_of_lt_of_le P4_1.lt P9_0)
    have nl9_0_2 : tb_4 ≠ sb_9 := Nat.ne_of_lt (Nat.lt_of_lt_of_le P4_4.lt P9_0)
    show own_Go p.tables e below _ (T9.setTop (mkF m 40 #[.val (.int p0), .val (.int p1), .val (.int p2), .val (.int p3), .val (.int p4), .val (.int y5), .val (.int y6), .unset, .unset, .unset, .unset] [(.ref sb_9), (.ref sb_4), (.ref b2), (.ref b2)]))
    have f13 : Exa Z T9.heap b2 "com/example/hintikka/hintikka/ontology/FeatureValue" := (f8.keep K9)
    have na12 : b2 ≠ tb_9 := Exa.neArv f13 P9_4 (hw _ (List.mem_of_getElem? (i := 1) rfl))
    have f15 : Fld Z T9.heap b2 "com/example/hintikka/hintikka/ontology/FeatureValue" "individual" "Ljava/lang/String;" .null := ((F2_individual.keep K4 nin0).keep K9 nin0)
    have f16 : Fld Z T9.heap b2 "com/example/hintikka/hintikka/ontology/FeatureValue" "feature" "Ljava/lang/String;" .null := ((F2_feature.keep K4 nin0).keep K9 nin0)
    have f17 : Exa Z T9.heap sb_4 "java/lang/String" := (P4_1.keep K9)
    have f18 : n0 ≤ T9.heap.size := (Nat.le_trans f11 K9.1)
    obtain ⟨_, _, ⟨T14, L14, k14, n14⟩, -, X14', hS14', hg14', ⟨Lc14, hQ14, l14, y14, z14, A14⟩, st14⟩ := X9.specialBackS hx (y := (⟨"com/example/hintikka/hintikka/ontology/FeatureValue", "<init>", "(Ljava/lang/String;Ljava/lang/String;)V"⟩ : MethodName)) rfl hown9 (mvT hZ9 (hw _ (List.mem_of_getElem? (i := 32) rfl))) (mvT hZ9 (hw _ (List.mem_of_getElem? (i := 33) rfl))) (mvT hZ9 (hw _ (List.mem_of_getElem? (i := 34) rfl))) (by decide) (backOfSH (W := 1) (rmFV l Z a0 hw [] b2 sb_4 sb_9 T9.heap n0 f18 f13 f15 f16 ge2 f17 P9_1) hZ9 (hw _ (List.mem_of_getElem? (i := 34) rfl)) (hw _ (List.mem_of_getElem? (i := 2) rfl)) (by decide) (by decide) (own_EW hw) CR9.1) (g := (mkF m 40 #[.val (.int p0), .val (.int p1), .val (.int p2), .val (.int p3), .val (.int p4), .val (.int y5), .val (.int y6), .unset, .unset, .unset, .unset] [(.ref sb_9), (.ref sb_4), (.ref b2), (.ref b2)])) rfl (by rw [hml]; rfl) (Steps.refl _) (a := b2) (argsL := [(.ref sb_4), (.ref sb_9)]) (rest := [(.ref b2)]) (lenOf own_pd6 rfl) rfl (by show 2 * 0 + _ ≤ _; exact Nat.le_of_eq rfl) (hb hby at_40) (fun _ _ => ⟨rfl, rfl, (by decide : 13 + 4 ≤ _), (by decide : 26 + 76 ≤ _)⟩)
    dsimp only [Pt.U, Pt.locs, Pt.cells, Pt.slots] at X14' hS14' hg14' l14 y14 z14 A14 st14 hQ14
    subst l14 y14 z14
    obtain ⟨X14, hS14, hZ14, hown14⟩ := rebS hS9 hk9 X14' hS14' hg14' hZ9 hown9
    obtain ⟨rfl, N14q, K14, P14_0, P14_1, P14_2⟩ := hQ14
    have N14 := Fr.app N9 N14q
    refine own_up (fun _ k => st14.trans k) ?_
    have CR14 := CHr.trans CR9 A14
    have hk14 : T14.heap.size ≤ T14.heap.size := Nat.le_refl _
    show own_Go p.tables e below _ (T14.setTop (mkF m 43 #[.val (.int p0), .val (.int p1), .val (.int p2), .val (.int p3), .val (.int p4), .val (.int y5), .val (.int y6), .unset, .unset, .unset, .unset] [(.ref b2)]))
    refine own_up (fun _ k => XS.astore X14.here hx rfl (hb hby at_43) rfl rfl (l' := #[.val (.int p0), .val (.int p1), .val (.int p2), .val (.int p3), .val (.int p4), .val (.int y5), .val (.int y6), .val (.ref b2), .unset, .unset, .unset]) rfl k) ?_
    show own_Go p.tables e below _ (T14.setTop (mkF m 45 #[.val (.int p0), .val (.int p1), .val (.int p2), .val (.int p3), .val (.int p4), .val (.int y5), .val (.int y6), .val (.ref b2), .unset, .unset, .unset] []))
    obtain ⟨T19, h19, X19, e19, E19, A19, D19, -, st19⟩ := newO X14 hx hZ14 hown14 (hw _ (List.mem_of_getElem? (i := 0) rfl)) (hw _ (List.mem_of_getElem? (i := 1) rfl)) (hw _ (List.mem_of_getElem? (i := 2) rfl)) rfl (g := (mkF m 45 #[.val (.int p0), .val (.int p1), .val (.int p2), .val (.int p3), .val (.int p4), .val (.int y5), .val (.int y6), .val (.ref b2), .unset, .unset, .unset] [])) rfl (hb hby at_45) (by decide) (by decide)
    have f20 : n0 ≤ T14.heap.size := (Nat.le_trans f18 K14.1)
    have f21 : Exa Z T14.heap sb_4 "java/lang/String" := (f17.keep K14)
    have f22 : Arv Z T14.heap tb_4 kb_4 .byte (Int32.ofNat (own_cs p0).length) (((own_cs p0).map (fun c => c.toInt8.toInt32)).map Value.int) (.int (0 : Int32)) := ((P4_4.keep K9 nin0).keep K14 (ninS (Ne.symm na7) nin0))
    have f23 : Exa Z T14.heap sb_9 "java/lang/String" := (P9_1.keep K14)
    have f24 : Arv Z T14.heap tb_9 kb_9 .byte (Int32.ofNat (own_cs p1).length) (((own_cs p1).map (fun c => c.toInt8.toInt32)).map Value.int) (.int (0 : Int32)) := (P9_4.keep K14 (ninS (Ne.symm na12) nin0))
    obtain ⟨b19, g19⟩ : ∃ z, z = T14.heap.size := ⟨_, rfl⟩
    rw [← g19] at A19 D19 st19
    have ge19 : n0 ≤ b19 := Nat.le_trans f20 (Nat.le_of_eq g19.symm)
    have ne19_0 : b2 ≠ b19 := Nat.ne_of_lt (Nat.lt_of_lt_of_le P14_0.lt (Nat.le_of_eq g19.symm))
    have ne19_1 : sb_4 ≠ b19 := Nat.ne_of_lt (Nat.lt_of_lt_of_le f21.lt (Nat.le_of_eq g19.symm))
    have ne19_2 : tb_4 ≠ b19 := Nat.ne_of_lt (Nat.lt_of_lt_of_le f22.lt (Nat.le_of_eq g19.symm))
    have ne19_3 : sb_9 ≠ b19 := Nat.ne_of_lt (Nat.lt_of_lt_of_le f23.lt (Nat.le_of_eq g19.symm))
    have ne19_4 : tb_9 ≠ b19 := Nat.ne_of_lt (Nat.lt_of_lt_of_le f24.lt (Nat.le_of_eq g19.symm))
    have CR25 := CHr.trans CR14 (CHr.ext E19 CR14.1)
    have hk25 := (Nat.le_trans hk14 E19.1)
    refine own_up st19 ?_
    have F19_individual : Fld Z h19 b19 "com/example/hintikka/hintikka/ontology/FeatureValue" "individual" "Ljava/lang/String;" .null := D19 (Or.inr (hw _ (List.mem_of_getElem? (i := 43) rfl))) (ty := (.object "java/lang/String")) (by decide)
    have F19_feature : Fld Z h19 b19 "com/example/hintikka/hintikka/ontology/FeatureValue" "feature" "Ljava/lang/String;" .null := D19 (Or.inr (hw _ (List.mem_of_getElem? (i := 46) rfl))) (ty := (.object "java/lang/String")) (by decide)
    show own_Go p.tables e below _ (T19.setTop (mkF m 48 #[.val (.int p0), .val (.int p1), .val (.int p2), .val (.int p3), .val (.int p4), .val (.int y5), .val (.int y6), .val (.ref b2), .unset, .unset, .unset] [(.ref b19)]))
    refine own_up (fun _ k => XS.dup X19.here hx rfl (hb hby at_48) rfl rfl k) ?_
    show own_Go p.tables e below _ (T19.setTop (mkF m 49 #[.val (.int p0), .val (.int p1), .val (.int p2), .val (.int p3), .val (.int p4), .val (.int y5), .val (.int y6), .val (.ref b2), .unset, .unset, .unset] [(.ref b19), (.ref b19)]))
    refine own_up (fun _ k => XS.iload X19.here hx rfl (hb hby at_49) rfl k) ?_
    show own_Go p.tables e below _ (T19.setTop (mkF m 51 #[.val (.int p0), .val (.int p1), .val (.int p2), .val (.int p3), .val (.int p4), .val (.int y5), .val (.int y6), .val (.ref b2), .unset, .unset, .unset] [(.int y5), (.ref b19), (.ref b19)]))
    have f27 : Old Z n0 h19 := (((f10.keep K9 all0).keep K14 (allS ge2 all0)).ext E19)
    have f28 : n0 ≤ h19.size := (Nat.le_trans f20 E19.1)
    obtain ⟨_, _, ⟨T26, L26, k26, n26⟩, -, X26', hS26', hg26', ⟨Lc26, hQ26, l26, y26, z26, A26⟩, st26⟩ := callSS X19 hx (y := (⟨"com/example/hintikka/hintikka/ontology/FeatureValueEqualsPinLaw", "mk", "(I)Ljava/lang/String;"⟩ : MethodName)) hown14 (mvT hZ14 (hw _ (List.mem_of_getElem? (i := 3) rfl))) (mvT hZ14 (hw _ (List.mem_of_getElem? (i := 4) rfl))) (mvT hZ14 (hw _ (List.mem_of_getElem? (i := 5) rfl))) (mvT hZ14 (hw _ (List.mem_of_getElem? (i := 6) rfl))) (by decide) (backOfSH (W := 2) (rmMk l Z a0 hw [] y5 G1 h19 n0 f28 f27 S1 P5) hZ14 (hw _ (List.mem_of_getElem? (i := 6) rfl)) (hw _ (List.mem_of_getElem? (i := 5) rfl)) (by decide) (by decide) (own_EW hw) CR25.1) (g := (mkF m 51 #[.val (.int p0), .val (.int p1), .val (.int p2), .val (.int p3), .val (.int p4), .val (.int y5), .val (.int y6), .val (.ref b2), .unset, .unset, .unset] [(.int y5), (.ref b19), (.ref b19)])) rfl (by rw [hml]; rfl) (argsL := [(.int y5)]) (rest := [(.ref b19), (.ref b19)]) (lenOf own_pd5 rfl) rfl (by show 2 * 0 + _ ≤ _; exact Nat.le_of_eq rfl) (hb hby at_51) (fun _ _ => ⟨rfl, e19, (by decide : 18 + 6 ≤ _), (by decide : 104 + 12 ≤ _)⟩)
    dsimp only [Pt.U, Pt.locs, Pt.cells, Pt.slots] at X26' hS26' hg26' l26 y26 z26 A26 st26 hQ26
    subst l26 y26 z26
    obtain ⟨X26, hS26, hZ26, hown26⟩ := rebS hS14 (by rw [e19]; exact hk25) X26' hS26' hg26' hZ14 hown14
    have f29 : Exa Z h19 b2 "com/example/hintikka/hintikka/ontology/FeatureValue" := (P14_0.ext E19)
    have f30 : Exa Z h19 sb_4 "java/lang/String" := (f21.ext E19)
    have f31 : Arv Z h19 tb_4 kb_4 .byte (Int32.ofNat (own_cs p0).length) (((own_cs p0).map (fun c => c.toInt8.toInt32)).map Value.int) (.int (0 : Int32)) := (f22.ext E19)
    have f32 : Exa Z h19 sb_9 "java/lang/String" := (f23.ext E19)
    have f33 : Arv Z h19 tb_9 kb_9 .byte (Int32.ofNat (own_cs p1).length) (((own_cs p1).map (fun c => c.toInt8.toInt32)).map Value.int) (.int (0 : Int32)) := (f24.ext E19)
    obtain ⟨sb_26, tb_26, kb_26, rfl, N26q, K26, P26_0, P26_1, P26_2, P26_3, P26_4⟩ := hQ26
    have N26 := Fr.app N14 N26q
    refine own_up (fun _ k => st26.trans k) ?_
    have CR26 := CHr.trans CR25 A26
    have hk26 : T26.heap.size ≤ T26.heap.size := Nat.le_refl _
    have nl26_0_0 : b2 ≠ sb_26 := Nat.ne_of_lt (Nat.lt_of_lt_of_le f29.lt P26_0)
    have nl26_0_1 : sb_4 ≠ sb_26 := Nat.ne_of_lt (Nat.lt_of_lt_of_le f30.lt P26_0)
    have nl26_0_2 : tb_4 ≠ sb_26 := Nat.ne_of_lt (Nat.lt_of_lt_of_le f31.lt P26_0)
    have nl26_0_3 : sb_9 ≠ sb_26 := Nat.ne_of_lt (Nat.lt_of_lt_of_le f32.lt P26_0)
    have nl26_0_4 : tb_9 ≠ sb_26 := Nat.ne_of_lt (Nat.lt_of_lt_of_le f33.lt P26_0)
    have nl26_0_5 : b19 ≠ sb_26 := Nat.ne_of_lt (Nat.lt_of_lt_of_le A19.lt P26_0)
    show own_Go p.tables e below _ (T26.setTop (mkF m 54 #[.val (.int p0), .val (.int p1), .val (.int p2), .val (.int p3), .val (.int p4), .val (.int y5), .val (.int y6), .val (.ref b2), .unset, .unset, .unset] [(.ref sb_26), (.ref b19), (.ref b19)]))
    have f35 : Exa Z T26.heap b2 "com/example/hintikka/hintikka/ontology/FeatureValue" := (f29.keep K26)
    have na34 : b2 ≠ tb_26 := Exa.neArv f35 P26_4 (hw _ (List.mem_of_getElem? (i := 1) rfl))
    have f37 : Exa Z T26.heap b19 "com/example/hintikka/hintikka/ontology/FeatureValue" := (A19.keep K26)
    have na36 : b19 ≠ tb_26 := Exa.neArv f37 P26_4 (hw _ (List.mem_of_getElem? (i := 1) rfl))
    refine own_up (fun _ k => XS.iload X26.here hx rfl (hb hby at_54) rfl k) ?_
    show own_Go p.tables e below _ (T26.setTop (mkF m 56 #[.val (.int p0), .val (.int p1), .val (.int p2), .val (.int p3), .val (.int p4), .val (.int y5), .val (.int y6), .val (.ref b2), .unset, .unset, .unset] [(.int y6), (.ref sb_26), (.ref b19), (.ref b19)]))
    have f39 : Old Z n0 T26.heap := (f27.keep K26 all0)
    have f40 : n0 ≤ T26.heap.size := (Nat.le_trans f28 K26.1)
    obtain ⟨_, _, ⟨T38, L38, k38, n38⟩, -, X38', hS38', hg38', ⟨Lc38, hQ38, l38, y38, z38, A38⟩, st38⟩ := callSS X26 hx (y := (⟨"com/example/hintikka/hintikka/ontology/FeatureValueEqualsPinLaw", "mk", "(I)Ljava/lang/String;"⟩ : MethodName)) hown26 (mvT hZ26 (hw _ (List.mem_of_getElem? (i := 3) rfl))) (mvT hZ26 (hw _ (List.mem_of_getElem? (i := 4) rfl))) (mvT hZ26 (hw _ (List.mem_of_getElem? (i := 5) rfl))) (mvT hZ26 (hw _ (List.mem_of_getElem? (i := 6) rfl))) (by decide) (backOfSH (W := 3) (rmMk l Z a0 hw [] y6 G1 T26.heap n0 f40 f39 S1 P5) hZ26 (hw _ (List.mem_of_getElem? (i := 6) rfl)) (hw _ (List.mem_of_getElem? (i := 5) rfl)) (by decide) (by decide) (own_EW hw) CR26.1) (g := (mkF m 56 #[.val (.int p0), .val (.int p1), .val (.int p2), .val (.int p3), .val (.int p4), .val (.int y5), .val (.int y6), .val (.ref b2), .unset, .unset, .unset] [(.int y6), (.ref sb_26), (.ref b19), (.ref b19)])) rfl (by rw [hml]; rfl) (argsL := [(.int y6)]) (rest := [(.ref sb_26), (.ref b19), (.ref b19)]) (lenOf own_pd5 rfl) rfl (by show 2 * 0 + _ ≤ _; exact Nat.le_of_eq rfl) (hb hby at_56) (fun _ _ => ⟨rfl, rfl, (by decide : 24 + 6 ≤ _), (by decide : 116 + 12 ≤ _)⟩)
    dsimp only [Pt.U, Pt.locs, Pt.cells, Pt.slots] at X38' hS38' hg38' l38 y38 z38 A38 st38 hQ38
    subst l38 y38 z38
    obtain ⟨X38, hS38, hZ38, hown38⟩ := rebS hS26 hk26 X38' hS38' hg38' hZ26 hown26
    have f41 : Exa Z T26.heap sb_4 "java/lang/String" := (f30.keep K26)
    have f42 : Arv Z T26.heap tb_4 kb_4 .byte (Int32.ofNat (own_cs p0).length) (((own_cs p0).map (fun c => c.toInt8.toInt32)).map Value.int) (.int (0 : Int32)) := (f31.keep K26 nin0)
    have f43 : Exa Z T26.heap sb_9 "java/lang/String" := (f32.keep K26)
    have f44 : Arv Z T26.heap tb_9 kb_9 .byte (Int32.ofNat (own_cs p1).length) (((own_cs p1).map (fun c => c.toInt8.toInt32)).map Value.int) (.int (0 : Int32)) := (f33.keep K26 nin0)
    obtain ⟨sb_38, tb_38, kb_38, rfl, N38q, K38, P38_0, P38_1, P38_2, P38_3, P38_4⟩ := hQ38
    have N38 := Fr.app N26 N38q
    refine own_up (fun _ k => st38.trans k) ?_
    have CR38 := CHr.trans CR26 A38
    have hk38 : T38.heap.size ≤ T38.heap.size := Nat.le_refl _
    have nl38_0_0 : b2 ≠ sb_38 := Nat.ne_of_lt (Nat.lt_of_lt_of_le f35.lt P38_0)
    have nl38_0_1 : sb_4 ≠ sb_38 := Nat.ne_of_lt (Nat.lt_of_lt_of_le f41.lt P38_0)
    have nl38_0_2 : tb_4 ≠ sb_38 := Nat.ne_of_lt (Nat.lt_of_lt_of_le f42.lt P38_0)
    have nl38_0_3 : sb_9 ≠ sb_38 := Nat.ne_of_lt (Nat.lt_of_lt_of_le f43.lt P38_0)
    have nl38_0_4 : tb_9 ≠ sb_38 := Nat.ne_of_lt (Nat.lt_of_lt_of_le f44.lt P38_0)
    have nl38_0_5 : b19 ≠ sb_38 := Nat.ne_of_lt (Nat.lt_of_lt_of_le f37.lt P38_0)
    have nl38_0_6 : sb_26 ≠ sb_38 := Nat.ne_of_lt (Nat.lt_of_lt_of_le P26_1.lt P38_0)
    have nl38_0_7 : tb_26 ≠ sb_38 := Nat.ne_of_lt (Nat.lt_of_lt_of_le P26_4.lt P38_0)
    show own_Go p.tables e below _ (T38.setTop (mkF m 59 #[.val (.int p0), .val (.int p1), .val (.int p2), .val (.int p3), .val (.int p4), .val (.int y5), .val (.int y6), .val (.ref b2), .unset, .unset, .unset] [(.ref sb_38), (.ref sb_26), (.ref b19), (.ref b19)]))
    have f46 : Exa Z T38.heap b2 "com/example/hintikka/hintikka/ontology/FeatureValue" := (f35.keep K38)
    have na45 : b2 ≠ tb_38 := Exa.neArv f46 P38_4 (hw _ (List.mem_of_getElem? (i := 1) rfl))
    have f48 : Exa Z T38.heap b19 "com/example/hintikka/hintikka/ontology/FeatureValue" := (f37.keep K38)
    have na47 : b19 ≠ tb_38 := Exa.neArv f48 P38_4 (hw _ (List.mem_of_getElem? (i := 1) rfl))
    have f50 : Fld Z T38.heap b19 "com/example/hintikka/hintikka/ontology/FeatureValue" "individual" "Ljava/lang/String;" .null := ((F19_individual.keep K26 nin0).keep K38 nin0)
    have f51 : Fld Z T38.heap b19 "com/example/hintikka/hintikka/ontology/FeatureValue" "feature" "Ljava/lang/String;" .null := ((F19_feature.keep K26 nin0).keep K38 nin0)
    have f52 : Exa Z T38.heap sb_26 "java/lang/String" := (P26_1.keep K38)
    have f53 : n0 ≤ T38.heap.size := (Nat.le_trans f40 K38.1)
    obtain ⟨_, _, ⟨T49, L49, k49, n49⟩, -, X49', hS49', hg49', ⟨Lc49, hQ49, l49, y49, z49, A49⟩, st49⟩ := X38.specialBackS hx (y := (⟨"com/example/hintikka/hintikka/ontology/FeatureValue", "<init>", "(Ljava/lang/String;Ljava/lang/String;)V"⟩ : MethodName)) rfl hown38 (mvT hZ38 (hw _ (List.mem_of_getElem? (i := 32) rfl))) (mvT hZ38 (hw _ (List.mem_of_getElem? (i := 33) rfl))) (mvT hZ38 (hw _ (List.mem_of_getElem? (i := 34) rfl))) (by decide) (backOfSH (W := 1) (rmFV l Z a0 hw [] b19 sb_26 sb_38 T38.heap n0 f53 f48 f50 f51 ge19 f52 P38_1) hZ38 (hw _ (List.mem_of_getElem? (i := 34) rfl)) (hw _ (List.mem_of_getElem? (i := 2) rfl)) (by decide) (by decide) (own_EW hw) CR38.1) (g := (mkF m 59 #[.val (.int p0), .val (.int p1), .val (.int p2), .val (.int p3), .val (.int p4), .val (.int y5), .val (.int y6), .val (.ref b2), .unset, .unset, .unset] [(.ref sb_38), (.ref sb_26), (.ref b19), (.ref b19)])) rfl (by rw [hml]; rfl) (Steps.refl _) (a := b19) (argsL := [(.ref sb_26), (.ref sb_38)]) (rest := [(.ref b19)]) (lenOf own_pd6 rfl) rfl (by show 2 * 0 + _ ≤ _; exact Nat.le_of_eq rfl) (hb hby at_59) (fun _ _ => ⟨rfl, rfl, (by decide : 30 + 4 ≤ _), (by decide : 128 + 76 ≤ _)⟩)
    dsimp only [Pt.U, Pt.locs, Pt.cells, Pt.slots] at X49' hS49' hg49' l49 y49 z49 A49 st49 hQ49
    subst l49 y49 z49
    obtain ⟨X49, hS49, hZ49, hown49⟩ := rebS hS38 hk38 X49' hS49' hg49' hZ38 hown38
    obtain ⟨rfl, N49q, K49, P49_0, P49_1, P49_2⟩ := hQ49
    have N49 := Fr.app N38 N49q
    refine own_up (fun _ k => st49.trans k) ?_
    have CR49 := CHr.trans CR38 A49
    have hk49 : T49.heap.size ≤ T49.heap.size := Nat.le_refl _
    show own_Go p.tables e below _ (T49.setTop (mkF m 62 #[.val (.int p0), .val (.int p1), .val (.int p2), .val (.int p3), .val (.int p4), .val (.int y5), .val (.int y6), .val (.ref b2), .unset, .unset, .unset] [(.ref b19)]))
    refine own_up (fun _ k => XS.astore X49.here hx rfl (hb hby at_62) rfl rfl (l' := #[.val (.int p0), .val (.int p1), .val (.int p2), .val (.int p3), .val (.int p4), .val (.int y5), .val (.int y6), .val (.ref b2), .val (.ref b19), .unset, .unset]) rfl k) ?_
    show own_Go p.tables e below _ (T49.setTop (mkF m 64 #[.val (.int p0), .val (.int p1), .val (.int p2), .val (.int p3), .val (.int p4), .val (.int y5), .val (.int y6), .val (.ref b2), .val (.ref b19), .unset, .unset] []))
    refine own_up (fun _ k => XS.iloadN X49.here hx rfl (hb hby at_64) rfl k) ?_
    show own_Go p.tables e below _ (T49.setTop (mkF m 65 #[.val (.int p0), .val (.int p1), .val (.int p2), .val (.int p3), .val (.int p4), .val (.int y5), .val (.int y6), .val (.ref b2), .val (.ref b19), .unset, .unset] [(.int p0)]))
    have f55 : n0 ≤ T49.heap.size := (Nat.le_trans f53 K49.1)
    obtain ⟨_, _, ⟨T54, L54, k54, n54⟩, -, X54, ⟨Lc54, hQ54, l54, y54, z54⟩, st54⟩ := Jvm.LawKit.callS X49 hx (y := (⟨"com/example/hintikka/hintikka/ontology/FeatureValueEqualsPinLaw", "key", "(I)I"⟩ : MethodName)) hown49 (mvT hZ49 (hw _ (List.mem_of_getElem? (i := 58) rfl))) (mvT hZ49 (hw _ (List.mem_of_getElem? (i := 59) rfl))) (mvT hZ49 (hw _ (List.mem_of_getElem? (i := 5) rfl))) (mvT hZ49 (hw _ (List.mem_of_getElem? (i := 60) rfl))) (by decide) (backOf (W := 0) (rmKey l Z a0 hw [] p0 T49.heap n0 f55 ) hZ49 (hw _ (List.mem_of_getElem? (i := 60) rfl)) (hw _ (List.mem_of_getElem? (i := 5) rfl)) (by decide) (by decide)) (g := (mkF m 65 #[.val (.int p0), .val (.int p1), .val (.int p2), .val (.int p3), .val (.int p4), .val (.int y5), .val (.int y6), .val (.ref b2), .val (.ref b19), .unset, .unset] [(.int p0)])) rfl (by rw [hml]; rfl) (argsL := [(.int p0)]) (rest := []) (lenOf own_pd1 rfl) rfl (by show 2 * 0 + _ ≤ _; exact Nat.le_of_eq rfl) (hb hby at_65) (fun _ _ => ⟨rfl, rfl, (by decide : 34 + 0 ≤ _), (by decide : 204 + 0 ≤ _)⟩)
    dsimp only [Pt.U, Pt.locs, Pt.cells, Pt.slots] at X54 l54 y54 z54 st54 hQ54
    subst l54 y54 z54
    obtain ⟨rfl, N54q, eq54⟩ := hQ54
    have N54 := Fr.app N49 N54q
    refine own_up (fun _ k => st54 _ k) ?_
    show own_Go p.tables e below _ (T54.setTop (mkF m 68 #[.val (.int p0), .val (.int p1), .val (.int p2), .val (.int p3), .val (.int p4), .val (.int y5), .val (.int y6), .val (.ref b2), .val (.ref b19), .unset, .unset] [(.int (own_key p0))]))
    refine own_up (fun _ k => XS.iload X54.here hx rfl (hb hby at_68) rfl k) ?_
    show own_Go p.tables e below _ (T54.setTop (mkF m 70 #[.val (.int p0), .val (.int p1), .val (.int p2), .val (.int p3), .val (.int p4), .val (.int y5), .val (.int y6), .val (.ref b2), .val (.ref b19), .unset, .unset] [(.int y5), (.int (own_key p0))]))
    obtain ⟨_, _, ⟨T56, L56, k56, n56⟩, -, X56, ⟨Lc56, hQ56, l56, y56, z56⟩, st56⟩ := Jvm.LawKit.callS X54 hx (y := (⟨"com/example/hintikka/hintikka/ontology/FeatureValueEqualsPinLaw", "key", "(I)I"⟩ : MethodName)) hown49 (mvT hZ49 (hw _ (List.mem_of_getElem? (i := 58) rfl))) (mvT hZ49 (hw _ (List.mem_of_getElem? (i := 59) rfl))) (mvT hZ49 (hw _ (List.mem_of_getElem? (i := 5) rfl))) (mvT hZ49 (hw _ (List.mem_of_getElem? (i := 60) rfl))) (by decide) (backOf (W := 1) (rmKey l Z a0 hw [] y5 T49.heap n0 f55 ) hZ49 (hw _ (List.mem_of_getElem? (i := 60) rfl)) (hw _ (List.mem_of_getElem? (i := 5) rfl)) (by decide) (by decide)) (g := (mkF m 70 #[.val (.int p0), .val (.int p1), .val (.int p2), .val (.int p3), .val (.int p4), .val (.int y5), .val (.int y6), .val (.ref b2), .val (.ref b19), .unset, .unset] [(.int y5), (.int (own_key p0))])) rfl (by rw [hml]; rfl) (argsL := [(.int y5)]) (rest := [(.int (own_key p0))]) (lenOf own_pd1 rfl) rfl (by show 2 * 0 + _ ≤ _; exact Nat.le_of_eq rfl) (hb hby at_70) (fun _ _ => ⟨rfl, eq54, (by decide : 34 + 0 ≤ _), (by decide : 204 + 0 ≤ _)⟩)
    dsimp only [Pt.U, Pt.locs, Pt.cells, Pt.slots] at X56 l56 y56 z56 st56 hQ56
    subst l56 y56 z56
    obtain ⟨rfl, N56q, eq56⟩ := hQ56
    have N56 := Fr.app N54 N56q
    refine own_up (fun _ k => st56 _ k) ?_
    show own_Go p.tables e below _ (T56.setTop (mkF m 73 #[.val (.int p0), .val (.int p1), .val (.int p2), .val (.int p3), .val (.int p4), .val (.int y5), .val (.int y6), .val (.ref b2), .val (.ref b19), .unset, .unset] [(.int (own_key y5)), (.int (own_key p0))]))
    have t95 : ∀ (Tt57 : State) (Lt57 : List Loc) (Xt57 : Stand p l e room_1 (s.setVm T49.vm) m #[(.int p0), (.int p1), (.int p2), (.int p3), (.int p4)] below meth c Tt57 Lt57 34 204) (et57 : Tt57.heap = T49.heap) (Nt57 : Fr n0 Lt57) (ex : Int32) (hex : (if own_cs p0 = own_cs y5 ∧ own_cs p1 = own_cs y6 then (1 : Int32) else 0) = ex), own_Go p.tables e below (fun u o => ∃ v L, o = .returned v ∧ Q_rm0 Z p0 p1 p2 p3 p4 G1 h0 n0 v u.heap L ∧ CHr Z own_EL s.vm s.heap u.vm u.heap ∧ ReturnedEndW s o u L room_1.cells room_1.slots) (Tt57.setTop (mkF m 95 #[.val (.int p0), .val (.int p1), .val (.int p2), .val (.int p3), .val (.int p4), .val (.int y5), .val (.int y6), .val (.ref b2), .val (.ref b19), .val (.int ex), .unset] [])) := by
      intro Tt57 Lt57 Xt57 et57 Nt57 ex hex
      refine own_up (fun _ k => XS.iloadN Xt57.here hx rfl (hb hby at_95) rfl k) ?_
      show own_Go p.tables e below _ (Tt57.setTop (mkF m 96 #[.val (.int p0), .val (.int p1), .val (.int p2), .val (.int p3), .val (.int p4), .val (.int y5), .val (.int y6), .val (.ref b2), .val (.ref b19), .val (.int ex), .unset] [(.int p0)]))
      have f59 : Old Z n0 T49.heap := ((f39.keep K38 all0).keep K49 (allS ge19 all0))
      obtain ⟨_, _, ⟨T58, L58, k58, n58⟩, -, X58', hS58', hg58', ⟨Lc58, hQ58, l58, y58, z58, A58⟩, st58⟩ := callSS Xt57 hx (y := (⟨"com/example/hintikka/hintikka/ontology/FeatureValueEqualsPinLaw", "mk", "(I)Ljava/lang/String;"⟩ : MethodName)) hown49 (mvT hZ49 (hw _ (List.mem_of_getElem? (i := 3) rfl))) (mvT hZ49 (hw _ (List.mem_of_getElem? (i := 4) rfl))) (mvT hZ49 (hw _ (List.mem_of_getElem? (i := 5) rfl))) (mvT hZ49 (hw _ (List.mem_of_getElem? (i := 6) rfl))) (by decide) (backOfSH (W := 0) (rmMk l Z a0 hw [] p0 G1 T49.heap n0 f55 f59 S1 P5) hZ49 (hw _ (List.mem_of_getElem? (i := 6) rfl)) (hw _ (List.mem_of_getElem? (i := 5) rfl)) (by decide) (by decide) (own_EW hw) CR49.1) (g := (mkF m 96 #[.val (.int p0), .val (.int p1), .val (.int p2), .val (.int p3), .val (.int p4), .val (.int y5), .val (.int y6), .val (.ref b2), .val (.ref b19), .val (.int ex), .unset] [(.int p0)])) rfl (by rw [hml]; rfl) (argsL := [(.int p0)]) (rest := []) (lenOf own_pd5 rfl) rfl (by show 2 * 0 + _ ≤ _; exact Nat.le_of_eq rfl) (hb hby at_96) (fun _ _ => ⟨rfl, et57, (by decide : 34 + 6 ≤ _), (by decide : 204 + 12 ≤ _)⟩)
      dsimp only [Pt.U, Pt.locs, Pt.cells, Pt.slots] at X58' hS58' hg58' l58 y58 z58 A58 st58 hQ58
      subst l58 y58 z58
      obtain ⟨X58, hS58, hZ58, hown58⟩ := rebS hS49 (by rw [et57]; exact hk49) X58' hS58' hg58' hZ49 hown49
      have f60 : Exa Z T49.heap b2 "com/example/hintikka/hintikka/ontology/FeatureValue" := (f46.keep K49)
      have f61 : Exa Z T49.heap sb_4 "java/lang/String" := ((f41.keep K38).keep K49)
      have f62 : Arv Z T49.heap tb_4 kb_4 .byte (Int32.ofNat (own_cs p0).length) (((own_cs p0).map (fun c => c.toInt8.toInt32)).map Value.int) (.int (0 : Int32)) := ((f42.keep K38 nin0).keep K49 (ninS ne19_2 nin0))
      have f63 : Exa Z T49.heap sb_9 "java/lang/String" := ((f43.keep K38).keep K49)
      have f64 : Arv Z T49.heap tb_9 kb_9 .byte (Int32.ofNat (own_cs p1).length) (((own_cs p1).map (fun c => c.toInt8.toInt32)).map Value.int) (.int (0 : Int32)) := ((f44.keep K38 nin0).keep K49 (ninS ne19_4 nin0))
      have f65 : Exa Z T49.heap sb_26 "java/lang/String" := (f52.keep K49)
      have f66 : Arv Z T49.heap tb_26 kb_26 .byte (Int32.ofNat (own_cs y5).length) (((own_cs y5).map (fun c => c.toInt8.toInt32)).map Value.int) (.int (0 : Int32)) := ((P26_4.keep K38 nin0).keep K49 (ninS (Ne.symm na36) nin0))
      have f67 : Exa Z T49.heap sb_38 "java/lang/String" := (P38_1.keep K49)
      have f68 : Arv Z T49.heap tb_38 kb_38 .byte (Int32.ofNat (own_cs y6).length) (((own_cs y6).map (fun c => c.toInt8.toInt32)).map Value.int) (.int (0 : Int32)) := (P38_4.keep K49 (ninS (Ne.symm na47) nin0))
      obtain ⟨sb_58, tb_58, kb_58, rfl, N58q, K58, P58_0, P58_1, P58_2, P58_3, P58_4⟩ := hQ58
      have N58 := Fr.app Nt57 N58q
      refine own_up (fun _ k => st58.trans k) ?_
      have CR58 := CHr.trans CR49 A58
      have hk58 : T58.heap.size ≤ T58.heap.size := Nat.le_refl _
      have nl58_0_0 : b2 ≠ sb_58 := Nat.ne_of_lt (Nat.lt_of_lt_of_le f60.lt P58_0)
      have nl58_0_1 : sb_4 ≠ sb_58 := Nat.ne_of_lt (Nat.lt_of_lt_of_le f61.lt P58_0)
      have nl58_0_2 : tb_4 ≠ sb_58 := Nat.ne_of_lt (Nat.lt_of_lt_of_le f62.lt P58_0)
      have nl58_0_3 : sb_9 ≠ sb_58 := Nat.ne_of_lt (Nat.lt_of_lt_of_le f63.lt P58_0)
      have nl58_0_4 : tb_9 ≠ sb_58 := Nat.ne_of_lt (Nat.lt_of_lt_of_le f64.lt P58_0)
      have nl58_0_5 : b19 ≠ sb_58 := Nat.ne_of_lt (Nat.lt_of_lt_of_le P49_0.lt P58_0)
      have nl58_0_6 : sb_26 ≠ sb_58 := Nat.ne_of_lt (Nat.lt_of_lt_of_le f65.lt P58_0)
      have nl58_0_7 : tb_26 ≠ sb_58 := Nat.ne_of_lt (Nat.lt_of_lt_of_le f66.lt P58_0)
      have nl58_0_8 : sb_38 ≠ sb_58 := Nat.ne_of_lt (Nat.lt_of_lt_of_le f67.lt P58_0)
      have nl58_0_9 : tb_38 ≠ sb_58 := Nat.ne_of_lt (Nat.lt_of_lt_of_le f68.lt P58_0)
      show own_Go p.tables e below _ (T58.setTop (mkF m 99 #[.val (.int p0), .val (.int p1), .val (.int p2), .val (.int p3), .val (.int p4), .val (.int y5), .val (.int y6), .val (.ref b2), .val (.ref b19), .val (.int ex), .unset] [(.ref sb_58)]))
      refine own_up (fun _ k => XS.astore X58.here hx rfl (hb hby at_99) rfl rfl (l' := #[.val (.int p0), .val (.int p1), .val (.int p2), .val (.int p3), .val (.int p4), .val (.int y5), .val (.int y6), .val (.ref b2), .val (.ref b19), .val (.int ex), .val (.ref sb_58)]) rfl k) ?_
      show own_Go p.tables e below _ (T58.setTop (mkF m 101 #[.val (.int p0), .val (.int p1), .val (.int p2), .val (.int p3), .val (.int p4), .val (.int y5), .val (.int y6), .val (.ref b2), .val (.ref b19), .val (.int ex), .val (.ref sb_58)] []))
      refine own_up (fun _ k => XS.aload X58.here hx rfl (hb hby at_101) rfl rfl k) ?_
      show own_Go p.tables e below _ (T58.setTop (mkF m 103 #[.val (.int p0), .val (.int p1), .val (.int p2), .val (.int p3), .val (.int p4), .val (.int y5), .val (.int y6), .val (.ref b2), .val (.ref b19), .val (.int ex), .val (.ref sb_58)] [(.ref b2)]))
      refine own_up (fun _ k => XS.aload X58.here hx rfl (hb hby at_103) rfl rfl k) ?_
      show own_Go p.tables e below _ (T58.setTop (mkF m 105 #[.val (.int p0), .val (.int p1), .val (.int p2), .val (.int p3), .val (.int p4), .val (.int y5), .val (.int y6), .val (.ref b2), .val (.ref b19), .val (.int ex), .val (.ref sb_58)] [(.ref b19), (.ref b2)]))
      have f70 : Old Z n0 T58.heap := (f59.keep K58 all0)
      have f71 : Exa Z T58.heap b19 "com/example/hintikka/hintikka/ontology/FeatureValue" := (P49_0.keep K58)
      have f72 : Fld Z T58.heap b2 "com/example/hintikka/hintikka/ontology/FeatureValue" "individual" "Ljava/lang/String;" (.ref sb_4) := (((((P14_1.ext E19).keep K26 nin0).keep K38 nin0).keep K49 (ninS ne19_0 nin0)).keep K58 nin0)
      have f73 : Fld Z T58.heap b2 "com/example/hintikka/hintikka/ontology/FeatureValue" "feature" "Ljava/lang/String;" (.ref sb_9) := (((((P14_2.ext E19).keep K26 nin0).keep K38 nin0).keep K49 (ninS ne19_0 nin0)).keep K58 nin0)
      have f74 : Fld Z T58.heap b19 "com/example/hintikka/hintikka/ontology/FeatureValue" "individual" "Ljava/lang/String;" (.ref sb_26) := (P49_1.keep K58 nin0)
      have f75 : Fld Z T58.heap b19 "com/example/hintikka/hintikka/ontology/FeatureValue" "feature" "Ljava/lang/String;" (.ref sb_38) := (P49_2.keep K58 nin0)
      have f76 : Exa Z T58.heap sb_4 "java/lang/String" := (f61.keep K58)
      have f77 : Fld Z T58.heap sb_4 "java/lang/String" "coder" "B" (.int (0 : Int32)) := (((((((P4_2.keep K9 nin0).keep K14 (ninS (Ne.symm nl4_0_0) nin0)).ext E19).keep K26 nin0).keep K38 nin0).keep K49 (ninS ne19_1 nin0)).keep K58 nin0)
      have f78 : Fld Z T58.heap sb_4 "java/lang/String" "value" "[B" (.ref tb_4) := (((((((P4_3.keep K9 nin0).keep K14 (ninS (Ne.symm nl4_0_0) nin0)).ext E19).keep K26 nin0).keep K38 nin0).keep K49 (ninS ne19_1 nin0)).keep K58 nin0)
      have f79 : Arv Z T58.heap tb_4 kb_4 .byte (Int32.ofNat (own_cs p0).length) (((own_cs p0).map (fun c => c.toInt8.toInt32)).map Value.int) (.int (0 : Int32)) := (f62.keep K58 nin0)
      have f80 : Exa Z T58.heap sb_9 "java/lang/String" := (f63.keep K58)
      have f81 : Fld Z T58.heap sb_9 "java/lang/String" "coder" "B" (.int (0 : Int32)) := ((((((P9_2.keep K14 (ninS (Ne.symm nl9_0_0) nin0)).ext E19).keep K26 nin0).keep K38 nin0).keep K49 (ninS ne19_3 nin0)).keep K58 nin0)
      have f82 : Fld Z T58.heap sb_9 "java/lang/String" "value" "[B" (.ref tb_9) := ((((((P9_3.keep K14 (ninS (Ne.symm nl9_0_0) nin0)).ext E19).keep K26 nin0).keep K38 nin0).keep K49 (ninS ne19_3 nin0)).keep K58 nin0)
      have f83 : Arv Z T58.heap tb_9 kb_9 .byte (Int32.ofNat (own_cs p1).length) (((own_cs p1).map (fun c => c.toInt8.toInt32)).map Value.int) (.int (0 : Int32)) := (f64.keep K58 nin0)
      have f84 : Exa Z T58.heap sb_26 "java/lang/String" := (f65.keep K58)
      have f85 : Fld Z T58.heap sb_26 "java/lang/String" "coder" "B" (.int (0 : Int32)) := (((P26_2.keep K38 nin0).keep K49 (ninS (Ne.symm nl26_0_5) nin0)).keep K58 nin0)
      have f86 : Fld Z T58.heap sb_26 "java/lang/String" "value" "[B" (.ref tb_26) := (((P26_3.keep K38 nin0).keep K49 (ninS (Ne.symm nl26_0_5) nin0)).keep K58 nin0)
      have f87 : Arv Z T58.heap tb_26 kb_26 .byte (Int32.ofNat (own_cs y5).length) (((own_cs y5).map (fun c => c.toInt8.toInt32)).map Value.int) (.int (0 : Int32)) := (f66.keep K58 nin0)
      have f88 : Exa Z T58.heap sb_38 "java/lang/String" := (f67.keep K58)
      have f89 : Fld Z T58.heap sb_38 "java/lang/String" "coder" "B" (.int (0 : Int32)) := ((P38_2.keep K49 (ninS (Ne.symm nl38_0_5) nin0)).keep K58 nin0)
      have f90 : Fld Z T58.heap sb_38 "java/lang/String" "value" "[B" (.ref tb_38) := ((P38_3.keep K49 (ninS (Ne.symm nl38_0_5) nin0)).keep K58 nin0)
      have f91 : Arv Z T58.heap tb_38 kb_38 .byte (Int32.ofNat (own_cs y6).length) (((own_cs y6).map (fun c => c.toInt8.toInt32)).map Value.int) (.int (0 : Int32)) := (f68.keep K58 nin0)
      have f92 : n0 ≤ T58.heap.size := (Nat.le_trans f55 K58.1)
      have f93 : Exa Z T58.heap b2 "com/example/hintikka/hintikka/ontology/FeatureValue" := (f60.keep K58)
      obtain ⟨cq69, kq69, q69a, q69b, q69c⟩ := isOf hZ58 rfl f93
      obtain ⟨_, _, ⟨T69, L69, k69, n69⟩, -, X69, ⟨Lc69, hQ69, l69, y69, z69⟩, st69⟩ := X58.virtualBack hx (y := (⟨"com/example/hintikka/hintikka/ontology/FeatureValue", "equals", "(Ljava/lang/Object;)Z"⟩ : MethodName)) (z := (⟨"com/example/hintikka/hintikka/ontology/FeatureValue", "equals", "(Ljava/lang/Object;)Z"⟩ : MethodName)) hown58 (mvT hZ58 (hw _ (List.mem_of_getElem? (i := 61) rfl))) (mvT hZ58 (hw _ (List.mem_of_getElem? (i := 62) rfl))) (notFace_of_selects (args := #[]) (mvT hZ58 (hw _ (List.mem_of_getElem? (i := 64) rfl)))) (mvT hZ58 (hw _ (List.mem_of_getElem? (i := 64) rfl))) (mvT hZ58 (hw _ (List.mem_of_getElem? (i := 63) rfl))) (by decide) (backOf (W := 0) (rmEF l Z a0 hw [] b2 b19 G1 sb_4 sb_9 sb_26 sb_38 tb_4 tb_9 tb_26 tb_38 kb_4 kb_9 kb_26 kb_38 (own_cs p0) (own_cs p1) (own_cs y5) (own_cs y6) T58.heap n0 f92 f70 S1 P5 f71 f72 f73 f74 f75 f76 f77 f78 f79 f80 f81 f82 f83 f84 f85 f86 f87 f88 f89 f90 f91 (own_csb _) (own_csl _) (own_csb _) (own_csl _) (own_csb _) (own_csl _) (own_csb _) (own_csl _)) hZ58 (hw _ (List.mem_of_getElem? (i := 65) rfl)) (hw _ (List.mem_of_getElem? (i := 2) rfl)) (by decide) (by decide)) q69a q69c (g := (mkF m 105 #[.val (.int p0), .val (.int p1), .val (.int p2), .val (.int p3), .val (.int p4), .val (.int y5), .val (.int y6), .val (.ref b2), .val (.ref b19), .val (.int ex), .val (.ref sb_58)] [(.ref b19), (.ref b2)])) rfl (by rw [hml]; rfl) (Steps.refl _) (argsL := [(.ref b19)]) (rest := []) (lenOf own_pd4 rfl) rfl (by show 2 * 0 + _ ≤ _; exact Nat.le_of_eq rfl) (hb hby at_105) (fun _ _ => ⟨rfl, rfl, (by decide : 40 + 0 ≤ _), (by decide : 216 + 0 ≤ _)⟩)
      dsimp only [Pt.U, Pt.locs, Pt.cells, Pt.slots] at X69 l69 y69 z69 st69 hQ69
      subst l69 y69 z69
      obtain ⟨rfl, N69q, eq69⟩ := hQ69
      have N69 := Fr.app N58 N69q
      refine own_up (fun _ k => st69.trans k) ?_
      show own_Go p.tables e below _ (T69.setTop (mkF m 108 #[.val (.int p0), .val (.int p1), .val (.int p2), .val (.int p3), .val (.int p4), .val (.int y5), .val (.int y6), .val (.ref b2), .val (.ref b19), .val (.int ex), .val (.ref sb_58)] [(.int (if (own_cs p0) = (own_cs y5) ∧ (own_cs p1) = (own_cs y6) then (1 : Int32) else 0))]))
      refine own_up (fun _ k => XS.iload X69.here hx rfl (hb hby at_108) rfl k) ?_
      show own_Go p.tables e below _ (T69.setTop (mkF m 110 #[.val (.int p0), .val (.int p1), .val (.int p2), .val (.int p3), .val (.int p4), .val (.int y5), .val (.int y6), .val (.ref b2), .val (.ref b19), .val (.int ex), .val (.ref sb_58)] [(.int ex), (.int (if (own_cs p0) = (own_cs y5) ∧ (own_cs p1) = (own_cs y6) then (1 : Int32) else 0))]))
      refine own_up (fun _ k => XS.icmpNo X69.here hx rfl (hb hby at_110) rfl (teq hex).2 k) ?_
      show own_Go p.tables e below _ (T69.setTop (mkF m 113 #[.val (.int p0), .val (.int p1), .val (.int p2), .val (.int p3), .val (.int p4), .val (.int y5), .val (.int y6), .val (.ref b2), .val (.ref b19), .val (.int ex), .val (.ref sb_58)] []))
      refine own_up (fun _ k => XS.aload X69.here hx rfl (hb hby at_113) rfl rfl k) ?_
      show own_Go p.tables e below _ (T69.setTop (mkF m 115 #[.val (.int p0), .val (.int p1), .val (.int p2), .val (.int p3), .val (.int p4), .val (.int y5), .val (.int y6), .val (.ref b2), .val (.ref b19), .val (.int ex), .val (.ref sb_58)] [(.ref b19)]))
      refine own_up (fun _ k => XS.aload X69.here hx rfl (hb hby at_115) rfl rfl k) ?_
      show own_Go p.tables e below _ (T69.setTop (mkF m 117 #[.val (.int p0), .val (.int p1), .val (.int p2), .val (.int p3), .val (.int p4), .val (.int y5), .val (.int y6), .val (.ref b2), .val (.ref b19), .val (.int ex), .val (.ref sb_58)] [(.ref b2), (.ref b19)]))
      obtain ⟨cq94, kq94, q94a, q94b, q94c⟩ := isOf hZ58 eq69 f71
      obtain ⟨_, _, ⟨T94, L94, k94, n94⟩, -, X94, ⟨Lc94, hQ94, l94, y94, z94⟩, st94⟩ := X69.virtualBack hx (y := (⟨"com/example/hintikka/hintikka/ontology/FeatureValue", "equals", "(Ljava/lang/Object;)Z"⟩ : MethodName)) (z := (⟨"com/example/hintikka/hintikka/ontology/FeatureValue", "equals", "(Ljava/lang/Object;)Z"⟩ : MethodName)) hown58 (mvT hZ58 (hw _ (List.mem_of_getElem? (i := 61) rfl))) (mvT hZ58 (hw _ (List.mem_of_getElem? (i := 62) rfl))) (notFace_of_selects (args := #[]) (mvT hZ58 (hw _ (List.mem_of_getElem? (i := 64) rfl)))) (mvT hZ58 (hw _ (List.mem_of_getElem? (i := 64) rfl))) (mvT hZ58 (hw _ (List.mem_of_getElem? (i := 63) rfl))) (by decide) (backOf (W := 0) (rmEF l Z a0 hw [] b19 b2 G1 sb_26 sb_38 sb_4 sb_9 tb_26 tb_38 tb_4 tb_9 kb_26 kb_38 kb_4 kb_9 (own_cs y5) (own_cs y6) (own_cs p0) (own_cs p1) T58.heap n0 f92 f70 S1 P5 f93 f74 f75 f72 f73 f84 f85 f86 f87 f88 f89 f90 f91 f76 f77 f78 f79 f80 f81 f82 f83 (own_csb _) (own_csl _) (own_csb _) (own_csl _) (own_csb _) (own_csl _) (own_csb _) (own_csl _)) hZ58 (hw _ (List.mem_of_getElem? (i := 65) rfl)) (hw _ (List.mem_of_getElem? (i := 2) rfl)) (by decide) (by decide)) q94a q94c (g := (mkF m 117 #[.val (.int p0), .val (.int p1), .val (.int p2), .val (.int p3), .val (.int p4), .val (.int y5), .val (.int y6), .val (.ref b2), .val (.ref b19), .val (.int ex), .val (.ref sb_58)] [(.ref b2), (.ref b19)])) rfl (by rw [hml]; rfl) (Steps.refl _) (argsL := [(.ref b2)]) (rest := []) (lenOf own_pd4 rfl) rfl (by show 2 * 0 + _ ≤ _; exact Nat.le_of_eq rfl) (hb hby at_117) (fun _ _ => ⟨rfl, eq69, (by decide : 40 + 0 ≤ _), (by decide : 216 + 0 ≤ _)⟩)
      dsimp only [Pt.U, Pt.locs, Pt.cells, Pt.slots] at X94 l94 y94 z94 st94 hQ94
      subst l94 y94 z94
      obtain ⟨rfl, N94q, eq94⟩ := hQ94
      have N94 := Fr.app N69 N94q
      refine own_up (fun _ k => st94.trans k) ?_
      show own_Go p.tables e below _ (T94.setTop (mkF m 120 #[.val (.int p0), .val (.int p1), .val (.int p2), .val (.int p3), .val (.int p4), .val (.int y5), .val (.int y6), .val (.ref b2), .val (.ref b19), .val (.int ex), .val (.ref sb_58)] [(.int (if (own_cs y5) = (own_cs p0) ∧ (own_cs y6) = (own_cs p1) then (1 : Int32) else 0))]))
      refine own_up (fun _ k => XS.iload X94.here hx rfl (hb hby at_120) rfl k) ?_
      show own_Go p.tables e below _ (T94.setTop (mkF m 122 #[.val (.int p0), .val (.int p1), .val (.int p2), .val (.int p3), .val (.int p4), .val (.int y5), .val (.int y6), .val (.ref b2), .val (.ref b19), .val (.int ex), .val (.ref sb_58)] [(.int ex), (.int (if (own_cs y5) = (own_cs p0) ∧ (own_cs y6) = (own_cs p1) then (1 : Int32) else 0))]))
      refine own_up (fun _ k => XS.icmpNo X94.here hx rfl (hb hby at_122) rfl (teq (own_flip.trans hex)).2 k) ?_
      show own_Go p.tables e below _ (T94.setTop (mkF m 125 #[.val (.int p0), .val (.int p1), .val (.int p2), .val (.int p3), .val (.int p4), .val (.int y5), .val (.int y6), .val (.ref b2), .val (.ref b19), .val (.int ex), .val (.ref sb_58)] []))
      refine own_up (fun _ k => XS.aload X94.here hx rfl (hb hby at_125) rfl rfl k) ?_
      show own_Go p.tables e below _ (T94.setTop (mkF m 127 #[.val (.int p0), .val (.int p1), .val (.int p2), .val (.int p3), .val (.int p4), .val (.int y5), .val (.int y6), .val (.ref b2), .val (.ref b19), .val (.int ex), .val (.ref sb_58)] [(.ref b2)]))
      refine own_up (fun _ k => XS.aload X94.here hx rfl (hb hby at_127) rfl rfl k) ?_
      show own_Go p.tables e below _ (T94.setTop (mkF m 129 #[.val (.int p0), .val (.int p1), .val (.int p2), .val (.int p3), .val (.int p4), .val (.int y5), .val (.int y6), .val (.ref b2), .val (.ref b19), .val (.int ex), .val (.ref sb_58)] [(.ref b2), (.ref b2)]))
      obtain ⟨cq95, kq95, q95a, q95b, q95c⟩ := isOf hZ58 eq94 f93
      obtain ⟨_, _, ⟨T95, L95, k95, n95⟩, -, X95, ⟨Lc95, hQ95, l95, y95, z95⟩, st95⟩ := X94.virtualBack hx (y := (⟨"com/example/hintikka/hintikka/ontology/FeatureValue", "equals", "(Ljava/lang/Object;)Z"⟩ : MethodName)) (z := (⟨"com/example/hintikka/hintikka/ontology/FeatureValue", "equals", "(Ljava/lang/Object;)Z"⟩ : MethodName)) hown58 (mvT hZ58 (hw _ (List.mem_of_getElem? (i := 61) rfl))) (mvT hZ58 (hw _ (List.mem_of_getElem? (i := 62) rfl))) (notFace_of_selects (args := #[]) (mvT hZ58 (hw _ (List.mem_of_getElem? (i := 64) rfl)))) (mvT hZ58 (hw _ (List.mem_of_getElem? (i := 64) rfl))) (mvT hZ58 (hw _ (List.mem_of_getElem? (i := 63) rfl))) (by decide) (backOf (W := 0) (rmEF l Z a0 hw [] b2 b2 G1 sb_4 sb_9 sb_4 sb_9 tb_4 tb_9 tb_4 tb_9 kb_4 kb_9 kb_4 kb_9 (own_cs p0) (own_cs p1) (own_cs p0) (own_cs p1) T58.heap n0 f92 f70 S1 P5 f93 f72 f73 f72 f73 f76 f77 f78 f79 f80 f81 f82 f83 f76 f77 f78 f79 f80 f81 f82 f83 (own_csb _) (own_csl _) (own_csb _) (own_csl _) (own_csb _) (own_csl _) (own_csb _) (own_csl _)) hZ58 (hw _ (List.mem_of_getElem? (i := 65) rfl)) (hw _ (List.mem_of_getElem? (i := 2) rfl)) (by decide) (by decide)) q95a q95c (g := (mkF m 129 #[.val (.int p0), .val (.int p1), .val (.int p2), .val (.int p3), .val (.int p4), .val (.int y5), .val (.int y6), .val (.ref b2), .val (.ref b19), .val (.int ex), .val (.ref sb_58)] [(.ref b2), (.ref b2)])) rfl (by rw [hml]; rfl) (Steps.refl _) (argsL := [(.ref b2)]) (rest := []) (lenOf own_pd4 rfl) rfl (by show 2 * 0 + _ ≤ _; exact Nat.le_of_eq rfl) (hb hby at_129) (fun _ _ => ⟨rfl, eq94, (by decide : 40 + 0 ≤ _), (by decide : 216 + 0 ≤ _)⟩)
      dsimp only [Pt.U, Pt.locs, Pt.cells, Pt.slots] at X95 l95 y95 z95 st95 hQ95
      subst l95 y95 z95
      obtain ⟨rfl, N95q, eq95⟩ := hQ95
      have N95 := Fr.app N94 N95q
      refine own_up (fun _ k => st95.trans k) ?_
      show own_Go p.tables e below _ (T95.setTop (mkF m 132 #[.val (.int p0), .val (.int p1), .val (.int p2), .val (.int p3), .val (.int p4), .val (.int y5), .val (.int y6), .val (.ref b2), .val (.ref b19), .val (.int ex), .val (.ref sb_58)] [(.int (if (own_cs p0) = (own_cs p0) ∧ (own_cs p1) = (own_cs p1) then (1 : Int32) else 0))]))
      refine own_up (fun _ k => XS.ifNo X95.here hx rfl (hb hby at_132) rfl ((if0 _ _).trans (feq (by rw [if_pos ⟨rfl, rfl⟩]; decide)).1) k) ?_
      show own_Go p.tables e below _ (T95.setTop (mkF m 135 #[.val (.int p0), .val (.int p1), .val (.int p2), .val (.int p3), .val (.int p4), .val (.int y5), .val (.int y6), .val (.ref b2), .val (.ref b19), .val (.int ex), .val (.ref sb_58)] []))
      refine own_up (fun _ k => XS.aload X95.here hx rfl (hb hby at_135) rfl rfl k) ?_
      show own_Go p.tables e below _ (T95.setTop (mkF m 137 #[.val (.int p0), .val (.int p1), .val (.int p2), .val (.int p3), .val (.int p4), .val (.int y5), .val (.int y6), .val (.ref b2), .val (.ref b19), .val (.int ex), .val (.ref sb_58)] [(.ref b2)]))
      refine own_up (fun _ k => XS.aconstNull X95.here hx rfl (hb hby at_137) k) ?_
      show own_Go p.tables e below _ (T95.setTop (mkF m 138 #[.val (.int p0), .val (.int p1), .val (.int p2), .val (.int p3), .val (.int p4), .val (.int y5), .val (.int y6), .val (.ref b2), .val (.ref b19), .val (.int ex), .val (.ref sb_58)] [.null, (.ref b2)]))
      obtain ⟨cq96, kq96, q96a, q96b, q96c⟩ := isOf hZ58 eq95 f93
      obtain ⟨_, _, ⟨T96, L96, k96, n96⟩, -, X96, ⟨Lc96, hQ96, l96, y96, z96⟩, st96⟩ := X95.virtualBack hx (y := (⟨"com/example/hintikka/hintikka/ontology/FeatureValue", "equals", "(Ljava/lang/Object;)Z"⟩ : MethodName)) (z := (⟨"com/example/hintikka/hintikka/ontology/FeatureValue", "equals", "(Ljava/lang/Object;)Z"⟩ : MethodName)) hown58 (mvT hZ58 (hw _ (List.mem_of_getElem? (i := 61) rfl))) (mvT hZ58 (hw _ (List.mem_of_getElem? (i := 62) rfl))) (notFace_of_selects (args := #[]) (mvT hZ58 (hw _ (List.mem_of_getElem? (i := 64) rfl)))) (mvT hZ58 (hw _ (List.mem_of_getElem? (i := 64) rfl))) (mvT hZ58 (hw _ (List.mem_of_getElem? (i := 63) rfl))) (by decide) (backOf (W := 0) (rmEN l Z a0 hw [] b2 T58.heap n0 f92 ) hZ58 (hw _ (List.mem_of_getElem? (i := 65) rfl)) (hw _ (List.mem_of_getElem? (i := 2) rfl)) (by decide) (by decide)) q96a q96c (g := (mkF m 138 #[.val (.int p0), .val (.int p1), .val (.int p2), .val (.int p3), .val (.int p4), .val (.int y5), .val (.int y6), .val (.ref b2), .val (.ref b19), .val (.int ex), .val (.ref sb_58)] [.null, (.ref b2)])) rfl (by rw [hml]; rfl) (Steps.refl _) (argsL := [.null]) (rest := []) (lenOf own_pd4 rfl) rfl (by show 2 * 0 + _ ≤ _; exact Nat.le_of_eq rfl) (hb hby at_138) (fun _ _ => ⟨rfl, eq95, (by decide : 40 + 0 ≤ _), (by decide : 216 + 0 ≤ _)⟩)
      dsimp only [Pt.U, Pt.locs, Pt.cells, Pt.slots] at X96 l96 y96 z96 st96 hQ96
      subst l96 y96 z96
      obtain ⟨rfl, N96q, eq96⟩ := hQ96
      have N96 := Fr.app N95 N96q
      refine own_up (fun _ k => st96.trans k) ?_
      show own_Go p.tables e below _ (T96.setTop (mkF m 141 #[.val (.int p0), .val (.int p1), .val (.int p2), .val (.int p3), .val (.int p4), .val (.int y5), .val (.int y6), .val (.ref b2), .val (.ref b19), .val (.int ex), .val (.ref sb_58)] [(.int (0 : Int32))]))
      refine own_up (fun _ k => XS.ifNo X96.here hx rfl (hb hby at_141) rfl ((if0 _ _).trans (teq rfl).2) k) ?_
      show own_Go p.tables e below _ (T96.setTop (mkF m 144 #[.val (.int p0), .val (.int p1), .val (.int p2), .val (.int p3), .val (.int p4), .val (.int y5), .val (.int y6), .val (.ref b2), .val (.ref b19), .val (.int ex), .val (.ref sb_58)] []))
      refine own_up (fun _ k => XS.aload X96.here hx rfl (hb hby at_144) rfl rfl k) ?_
      show own_Go p.tables e below _ (T96.setTop (mkF m 146 #[.val (.int p0), .val (.int p1), .val (.int p2), .val (.int p3), .val (.int p4), .val (.int y5), .val (.int y6), .val (.ref b2), .val (.ref b19), .val (.int ex), .val (.ref sb_58)] [(.ref b2)]))
      refine own_up (fun _ k => XS.aload X96.here hx rfl (hb hby at_146) rfl rfl k) ?_
      show own_Go p.tables e below _ (T96.setTop (mkF m 148 #[.val (.int p0), .val (.int p1), .val (.int p2), .val (.int p3), .val (.int p4), .val (.int y5), .val (.int y6), .val (.ref b2), .val (.ref b19), .val (.int ex), .val (.ref sb_58)] [(.ref sb_58), (.ref b2)]))
      obtain ⟨cq97, kq97, q97a, q97b, q97c⟩ := isOf hZ58 eq96 f93
      obtain ⟨_, _, ⟨T97, L97, k97, n97⟩, -, X97, ⟨Lc97, hQ97, l97, y97, z97⟩, st97⟩ := X96.virtualBack hx (y := (⟨"com/example/hintikka/hintikka/ontology/FeatureValue", "equals", "(Ljava/lang/Object;)Z"⟩ : MethodName)) (z := (⟨"com/example/hintikka/hintikka/ontology/FeatureValue", "equals", "(Ljava/lang/Object;)Z"⟩ : MethodName)) hown58 (mvT hZ58 (hw _ (List.mem_of_getElem? (i := 61) rfl))) (mvT hZ58 (hw _ (List.mem_of_getElem? (i := 62) rfl))) (notFace_of_selects (args := #[]) (mvT hZ58 (hw _ (List.mem_of_getElem? (i := 64) rfl)))) (mvT hZ58 (hw _ (List.mem_of_getElem? (i := 64) rfl))) (mvT hZ58 (hw _ (List.mem_of_getElem? (i := 63) rfl))) (by decide) (backOf (W := 0) (rmES l Z a0 hw [] b2 sb_58 T58.heap n0 f92 P58_1) hZ58 (hw _ (List.mem_of_getElem? (i := 65) rfl)) (hw _ (List.mem_of_getElem? (i := 2) rfl)) (by decide) (by decide)) q97a q97c (g := (mkF m 148 #[.val (.int p0), .val (.int p1), .val (.int p2), .val (.int p3), .val (.int p4), .val (.int y5), .val (.int y6), .val (.ref b2), .val (.ref b19), .val (.int ex), .val (.ref sb_58)] [(.ref sb_58), (.ref b2)])) rfl (by rw [hml]; rfl) (Steps.refl _) (argsL := [(.ref sb_58)]) (rest := []) (lenOf own_pd4 rfl) rfl (by show 2 * 0 + _ ≤ _; exact Nat.le_of_eq rfl) (hb hby at_148) (fun _ _ => ⟨rfl, eq96, (by decide : 40 + 0 ≤ _), (by decide : 216 + 0 ≤ _)⟩)
      dsimp only [Pt.U, Pt.locs, Pt.cells, Pt.slots] at X97 l97 y97 z97 st97 hQ97
      subst l97 y97 z97
      obtain ⟨rfl, N97q, eq97⟩ := hQ97
      have N97 := Fr.app N96 N97q
      refine own_up (fun _ k => st97.trans k) ?_
      show own_Go p.tables e below _ (T97.setTop (mkF m 151 #[.val (.int p0), .val (.int p1), .val (.int p2), .val (.int p3), .val (.int p4), .val (.int y5), .val (.int y6), .val (.ref b2), .val (.ref b19), .val (.int ex), .val (.ref sb_58)] [(.int (0 : Int32))]))
      refine own_up (fun _ k => XS.ifNo X97.here hx rfl (hb hby at_151) rfl ((if0 _ _).trans (teq rfl).2) k) ?_
      show own_Go p.tables e below _ (T97.setTop (mkF m 154 #[.val (.int p0), .val (.int p1), .val (.int p2), .val (.int p3), .val (.int p4), .val (.int y5), .val (.int y6), .val (.ref b2), .val (.ref b19), .val (.int ex), .val (.ref sb_58)] []))
      refine own_up (fun _ k => XS.iconst X97.here hx rfl (hb hby at_154) k) ?_
      show own_Go p.tables e below _ (T97.setTop (mkF m 155 #[.val (.int p0), .val (.int p1), .val (.int p2), .val (.int p3), .val (.int p4), .val (.int y5), .val (.int y6), .val (.ref b2), .val (.ref b19), .val (.int ex), .val (.ref sb_58)] [(.int (1 : Int32))]))
      refine own_up (fun _ k => XS.goto X97.here hx rfl (pc0 := 155) (pc' := 159) rfl (hb hby at_155) (by decide) (by decide) k) ?_
      show own_Go p.tables e below _ (T97.setTop (mkF m 159 #[.val (.int p0), .val (.int p1), .val (.int p2), .val (.int p3), .val (.int p4), .val (.int y5), .val (.int y6), .val (.ref b2), .val (.ref b19), .val (.int ex), .val (.ref sb_58)] [(.int (1 : Int32))]))
      exact own_endW X97 hlk hZ58 (own_EW hw) hS58 hk58 (v := some (.int (1 : Int32))) (fun h => by rw [Bd.returns] at h; cases h) (fun fs hr => retN X97 hx (z := (1 : Int32)) (t := .boolean) Bd.returns (by simp) (hb hby at_159) hr) eq97 hh CR58 ⟨rfl, N97⟩ (by decide) (by decide)
    by_cases e1 : (own_key p0) = (own_key y5)
    ·
      refine own_up (fun _ k => XS.icmpNo X56.here hx rfl (hb hby at_73) rfl (teq e1).2 k) ?_
      show own_Go p.tables e below _ (T56.setTop (mkF m 76 #[.val (.int p0), .val (.int p1), .val (.int p2), .val (.int p3), .val (.int p4), .val (.int y5), .val (.int y6), .val (.ref b2), .val (.ref b19), .unset, .unset] []))
      refine own_up (fun _ k => XS.iloadN X56.here hx rfl (hb hby at_76) rfl k) ?_
      show own_Go p.tables e below _ (T56.setTop (mkF m 77 #[.val (.int p0), .val (.int p1), .val (.int p2), .val (.int p3), .val (.int p4), .val (.int y5), .val (.int y6), .val (.ref b2), .val (.ref b19), .unset, .unset] [(.int p1)]))
      obtain ⟨_, _, ⟨T98, L98, k98, n98⟩, -, X98, ⟨Lc98, hQ98, l98, y98, z98⟩, st98⟩ := Jvm.LawKit.callS X56 hx (y := (⟨"com/example/hintikka/hintikka/ontology/FeatureValueEqualsPinLaw", "key", "(I)I"⟩ : MethodName)) hown49 (mvT hZ49 (hw _ (List.mem_of_getElem? (i := 58) rfl))) (mvT hZ49 (hw _ (List.mem_of_getElem? (i := 59) rfl))) (mvT hZ49 (hw _ (List.mem_of_getElem? (i := 5) rfl))) (mvT hZ49 (hw _ (List.mem_of_getElem? (i := 60) rfl))) (by decide) (backOf (W := 0) (rmKey l Z a0 hw [] p1 T49.heap n0 f55 ) hZ49 (hw _ (List.mem_of_getElem? (i := 60) rfl)) (hw _ (List.mem_of_getElem? (i := 5) rfl)) (by decide) (by decide)) (g := (mkF m 77 #[.val (.int p0), .val (.int p1), .val (.int p2), .val (.int p3), .val (.int p4), .val (.int y5), .val (.int y6), .val (.ref b2), .val (.ref b19), .unset, .unset] [(.int p1)])) rfl (by rw [hml]; rfl) (argsL := [(.int p1)]) (rest := []) (lenOf own_pd1 rfl) rfl (by show 2 * 0 + _ ≤ _; exact Nat.le_of_eq rfl) (hb hby at_77) (fun _ _ => ⟨rfl, eq56, (by decide : 34 + 0 ≤ _), (by decide : 204 + 0 ≤ _)⟩)
      dsimp only [Pt.U, Pt.locs, Pt.cells, Pt.slots] at X98 l98 y98 z98 st98 hQ98
      subst l98 y98 z98
      obtain ⟨rfl, N98q, eq98⟩ := hQ98
      have N98 := Fr.app N56 N98q
      refine own_up (fun _ k => st98 _ k) ?_
      show own_Go p.tables e below _ (T98.setTop (mkF m 80 #[.val (.int p0), .val (.int p1), .val (.int p2), .val (.int p3), .val (.int p4), .val (.int y5), .val (.int y6), .val (.ref b2), .val (.ref b19), .unset, .unset] [(.int (own_key p1))]))
      refine own_up (fun _ k => XS.iload X98.here hx rfl (hb hby at_80) rfl k) ?_
      show own_Go p.tables e below _ (T98.setTop (mkF m 82 #[.val (.int p0), .val (.int p1), .val (.int p2), .val (.int p3), .val (.int p4), .val (.int y5), .val (.int y6), .val (.ref b2), .val (.ref b19), .unset, .unset] [(.int y6), (.int (own_key p1))]))
      obtain ⟨_, _, ⟨T99, L99, k99, n99⟩, -, X99, ⟨Lc99, hQ99, l99, y99, z99⟩, st99⟩ := Jvm.LawKit.callS X98 hx (y := (⟨"com/example/hintikka/hintikka/ontology/FeatureValueEqualsPinLaw", "key", "(I)I"⟩ : MethodName)) hown49 (mvT hZ49 (hw _ (List.mem_of_getElem? (i := 58) rfl))) (mvT hZ49 (hw _ (List.mem_of_getElem? (i := 59) rfl))) (mvT hZ49 (hw _ (List.mem_of_getElem? (i := 5) rfl))) (mvT hZ49 (hw _ (List.mem_of_getElem? (i := 60) rfl))) (by decide) (backOf (W := 1) (rmKey l Z a0 hw [] y6 T49.heap n0 f55 ) hZ49 (hw _ (List.mem_of_getElem? (i := 60) rfl)) (hw _ (List.mem_of_getElem? (i := 5) rfl)) (by decide) (by decide)) (g := (mkF m 82 #[.val (.int p0), .val (.int p1), .val (.int p2), .val (.int p3), .val (.int p4), .val (.int y5), .val (.int y6), .val (.ref b2), .val (.ref b19), .unset, .unset] [(.int y6), (.int (own_key p1))])) rfl (by rw [hml]; rfl) (argsL := [(.int y6)]) (rest := [(.int (own_key p1))]) (lenOf own_pd1 rfl) rfl (by show 2 * 0 + _ ≤ _; exact Nat.le_of_eq rfl) (hb hby at_82) (fun _ _ => ⟨rfl, eq98, (by decide : 34 + 0 ≤ _), (by decide : 204 + 0 ≤ _)⟩)
      dsimp only [Pt.U, Pt.locs, Pt.cells, Pt.slots] at X99 l99 y99 z99 st99 hQ99
      subst l99 y99 z99
      obtain ⟨rfl, N99q, eq99⟩ := hQ99
      have N99 := Fr.app N98 N99q
      refine own_up (fun _ k => st99 _ k) ?_
      show own_Go p.tables e below _ (T99.setTop (mkF m 85 #[.val (.int p0), .val (.int p1), .val (.int p2), .val (.int p3), .val (.int p4), .val (.int y5), .val (.int y6), .val (.ref b2), .val (.ref b19), .unset, .unset] [(.int (own_key y6)), (.int (own_key p1))]))
      by_cases e2 : (own_key p1) = (own_key y6)
      ·
        refine own_up (fun _ k => XS.icmpNo X99.here hx rfl (hb hby at_85) rfl (teq e2).2 k) ?_
        show own_Go p.tables e below _ (T99.setTop (mkF m 88 #[.val (.int p0), .val (.int p1), .val (.int p2), .val (.int p3), .val (.int p4), .val (.int y5), .val (.int y6), .val (.ref b2), .val (.ref b19), .unset, .unset] []))
        refine own_up (fun _ k => XS.iconst X99.here hx rfl (hb hby at_88) k) ?_
        show own_Go p.tables e below _ (T99.setTop (mkF m 89 #[.val (.int p0), .val (.int p1), .val (.int p2), .val (.int p3), .val (.int p4), .val (.int y5), .val (.int y6), .val (.ref b2), .val (.ref b19), .unset, .unset] [(.int (1 : Int32))]))
        refine own_up (fun _ k => XS.goto X99.here hx rfl (pc0 := 89) (pc' := 93) rfl (hb hby at_89) (by decide) (by decide) k) ?_
        show own_Go p.tables e below _ (T99.setTop (mkF m 93 #[.val (.int p0), .val (.int p1), .val (.int p2), .val (.int p3), .val (.int p4), .val (.int y5), .val (.int y6), .val (.ref b2), .val (.ref b19), .unset, .unset] [(.int (1 : Int32))]))
        refine own_up (fun _ k => XS.istore X99.here hx rfl (hb hby at_93) rfl (l' := #[.val (.int p0), .val (.int p1), .val (.int p2), .val (.int p3), .val (.int p4), .val (.int y5), .val (.int y6), .val (.ref b2), .val (.ref b19), .val (.int (1 : Int32)), .unset]) rfl k) ?_
        show own_Go p.tables e below _ (T99.setTop (mkF m 95 #[.val (.int p0), .val (.int p1), .val (.int p2), .val (.int p3), .val (.int p4), .val (.int y5), .val (.int y6), .val (.ref b2), .val (.ref b19), .val (.int (1 : Int32)), .unset] []))
        exact t95 T99 _ X99 eq99 N99 (1 : Int32) (if_pos ⟨(own_keys _ _).mp e1, (own_keys _ _).mp e2⟩)
      ·
        refine own_up (fun _ k => XS.icmpYes X99.here hx rfl (pc0 := 85) (pc' := 92) rfl (hb hby at_85) rfl (feq e2).2 (by decide) (by decide) k) ?_
        show own_Go p.tables e below _ (T99.setTop (mkF m 92 #[.val (.int p0), .val (.int p1), .val (.int p2), .val (.int p3), .val (.int p4), .val (.int y5), .val (.int y6), .val (.ref b2), .val (.ref b19), .unset, .unset] []))
        refine own_up (fun _ k => XS.iconst X99.here hx rfl (hb hby at_92) k) ?_
        show own_Go p.tables e below _ (T99.setTop (mkF m 93 #[.val (.int p0), .val (.int p1), .val (.int p2), .val (.int p3), .val (.int p4), .val (.int y5), .val (.int y6), .val (.ref b2), .val (.ref b19), .unset, .unset] [(.int (0 : Int32))]))
        refine own_up (fun _ k => XS.istore X99.here hx rfl (hb hby at_93) rfl (l' := #[.val (.int p0), .val (.int p1), .val (.int p2), .val (.int p3), .val (.int p4), .val (.int y5), .val (.int y6), .val (.ref b2), .val (.ref b19), .val (.int (0 : Int32)), .unset]) rfl k) ?_
        show own_Go p.tables e below _ (T99.setTop (mkF m 95 #[.val (.int p0), .val (.int p1), .val (.int p2), .val (.int p3), .val (.int p4), .val (.int y5), .val (.int y6), .val (.ref b2), .val (.ref b19), .val (.int (0 : Int32)), .unset] []))
        exact t95 T99 _ X99 eq99 N99 (0 : Int32) (if_neg (fun q => e2 ((own_keys _ _).mpr q.2)))
    ·
      refine own_up (fun _ k => XS.icmpYes X56.here hx rfl (pc0 := 73) (pc' := 92) rfl (hb hby at_73) rfl (feq e1).2 (by decide) (by decide) k) ?_
      show own_Go p.tables e below _ (T56.setTop (mkF m 92 #[.val (.int p0), .val (.int p1), .val (.int p2), .val (.int p3), .val (.int p4), .val (.int y5), .val (.int y6), .val (.ref b2), .val (.ref b19), .unset, .unset] []))
      refine own_up (fun _ k => XS.iconst X56.here hx rfl (hb hby at_92) k) ?_
      show own_Go p.tables e below _ (T56.setTop (mkF m 93 #[.val (.int p0), .val (.int p1), .val (.int p2), .val (.int p3), .val (.int p4), .val (.int y5), .val (.int y6), .val (.ref b2), .val (.ref b19), .unset, .unset] [(.int (0 : Int32))]))
      refine own_up (fun _ k => XS.istore X56.here hx rfl (hb hby at_93) rfl (l' := #[.val (.int p0), .val (.int p1), .val (.int p2), .val (.int p3), .val (.int p4), .val (.int y5), .val (.int y6), .val (.ref b2), .val (.ref b19), .val (.int (0 : Int32)), .unset]) rfl k) ?_
      show own_Go p.tables e below _ (T56.setTop (mkF m 95 #[.val (.int p0), .val (.int p1), .val (.int p2), .val (.int p3), .val (.int p4), .val (.int y5), .val (.int y6), .val (.ref b2), .val (.ref b19), .val (.int (0 : Int32)), .unset] []))
      exact t95 T56 _ X56 eq56 N56 (0 : Int32) (if_neg (fun q => e1 ((own_keys _ _).mpr q.1)))
  have t14 : ∀ (Tt100 : State) (Lt100 : List Loc) (Xt100 : Stand p l e room_1 (s.setVm s.vm) m #[(.int p0), (.int p1), (.int p2), (.int p3), (.int p4)] below meth c Tt100 Lt100 0 0) (et100 : Tt100.heap = h0) (Nt100 : Fr n0 Lt100) (y5 : Int32), own_Go p.tables e below (fun u o => ∃ v L, o = .returned v ∧ Q_rm0 Z p0 p1 p2 p3 p4 G1 h0 n0 v u.heap L ∧ CHr Z own_EL s.vm s.heap u.vm u.heap ∧ ReturnedEndW s o u L room_1.cells room_1.slots) (Tt100.setTop (mkF m 14 #[.val (.int p0), .val (.int p1), .val (.int p2), .val (.int p3), .val (.int p4), .val (.int y5), .unset, .unset, .unset, .unset, .unset] [])) := by
    intro Tt100 Lt100 Xt100 et100 Nt100 y5
    refine own_up (fun _ k => XS.iload Xt100.here hx rfl (hb hby at_14) rfl k) ?_
    show own_Go p.tables e below _ (Tt100.setTop (mkF m 16 #[.val (.int p0), .val (.int p1), .val (.int p2), .val (.int p3), .val (.int p4), .val (.int y5), .unset, .unset, .unset, .unset, .unset] [(.int p4)]))
    refine own_up (fun _ k => XS.iconst Xt100.here hx rfl (hb hby at_16) k) ?_
    show own_Go p.tables e below _ (Tt100.setTop (mkF m 17 #[.val (.int p0), .val (.int p1), .val (.int p2), .val (.int p3), .val (.int p4), .val (.int y5), .unset, .unset, .unset, .unset, .unset] [(.int (2 : Int32)), (.int p4)]))
    refine own_up (fun _ k => XS.iand Xt100.here hx rfl (hb hby at_17) rfl k) ?_
    show own_Go p.tables e below _ (Tt100.setTop (mkF m 18 #[.val (.int p0), .val (.int p1), .val (.int p2), .val (.int p3), .val (.int p4), .val (.int y5), .unset, .unset, .unset, .unset, .unset] [(.int (p4 &&& (2 : Int32)))]))
    by_cases g2 : (p4 &&& (2 : Int32)) = (0 : Int32)
    ·
      refine own_up (fun _ k => XS.ifYes Xt100.here hx rfl (pc0 := 18) (pc' := 25) rfl (hb hby at_18) rfl ((if0 _ _).trans (teq g2).1) (by decide) (by decide) k) ?_
      show own_Go p.tables e below _ (Tt100.setTop (mkF m 25 #[.val (.int p0), .val (.int p1), .val (.int p2), .val (.int p3), .val (.int p4), .val (.int y5), .unset, .unset, .unset, .unset, .unset] []))
      refine own_up (fun _ k => XS.iloadN Xt100.here hx rfl (hb hby at_25) rfl k) ?_
      show own_Go p.tables e below _ (Tt100.setTop (mkF m 26 #[.val (.int p0), .val (.int p1), .val (.int p2), .val (.int p3), .val (.int p4), .val (.int y5), .unset, .unset, .unset, .unset, .unset] [(.int p3)]))
      refine own_up (fun _ k => XS.istore Xt100.here hx rfl (hb hby at_26) rfl (l' := #[.val (.int p0), .val (.int p1), .val (.int p2), .val (.int p3), .val (.int p4), .val (.int y5), .val (.int p3), .unset, .unset, .unset, .unset]) rfl k) ?_
      show own_Go p.tables e below _ (Tt100.setTop (mkF m 28 #[.val (.int p0), .val (.int p1), .val (.int p2), .val (.int p3), .val (.int p4), .val (.int y5), .val (.int p3), .unset, .unset, .unset, .unset] []))
      exact t28 Tt100 _ Xt100 et100 Nt100 y5 p3
    ·
      refine own_up (fun _ k => XS.ifNo Xt100.here hx rfl (hb hby at_18) rfl ((if0 _ _).trans (feq g2).1) k) ?_
      show own_Go p.tables e below _ (Tt100.setTop (mkF m 21 #[.val (.int p0), .val (.int p1), .val (.int p2), .val (.int p3), .val (.int p4), .val (.int y5), .unset, .unset, .unset, .unset, .unset] []))
      refine own_up (fun _ k => XS.iloadN Xt100.here hx rfl (hb hby at_21) rfl k) ?_
      show own_Go p.tables e below _ (Tt100.setTop (mkF m 22 #[.val (.int p0), .val (.int p1), .val (.int p2), .val (.int p3), .val (.int p4), .val (.int y5), .unset, .unset, .unset, .unset, .unset] [(.int p1)]))
      refine own_up (fun _ k => XS.goto Xt100.here hx rfl (pc0 := 22) (pc' := 26) rfl (hb hby at_22) (by decide) (by decide) k) ?_
      show own_Go p.tables e below _ (Tt100.setTop (mkF m 26 #[.val (.int p0), .val (.int p1), .val (.int p2), .val (.int p3), .val (.int p4), .val (.int y5), .unset, .unset, .unset, .unset, .unset] [(.int p1)]))
      refine own_up (fun _ k => XS.istore Xt100.here hx rfl (hb hby at_26) rfl (l' := #[.val (.int p0), .val (.int p1), .val (.int p2), .val (.int p3), .val (.int p4), .val (.int y5), .val (.int p1), .unset, .unset, .unset, .unset]) rfl k) ?_
      show own_Go p.tables e below _ (Tt100.setTop (mkF m 28 #[.val (.int p0), .val (.int p1), .val (.int p2), .val (.int p3), .val (.int p4), .val (.int y5), .val (.int p1), .unset, .unset, .unset, .unset] []))
      exact t28 Tt100 _ Xt100 et100 Nt100 y5 p1
  by_cases g1 : (p4 &&& (1 : Int32)) = (0 : Int32)
  ·
    refine own_up (fun _ k => XS.ifYes X0.here hx rfl (pc0 := 4) (pc' := 11) rfl (hb hby at_4) rfl ((if0 _ _).trans (teq g1).1) (by decide) (by decide) k) ?_
    show own_Go p.tables e below _ (s₁.setTop (mkF m 11 #[.val (.int p0), .val (.int p1), .val (.int p2), .val (.int p3), .val (.int p4), .unset, .unset, .unset, .unset, .unset, .unset] []))
    refine own_up (fun _ k => XS.iloadN X0.here hx rfl (hb hby at_11) rfl k) ?_
    show own_Go p.tables e below _ (s₁.setTop (mkF m 12 #[.val (.int p0), .val (.int p1), .val (.int p2), .val (.int p3), .val (.int p4), .unset, .unset, .unset, .unset, .unset, .unset] [(.int p2)]))
    refine own_up (fun _ k => XS.istore X0.here hx rfl (hb hby at_12) rfl (l' := #[.val (.int p0), .val (.int p1), .val (.int p2), .val (.int p3), .val (.int p4), .val (.int p2), .unset, .unset, .unset, .unset, .unset]) rfl k) ?_
    show own_Go p.tables e below _ (s₁.setTop (mkF m 14 #[.val (.int p0), .val (.int p1), .val (.int p2), .val (.int p3), .val (.int p4), .val (.int p2), .unset, .unset, .unset, .unset, .unset] []))
    exact t14 s₁ _ X0 e0 N0 p2
  ·
    refine own_up (fun _ k => XS.ifNo X0.here hx rfl (hb hby at_4) rfl ((if0 _ _).trans (feq g1).1) k) ?_
    show own_Go p.tables e below _ (s₁.setTop (mkF m 7 #[.val (.int p0), .val (.int p1), .val (.int p2), .val (.int p3), .val (.int p4), .unset, .unset, .unset, .unset, .unset, .unset] []))
    refine own_up (fun _ k => XS.iloadN X0.here hx rfl (hb hby at_7) rfl k) ?_
    show own_Go p.tables e below _ (s₁.setTop (mkF m 8 #[.val (.int p0), .val (.int p1), .val (.int p2), .val (.int p3), .val (.int p4), .unset, .unset, .unset, .unset, .unset, .unset] [(.int p0)]))
    refine own_up (fun _ k => XS.goto X0.here hx rfl (pc0 := 8) (pc' := 12) rfl (hb hby at_8) (by decide) (by decide) k) ?_
    show own_Go p.tables e below _ (s₁.setTop (mkF m 12 #[.val (.int p0), .val (.int p1), .val (.int p2), .val (.int p3), .val (.int p4), .unset, .unset, .unset, .unset, .unset, .unset] [(.int p0)]))
    refine own_up (fun _ k => XS.istore X0.here hx rfl (hb hby at_12) rfl (l' := #[.val (.int p0), .val (.int p1), .val (.int p2), .val (.int p3), .val (.int p4), .val (.int p0), .unset, .unset, .unset, .unset, .unset]) rfl k) ?_
    show own_Go p.tables e below _ (s₁.setTop (mkF m 14 #[.val (.int p0), .val (.int p1), .val (.int p2), .val (.int p3), .val (.int p4), .val (.int p0), .unset, .unset, .unset, .unset, .unset] []))
    exact t14 s₁ _ X0 e0 N0 p0
set_option maxRecDepth 65536 in
set_option maxHeartbeats 40000000 in
theorem comes_1 {Post : Tables → Env → Array Value → State → Outcome → State → Prop} (hpost : ∀ tb e args s v u, (limb_1_1.after args s (.returned v) u = true ∧ limb_1_2.after args s (.returned v) u = true ∧ True) → ReturnedEndW s (.returned v) u (Jvm.fieldLocs frame_1_writes args s ++ Jvm.arrayLocs frame_1_arrays args s ++ Jvm.staticLocs frame_1_statics s) 48 3264 → Post tb e args s (.returned v) u) :
    ArmFor flags0 classFile x code maxLocals ret World_1 tables_1 room_1 Calls_1 rest_1 Pre_1 Post := by
  intro l hfl _ _ p e ha hc hk s m args below hf hA hF happ hP
  obtain ⟨hcalls, hrest, hpre⟩ := hP
  obtain ⟨-, -, -, hnamed, -, -, -, hat⟩ := (Spec.applies_iff hf).mp happ
  obtain ⟨hg, hn⟩ := and_e (Cond.before_iff.mp (show (Jvm.Cond.and given_1 narrow_1).before args s = true from hpre))
  obtain ⟨hcnt, hgr0⟩ := and_e hg
  obtain ⟨ga0, hgr1⟩ := and_e hgr0
  obtain ⟨ga1, hgr2⟩ := and_e hgr1
  obtain ⟨ga2, hgr3⟩ := and_e hgr2
  obtain ⟨ga3, hgr4⟩ := and_e hgr3
  obtain ⟨w0, w1, w2, w3, w4, rfl⟩ : ∃ w0 w1 w2 w3 w4 : Value, args = #[w0, w1, w2, w3, w4] := by
    have hs : args.size = 5 := by simpa [Cond.value, given_1] using hcnt
    obtain ⟨L⟩ := args
    match L, hs with
    | [w0, w1, w2, w3, w4], _ => exact ⟨w0, w1, w2, w3, w4, rfl⟩
  have hw := fun d (hd : d ∈ tables_1) => atoms_spec (ws := Jvm.Cond.code x code maxLocals ret :: tables_1) hat d (List.mem_cons_of_mem _ hd)
  have hfit : Fit s := fun {y c} hc i hi => by
    obtain ⟨ha, rfl⟩ := Array.getElem?_eq_some_iff.mp hc
    have q := List.all_eq_true.mp ((Array.all_eq_true_iff_forall_mem.mp hF) _ (Array.getElem_mem ha)) i (List.mem_range.mpr hi)
    simpa [Array.getElem?_eq_getElem hi] using q
  obtain ⟨hsets, hown0⟩ := atoms_of _ (rest_1_c_eq ▸ (show rest_1_c.before _ s = true from hrest))
  have hr0 := Cond.before_iff.mp hown0
  obtain ⟨i0, ei0⟩ := is_v ga0
  obtain rfl : w0 = (.int i0) := Option.some.inj ei0
  obtain ⟨i1, ei1⟩ := is_v ga1
  obtain rfl : w1 = (.int i1) := Option.some.inj ei1
  obtain ⟨i2, ei2⟩ := is_v ga2
  obtain rfl : w2 = (.int i2) := Option.some.inj ei2
  obtain ⟨i3, ei3⟩ := is_v ga3
  obtain rfl : w3 = (.int i3) := Option.some.inj ei3
  obtain ⟨i4, ei4⟩ := is_v hgr4
  obtain rfl : w4 = (.int i4) := Option.some.inj ei4
  have n3 := not_v (Cond.before_iff.mp (hsets _ (List.mem_of_getElem? (i := 2) rfl)))
  obtain ⟨G1, e6⟩ := is_v (Cond.before_iff.mp (hsets _ (List.mem_of_getElem? (i := 1) rfl)))
  have S8 : Sta s s.heap "java/lang/String" "COMPACT_STRINGS" "Z" (.int G1) := Sta.start e6 (Or.inl (hsets _ (List.mem_of_getElem? (i := 0) rfl)))
  have c13 : ¬ (G1 = (0 : Int32)) := gotF (Cond.eq_ints e6 (Term.int_eval (0))) n3
  have hC : CHv s own_EL s.vm s.heap := CHv.start (own_EW hw) (fun p hp => by cases List.mem_singleton.mp hp; exact hcalls.1 _ (List.mem_of_getElem? (i := 2) rfl)) (hsets _ (List.mem_of_getElem? (i := 2) rfl)) (hw _ (List.mem_of_getElem? (i := 25) rfl)) (hw _ (List.mem_of_getElem? (i := 11) rfl))
  obtain ⟨n, o, h1, h2, h3, _, L, rfl, ⟨rfl, N⟩, -, hq⟩ := rm0 l s _ hw tables_1 i0 i1 i2 i3 i4 G1 s.heap s.heap.size (Nat.le_refl _) (Old.start s) S8 c13 p e ha hc hk s m _ below hf ((Spec.applies_iff_loose hf).mp happ).1 ⟨rfl, State.Warmed39.refl s, rfl, hC⟩ trivial
  refine ⟨n, _, h1, h2, h3, hpost _ _ _ _ _ _ ⟨Cond.after_iff.mpr rfl, Cond.after_iff.mpr (eq_i res_at (Term.int_eval (1)) rfl), trivial⟩ ⟨hq.1, hq.2.1, hq.2.2.1, (hq.2.2.2.sift fun y hy => Or.inr (N y hy)).mono (by decide) (by decide)⟩⟩
theorem main_1_1 : Claimed_1_1 := comes_1 fun _ _ _ _ _ _ h hF => ⟨h.1, hF⟩
theorem main_1_2 : Claimed_1_2 := comes_1 fun _ _ _ _ _ _ h hF => ⟨h.2.1, hF⟩
end Jvm.Pilot.@@N@@
namespace Jvm.Pilot.@@N@@
open Jvm Jvm.ClassFile Sem Op Lib Jvm.Free Jvm.Stand Jvm.Pilot.@@N@@.Jvm.D
/-! MADE BY PROGRAM (witnessworld.py) out of the Statement's table words and the real class files: 21 classes; the members and pool entries that the words name. The judged class is class 1, her method 4. -/
namespace start1
open Jvm.ClassFile
def u (s : String) : CpInfo := .utf8 (stringToUtf16 s)
/-- a pool by its gaps: so many unusable entries, then the entry; so many at the end -/
def gap : Nat → List CpInfo → List CpInfo
  | 0, r => r
  | n + 1, r => .unusable :: gap n r
def poolList (es : List (Nat × CpInfo)) (last : Nat) : List CpInfo := es.foldr (fun e r => gap e.1 (e.2 :: r)) (gap last [])
def pool (es : List (Nat × CpInfo)) (last : Nat) : Array CpInfo := ⟨poolList es last⟩
def fileOf (pool : Array CpInfo) (this : Nat) (attrs : Array Attribute := #[]) (ms : Array MethodInfo := #[]) (fl : Nat := 33) (sup : Nat := 0) (ifs : Array Nat := #[]) (fds : Array FieldInfo := #[]) : ClassFile where
  minorVersion := 0
  majorVersion := 65
  constantPool := pool
  accessFlags := fl
  thisClass := this
  superClass := sup
  interfaces := ifs
  fields := fds
  methods := ms
  attributes := attrs
def plain (name : String) (sup : Option ClassId) : Class where
  name := name
  kind := .ordinary
  loader := none
  accessFlags := 33
  super := sup
  interfaces := #[]
  cf := none
  fields := #[]
  methods := #[]
  instanceTypes := #[]
  staticTypes := #[]
  resolved := #[]
  callSites := []
  init := .initialized
  statics := none
  mirror := none

def pool0 : Array CpInfo := pool [(5, u "<init>"), (0, u "()V"), (1, .class_ 10), (1, u "java/lang/Object")] 113

def k0c0 : Code := { maxStack := 0, maxLocals := 1, code := object_method_1_code, exceptionTable := #[], attributes := #[] }
def k0m0 : Method := { name := "<init>", desc := "()V", sig := { parameters := [], returnType := none }, accessFlags := 1, code := some k0c0 }
/-- java/lang/Object -/
def k0 : Class := { plain "java/lang/Object" none with
  accessFlags := 33
  interfaces := #[]
  cf := some (fileOf pool0 8 #[] #[{ accessFlags := 1, nameIndex := 5, descriptorIndex := 6, attributes := #[] }] 33 0 #[] #[])
  fields := #[]
  methods := #[k0m0]
  instanceTypes := #[]
  staticTypes := #[]
  resolved := Array.replicate 124 none
  statics := none }

def pool1 : Array CpInfo := pool [(2, .class_ 4), (1, u "java/lang/Object"), (0, u "<init>"), (0, u "()V"), (0, .methodref 8 9), (0, .class_ 10), (0, .nameAndType 11 12), (0, u "com/example/hintikka/hintikka/ontology/FeatureValueEqualsPinLaw"), (0, u "len"), (0, u "(I)I"), (0, .class_ 14), (0, u "java/lang/String"), (0, .methodref 13 16), (0, .nameAndType 5 17), (0, u "([C)V"), (0, .class_ 19), (0, u "com/example/hintikka/hintikka/ontology/FeatureValue"), (0, .methodref 8 21), (0, .nameAndType 22 23), (0, u "mk"), (0, u "(I)Ljava/lang/String;"), (0, .methodref 18 25), (0, .nameAndType 5 26), (0, u "(Ljava/lang/String;Ljava/lang/String;)V"), (0, .methodref 8 28), (0, .nameAndType 29 12), (0, u "key"), (0, .methodref 18 31), (0, .nameAndType 32 33), (0, u "equals"), (0, u "(Ljava/lang/Object;)Z"), (3, u "law"), (0, u "(IIIII)Z")] 2

def k1m0 : Method := { name := "<init>", desc := "()V", sig := { parameters := [], returnType := none }, accessFlags := 1, code := none }
def k1c1 : Code := { maxStack := 2, maxLocals := 1, code := method_2_code, exceptionTable := #[], attributes := #[] }
def k1m1 : Method := { name := "len", desc := "(I)I", sig := { parameters := [.int], returnType := some .int }, accessFlags := 10, code := some k1c1 }
def k1c2 : Code := { maxStack := 3, maxLocals := 5, code := method_3_code, exceptionTable := #[], attributes := #[] }
def k1m2 : Method := { name := "mk", desc := "(I)Ljava/lang/String;", sig := { parameters := [.int], returnType := some (.object "java/lang/String") }, accessFlags := 10, code := some k1c2 }
def k1c3 : Code := { maxStack := 3, maxLocals := 3, code := method_4_code, exceptionTable := #[], attributes := #[] }
def k1m3 : Method := { name := "key", desc := "(I)I", sig := { parameters := [.int], returnType := some .int }, accessFlags := 10, code := some k1c3 }
def k1c4 : Code := { maxStack := 4, maxLocals := 11, code := code, exceptionTable := #[], attributes := #[] }
def k1m4 : Method := { name := "law", desc := "(IIIII)Z", sig := { parameters := [.int, .int, .int, .int, .int], returnType := some .boolean }, accessFlags := 9, code := some k1c4 }
/-- com/example/hintikka/hintikka/ontology/FeatureValueEqualsPinLaw -/
def k1 : Class := { plain "com/example/hintikka/hintikka/ontology/FeatureValueEqualsPinLaw" (some 0) with
  accessFlags := 49
  interfaces := #[]
  cf := some (fileOf pool1 8 #[] #[{ accessFlags := 1, nameIndex := 5, descriptorIndex := 6, attributes := #[] }, { accessFlags := 10, nameIndex := 11, descriptorIndex := 12, attributes := #[] }, { accessFlags := 10, nameIndex := 22, descriptorIndex := 23, attributes := #[] }, { accessFlags := 10, nameIndex := 29, descriptorIndex := 12, attributes := #[] }, { accessFlags := 9, nameIndex := 37, descriptorIndex := 38, attributes := #[] }] 49 2 #[] #[])
  fields := #[]
  methods := #[k1m0, k1m1, k1m2, k1m3, k1m4]
  instanceTypes := #[]
  staticTypes := #[]
  resolved := Array.replicate 41 none
  statics := none }

def pool2 : Array CpInfo := pool [(1, .methodref 2 3), (0, .class_ 4), (0, .nameAndType 5 6), (0, u "java/lang/Object"), (0, u "<init>"), (0, u "()V"), (0, .string 8), (0, u "individual"), (0, .methodref 10 11), (0, .class_ 12), (0, .nameAndType 13 14), (0, u "java/util/Objects"), (0, u "requireNonNull"), (0, u "(Ljava/lang/Object;Ljava/lang/String;)Ljava/lang/Object;"), (0, .class_ 16), (0, u "java/lang/String"), (0, .fieldref 18 19), (0, .class_ 20), (0, .nameAndType 8 21), (0, u "com/example/hintikka/hintikka/ontology/FeatureValue"), (0, u "Ljava/lang/String;"), (0, .string 23), (0, u "feature"), (0, .fieldref 18 25), (0, .nameAndType 23 21), (0, .methodref 15 27), (0, .nameAndType 28 29), (0, u "equals"), (0, u "(Ljava/lang/Object;)Z"), (8, u "(Ljava/lang/String;Ljava/lang/String;)V")] 26

def k2c0 : Code := { maxStack := 3, maxLocals := 3, code := prog_31_method_1_code, exceptionTable := #[], attributes := #[] }
def k2m0 : Method := { name := "<init>", desc := "(Ljava/lang/String;Ljava/lang/String;)V", sig := { parameters := [(.object "java/lang/String"), (.object "java/lang/String")], returnType := none }, accessFlags := 1, code := some k2c0 }
def k2c1 : Code := { maxStack := 2, maxLocals := 3, code := prog_31_method_4_code, exceptionTable := #[], attributes := #[] }
def k2m1 : Method := { name := "equals", desc := "(Ljava/lang/Object;)Z", sig := { parameters := [(.object "java/lang/Object")], returnType := some .boolean }, accessFlags := 1, code := some k2c1 }
/-- com/example/hintikka/hintikka/ontology/FeatureValue -/
def k2 : Class := { plain "com/example/hintikka/hintikka/ontology/FeatureValue" (some 0) with
  accessFlags := 49
  interfaces := #[]
  cf := some (fileOf pool2 18 #[] #[{ accessFlags := 1, nameIndex := 5, descriptorIndex := 38, attributes := #[] }, { accessFlags := 1, nameIndex := 28, descriptorIndex := 29, attributes := #[] }] 49 2 #[] #[{ accessFlags := 18, nameIndex := 8, descriptorIndex := 21, attributes := #[] }, { accessFlags := 18, nameIndex := 23, descriptorIndex := 21, attributes := #[] }])
  fields := #[{ name := "individual", type := (.object "java/lang/String"), accessFlags := 18, slot := 0, constantValue := 0 }, { name := "feature", type := (.object "java/lang/String"), accessFlags := 18, slot := 1, constantValue := 0 }]
  methods := #[k2m0, k2m1]
  instanceTypes := #[(.object "java/lang/String"), (.object "java/lang/String")]
  staticTypes := #[]
  resolved := Array.replicate 65 none
  statics := none }

def pool3 : Array CpInfo := pool [(1, .class_ 2), (0, u "java/io/Serializable"), (0, .class_ 4), (0, u "java/lang/Object")] 2

/-- java/io/Serializable -/
def k3 : Class := { plain "java/io/Serializable" (some 0) with
  accessFlags := 1537
  interfaces := #[]
  cf := some (fileOf pool3 1 #[] #[] 1537 3 #[] #[])
  fields := #[]
  methods := #[]
  instanceTypes := #[]
  staticTypes := #[]
  resolved := Array.replicate 7 none
  statics := none }

def pool4 : Array CpInfo := pool [(1, .class_ 2), (0, u "java/lang/Comparable"), (0, .class_ 4), (0, u "java/lang/Object")] 7

/-- java/lang/Comparable -/
def k4 : Class := { plain "java/lang/Comparable" (some 0) with
  accessFlags := 1537
  interfaces := #[]
  cf := some (fileOf pool4 1 #[] #[] 1537 3 #[] #[])
  fields := #[]
  methods := #[]
  instanceTypes := #[]
  staticTypes := #[]
  resolved := Array.replicate 12 none
  statics := none }

def pool5 : Array CpInfo := pool [(2, .class_ 4), (1, u "java/lang/CharSequence"), (42, .class_ 48), (0, u "java/lang/CharSequence$1CodePointIterator"), (10, .class_ 60), (0, u "java/lang/CharSequence$1CharIterator"), (5, .class_ 67), (0, u "java/lang/Object")] 63

/-- java/lang/CharSequence -/
def k5 : Class := { plain "java/lang/CharSequence" (some 0) with
  accessFlags := 1537
  interfaces := #[]
  cf := some (fileOf pool5 2 #[.nestMembers #[47, 59]] #[] 1537 66 #[] #[])
  fields := #[]
  methods := #[]
  instanceTypes := #[]
  staticTypes := #[]
  resolved := Array.replicate 131 none
  statics := none }

def pool6 : Array CpInfo := pool [(1, .class_ 2), (0, u "java/lang/constant/Constable"), (0, .class_ 4), (0, u "java/lang/Object")] 6

/-- java/lang/constant/Constable -/
def k6 : Class := { plain "java/lang/constant/Constable" (some 0) with
  accessFlags := 1537
  interfaces := #[]
  cf := some (fileOf pool6 1 #[] #[] 1537 3 #[] #[])
  fields := #[]
  methods := #[]
  instanceTypes := #[]
  staticTypes := #[]
  resolved := Array.replicate 11 none
  statics := none }

def pool7 : Array CpInfo := pool [(1, .class_ 2), (0, u "java/lang/constant/ConstantDesc"), (0, .class_ 4), (0, u "java/lang/Object")] 32

/-- java/lang/constant/ConstantDesc -/
def k7 : Class := { plain "java/lang/constant/ConstantDesc" (some 0) with
  accessFlags := 1537
  interfaces := #[]
  cf := some (fileOf pool7 1 #[] #[] 1537 3 #[] #[])
  fields := #[]
  methods := #[]
  instanceTypes := #[]
  staticTypes := #[]
  resolved := Array.replicate 37 none
  statics := none }

def pool8 : Array CpInfo := pool [(1, .methodref 2 3), (0, .class_ 4), (0, .nameAndType 5 6), (0, u "java/lang/Object"), (0, u "<init>"), (0, u "()V"), (0, .string 8), (0, u ""), (0, .fieldref 10 11), (0, .class_ 12), (0, .nameAndType 13 14), (0, u "java/lang/String"), (0, u "value"), (0, u "[B"), (0, .fieldref 10 16), (0, .nameAndType 17 18), (0, u "coder"), (0, u "B"), (2, u "hash"), (0, u "I"), (2, u "hashIsZero"), (0, u "Z"), (0, .methodref 10 28), (0, .nameAndType 5 29), (0, u "([CIILjava/lang/Void;)V"), (8, .fieldref 10 39), (0, .nameAndType 40 26), (0, u "COMPACT_STRINGS"), (1, .class_ 44), (1, u "java/lang/StringUTF16"), (0, u "compress"), (1, .methodref 42 48), (0, .nameAndType 49 50), (0, u "coderFromArrayLen"), (0, u "([BI)B"), (56, .class_ 109), (1, u "java/lang/StringLatin1"), (67, .methodref 42 178), (0, .nameAndType 45 179), (0, u "([CII)[B"), (361, .methodref 107 542), (0, .nameAndType 543 544), (0, u "equals"), (0, u "([B[B)Z"), (28, u "(Ljava/lang/Object;)Z"), (1, .class_ 576), (0, u "java/lang/CharSequence"), (22, u "CASE_INSENSITIVE_ORDER"), (0, u "Ljava/util/Comparator;"), (409, u "([C)V"), (90, u "serialPersistentFields"), (0, u "[Ljava/io/ObjectStreamField;"), (0, .class_ 1104), (0, u "java/lang/String$CaseInsensitiveComparator"), (1, .class_ 1107), (0, u "java/io/Serializable"), (0, .class_ 1109), (0, u "java/lang/Comparable"), (0, .class_ 1111), (0, u "java/lang/constant/Constable"), (0, .class_ 1113), (0, u "java/lang/constant/ConstantDesc"), (2, u "serialVersionUID"), (0, u "J"), (3, u "REPL"), (0, u "C"), (2, u "LATIN1"), (1, u "UTF16")] 323

def k8m0 : Method := { name := "<init>", desc := "()V", sig := { parameters := [], returnType := none }, accessFlags := 1, code := none }
def k8c1 : Code := { maxStack := 5, maxLocals := 2, code := jdk_42_method_3_code, exceptionTable := #[], attributes := #[] }
def k8m1 : Method := { name := "<init>", desc := "([C)V", sig := { parameters := [(.array .char)], returnType := none }, accessFlags := 1, code := some k8c1 }
def k8c2 : Code := { maxStack := 2, maxLocals := 3, code := jdk_42_method_66_code, exceptionTable := #[], attributes := #[] }
def k8m2 : Method := { name := "equals", desc := "(Ljava/lang/Object;)Z", sig := { parameters := [(.object "java/lang/Object")], returnType := some .boolean }, accessFlags := 1, code := some k8c2 }
def k8c3 : Code := { maxStack := 4, maxLocals := 6, code := jdk_42_method_149_code, exceptionTable := #[], attributes := #[] }
def k8m3 : Method := { name := "<init>", desc := "([CIILjava/lang/Void;)V", sig := { parameters := [(.array .char), .int, .int, (.object "java/lang/Void")], returnType := none }, accessFlags := 2, code := some k8c3 }
/-- java/lang/String -/
def k8 : Class := { plain "java/lang/String" (some 0) with
  accessFlags := 49
  interfaces := #[3, 4, 5, 6, 7]
  cf := some (fileOf pool8 10 #[.nestMembers #[1103]] #[{ accessFlags := 1, nameIndex := 5, descriptorIndex := 6, attributes := #[] }, { accessFlags := 1, nameIndex := 5, descriptorIndex := 1010, attributes := #[] }, { accessFlags := 1, nameIndex := 543, descriptorIndex := 573, attributes := #[] }, { accessFlags := 2, nameIndex := 5, descriptorIndex := 29, attributes := #[] }] 49 2 #[1106, 1108, 575, 1110, 1112] #[{ accessFlags := 18, nameIndex := 13, descriptorIndex := 14, attributes := #[] }, { accessFlags := 18, nameIndex := 17, descriptorIndex := 18, attributes := #[] }, { accessFlags := 2, nameIndex := 21, descriptorIndex := 22, attributes := #[] }, { accessFlags := 2, nameIndex := 25, descriptorIndex := 26, attributes := #[] }, { accessFlags := 26, nameIndex := 1116, descriptorIndex := 1117, attributes := #[] }, { accessFlags := 24, nameIndex := 40, descriptorIndex := 26, attributes := #[] }, { accessFlags := 26, nameIndex := 1101, descriptorIndex := 1102, attributes := #[] }, { accessFlags := 26, nameIndex := 1121, descriptorIndex := 1122, attributes := #[] }, { accessFlags := 25, nameIndex := 599, descriptorIndex := 600, attributes := #[] }, { accessFlags := 24, nameIndex := 1125, descriptorIndex := 18, attributes := #[] }, { accessFlags := 24, nameIndex := 1127, descriptorIndex := 18, attributes := #[] }])
  fields := #[{ name := "value", type := (.array .byte), accessFlags := 18, slot := 0, constantValue := 0 }, { name := "coder", type := .byte, accessFlags := 18, slot := 1, constantValue := 0 }, { name := "hash", type := .int, accessFlags := 2, slot := 2, constantValue := 0 }, { name := "hashIsZero", type := .boolean, accessFlags := 2, slot := 3, constantValue := 0 }, { name := "serialVersionUID", type := .long, accessFlags := 26, slot := 0, constantValue := 0 }, { name := "COMPACT_STRINGS", type := .boolean, accessFlags := 24, slot := 1, constantValue := 0 }, { name := "serialPersistentFields", type := (.array (.object "java/io/ObjectStreamField")), accessFlags := 26, slot := 2, constantValue := 0 }, { name := "REPL", type := .char, accessFlags := 26, slot := 3, constantValue := 0 }, { name := "CASE_INSENSITIVE_ORDER", type := (.object "java/util/Comparator"), accessFlags := 25, slot := 4, constantValue := 0 }, { name := "LATIN1", type := .byte, accessFlags := 24, slot := 5, constantValue := 0 }, { name := "UTF16", type := .byte, accessFlags := 24, slot := 6, constantValue := 0 }]
  methods := #[k8m0, k8m1, k8m2, k8m3]
  instanceTypes := #[(.array .byte), .byte, .int, .boolean]
  staticTypes := #[.long, .boolean, (.array (.object "java/io/ObjectStreamField")), .char, (.object "java/util/Comparator"), .byte, .byte]
  resolved := Array.replicate 1451 none
  statics := some 0 }

def pool9 : Array CpInfo := pool [(2, .class_ 4), (1, u "java/lang/Object"), (0, u "<init>"), (0, u "()V"), (35, .class_ 44), (1, u "java/util/Objects"), (0, u "requireNonNull"), (48, u "(Ljava/lang/Object;Ljava/lang/String;)Ljava/lang/Object;")] 89

def k9m0 : Method := { name := "<init>", desc := "()V", sig := { parameters := [], returnType := none }, accessFlags := 2, code := none }
def k9c1 : Code := { maxStack := 3, maxLocals := 2, code := jdk_31_method_11_code, exceptionTable := #[], attributes := #[] }
def k9m1 : Method := { name := "requireNonNull", desc := "(Ljava/lang/Object;Ljava/lang/String;)Ljava/lang/Object;", sig := { parameters := [(.object "java/lang/Object"), (.object "java/lang/String")], returnType := some (.object "java/lang/Object") }, accessFlags := 9, code := some k9c1 }
/-- java/util/Objects -/
def k9 : Class := { plain "java/util/Objects" (some 0) with
  accessFlags := 49
  interfaces := #[]
  cf := some (fileOf pool9 42 #[] #[{ accessFlags := 2, nameIndex := 5, descriptorIndex := 6, attributes := #[] }, { accessFlags := 9, nameIndex := 45, descriptorIndex := 94, attributes := #[] }] 49 2 #[] #[])
  fields := #[]
  methods := #[k9m0, k9m1]
  instanceTypes := #[]
  staticTypes := #[]
  resolved := Array.replicate 184 none
  statics := none }

def pool10 : Array CpInfo := pool [(6, .class_ 8), (1, u "java/lang/Object"), (0, u "<init>"), (0, u "()V"), (1, .class_ 14), (1, u "java/lang/StringUTF16"), (31, u "$assertionsDisabled"), (0, u "Z"), (13, u "HI_BYTE_SHIFT"), (0, u "I"), (2, u "LO_BYTE_SHIFT"), (49, .methodref 12 116), (0, .nameAndType 117 118), (0, u "compress"), (0, u "([CI[BII)I"), (3, u "([CII)[B"), (138, u "coderFromArrayLen"), (0, u "([BI)B"), (106, .class_ 371), (1, u "java/lang/StringUTF16$LinesSpliterator"), (58, u "MAX_LENGTH"), (196, .class_ 628), (0, u "java/lang/StringUTF16$CodePointsSpliterator"), (0, .class_ 630), (0, u "java/lang/StringUTF16$CharsSpliterator")] 4

def k10m0 : Method := { name := "<init>", desc := "()V", sig := { parameters := [], returnType := none }, accessFlags := 0, code := none }
def k10c1 : Code := { maxStack := 2, maxLocals := 2, code := jdk_52_method_15_code, exceptionTable := #[], attributes := #[] }
def k10m1 : Method := { name := "coderFromArrayLen", desc := "([BI)B", sig := { parameters := [(.array .byte), .int], returnType := some .byte }, accessFlags := 8, code := some k10c1 }
def k10c2 : Code := { maxStack := 5, maxLocals := 6, code := jdk_52_method_16_code, exceptionTable := #[], attributes := #[] }
def k10m2 : Method := { name := "compress", desc := "([CII)[B", sig := { parameters := [(.array .char), .int, .int], returnType := some (.array .byte) }, accessFlags := 9, code := some k10c2 }
def k10c3 : Code := { maxStack := 3, maxLocals := 7, code := jdk_52_method_21_code, exceptionTable := #[], attributes := #[] }
def k10m3 : Method := { name := "compress", desc := "([CI[BII)I", sig := { parameters := [(.array .char), .int, (.array .byte), .int, .int], returnType := some .int }, accessFlags := 9, code := some k10c3 }
/-- java/lang/StringUTF16 -/
def k10 : Class := { plain "java/lang/StringUTF16" (some 0) with
  accessFlags := 48
  interfaces := #[]
  cf := some (fileOf pool10 12 #[.nestMembers #[627, 629, 369]] #[{ accessFlags := 0, nameIndex := 9, descriptorIndex := 10, attributes := #[] }, { accessFlags := 8, nameIndex := 261, descriptorIndex := 262, attributes := #[] }, { accessFlags := 9, nameIndex := 117, descriptorIndex := 122, attributes := #[] }, { accessFlags := 9, nameIndex := 117, descriptorIndex := 118, attributes := #[] }] 48 6 #[] #[{ accessFlags := 26, nameIndex := 61, descriptorIndex := 62, attributes := #[] }, { accessFlags := 26, nameIndex := 65, descriptorIndex := 62, attributes := #[] }, { accessFlags := 24, nameIndex := 430, descriptorIndex := 62, attributes := #[] }, { accessFlags := 4120, nameIndex := 46, descriptorIndex := 47, attributes := #[] }])
  fields := #[{ name := "HI_BYTE_SHIFT", type := .int, accessFlags := 26, slot := 0, constantValue := 0 }, { name := "LO_BYTE_SHIFT", type := .int, accessFlags := 26, slot := 1, constantValue := 0 }, { name := "MAX_LENGTH", type := .int, accessFlags := 24, slot := 2, constantValue := 0 }, { name := "$assertionsDisabled", type := .boolean, accessFlags := 4120, slot := 3, constantValue := 0 }]
  methods := #[k10m0, k10m1, k10m2, k10m3]
  instanceTypes := #[]
  staticTypes := #[.int, .int, .int, .boolean]
  resolved := Array.replicate 635 none
  statics := none }

def pool11 : Array CpInfo := pool [(4, .class_ 6), (1, u "java/lang/Object"), (0, u "<init>"), (0, u "()V"), (5, .class_ 16), (1, u "java/lang/StringLatin1"), (104, u "$assertionsDisabled"), (0, u "Z"), (98, .class_ 223), (1, u "java/lang/StringLatin1$LinesSpliterator"), (57, u "equals"), (0, u "([B[B)Z"), (107, .class_ 391), (0, u "java/lang/StringLatin1$CharsSpliterator")] 3

def k11m0 : Method := { name := "<init>", desc := "()V", sig := { parameters := [], returnType := none }, accessFlags := 0, code := none }
def k11c1 : Code := { maxStack := 3, maxLocals := 3, code := jdk_43_method_13_code, exceptionTable := #[], attributes := #[] }
def k11m1 : Method := { name := "equals", desc := "([B[B)Z", sig := { parameters := [(.array .byte), (.array .byte)], returnType := some .boolean }, accessFlags := 9, code := some k11c1 }
/-- java/lang/StringLatin1 -/
def k11 : Class := { plain "java/lang/StringLatin1" (some 0) with
  accessFlags := 48
  interfaces := #[]
  cf := some (fileOf pool11 14 #[.nestMembers #[390, 221]] #[{ accessFlags := 0, nameIndex := 7, descriptorIndex := 8, attributes := #[] }, { accessFlags := 9, nameIndex := 281, descriptorIndex := 282, attributes := #[] }] 48 4 #[] #[{ accessFlags := 4120, nameIndex := 121, descriptorIndex := 122, attributes := #[] }])
  fields := #[{ name := "$assertionsDisabled", type := .boolean, accessFlags := 4120, slot := 0, constantValue := 0 }]
  methods := #[k11m0, k11m1]
  instanceTypes := #[]
  staticTypes := #[.boolean]
  resolved := Array.replicate 395 none
  statics := none }

def pool12 : Array CpInfo := pool [(2, .class_ 4), (1, u "java/lang/Object"), (0, u "<init>"), (0, u "()V"), (17, .class_ 26), (1, u "jdk/internal/util/Preconditions"), (28, .class_ 56), (0, u "jdk/internal/util/Preconditions$4"), (57, .class_ 115), (0, u "jdk/internal/util/Preconditions$1"), (7, u "SIOOBE_FORMATTER"), (0, u "Ljava/util/function/BiFunction;"), (0, .class_ 126), (0, u "jdk/internal/util/Preconditions$2"), (3, u "AIOOBE_FORMATTER"), (0, .class_ 132), (0, u "jdk/internal/util/Preconditions$3"), (3, u "IOOBE_FORMATTER")] 57

def k12m0 : Method := { name := "<init>", desc := "()V", sig := { parameters := [], returnType := none }, accessFlags := 1, code := none }
/-- jdk/internal/util/Preconditions -/
def k12 : Class := { plain "jdk/internal/util/Preconditions" (some 0) with
  accessFlags := 33
  interfaces := #[]
  cf := some (fileOf pool12 24 #[.nestMembers #[55, 131, 125, 114]] #[{ accessFlags := 1, nameIndex := 5, descriptorIndex := 6, attributes := #[] }] 33 2 #[] #[{ accessFlags := 25, nameIndex := 123, descriptorIndex := 124, attributes := #[] }, { accessFlags := 25, nameIndex := 130, descriptorIndex := 124, attributes := #[] }, { accessFlags := 25, nameIndex := 136, descriptorIndex := 124, attributes := #[] }])
  fields := #[{ name := "SIOOBE_FORMATTER", type := (.object "java/util/function/BiFunction"), accessFlags := 25, slot := 0, constantValue := 0 }, { name := "AIOOBE_FORMATTER", type := (.object "java/util/function/BiFunction"), accessFlags := 25, slot := 1, constantValue := 0 }, { name := "IOOBE_FORMATTER", type := (.object "java/util/function/BiFunction"), accessFlags := 25, slot := 2, constantValue := 0 }]
  methods := #[k12m0]
  instanceTypes := #[]
  staticTypes := #[(.object "java/util/function/BiFunction"), (.object "java/util/function/BiFunction"), (.object "java/util/function/BiFunction")]
  resolved := Array.replicate 194 none
  statics := some 1 }

def pool13 : Array CpInfo := pool [(9, u "<init>"), (6, .class_ 18), (1, u "java/lang/Object"), (0, u "()V"), (1, .class_ 23), (1, u "jdk/internal/util/ArraysSupport"), (0, u "LOG2_ARRAY_LONG_INDEX_SCALE"), (0, u "I"), (2, u "U"), (0, u "Ljdk/internal/misc/Unsafe;"), (8, u "BIG_ENDIAN"), (0, u "Z"), (8, u "LOG2_BYTE_BIT_SIZE"), (4, u "LOG2_ARRAY_INT_INDEX_SCALE"), (54, u "JLA"), (0, u "Ljdk/internal/access/JavaLangAccess;"), (11, u "LOG2_ARRAY_BOOLEAN_INDEX_SCALE"), (9, u "LOG2_ARRAY_BYTE_INDEX_SCALE"), (5, u "LOG2_ARRAY_CHAR_INDEX_SCALE"), (5, u "LOG2_ARRAY_SHORT_INDEX_SCALE"), (18, u "LOG2_ARRAY_FLOAT_INDEX_SCALE"), (24, u "LOG2_ARRAY_DOUBLE_INDEX_SCALE"), (89, u "T_BOOLEAN"), (2, u "T_CHAR"), (1, u "T_FLOAT"), (1, u "T_DOUBLE"), (1, u "T_BYTE"), (1, u "T_SHORT"), (1, u "T_INT"), (1, u "T_LONG"), (1, u "SOFT_MAX_ARRAY_LENGTH")] 83

def k13m0 : Method := { name := "<init>", desc := "()V", sig := { parameters := [], returnType := none }, accessFlags := 2, code := none }
/-- jdk/internal/util/ArraysSupport -/
def k13 : Class := { plain "jdk/internal/util/ArraysSupport" (some 0) with
  accessFlags := 33
  interfaces := #[]
  cf := some (fileOf pool13 21 #[] #[{ accessFlags := 2, nameIndex := 9, descriptorIndex := 19, attributes := #[] }] 33 16 #[] #[{ accessFlags := 24, nameIndex := 28, descriptorIndex := 29, attributes := #[] }, { accessFlags := 26, nameIndex := 38, descriptorIndex := 39, attributes := #[] }, { accessFlags := 25, nameIndex := 121, descriptorIndex := 25, attributes := #[] }, { accessFlags := 25, nameIndex := 131, descriptorIndex := 25, attributes := #[] }, { accessFlags := 25, nameIndex := 137, descriptorIndex := 25, attributes := #[] }, { accessFlags := 25, nameIndex := 143, descriptorIndex := 25, attributes := #[] }, { accessFlags := 25, nameIndex := 53, descriptorIndex := 25, attributes := #[] }, { accessFlags := 25, nameIndex := 24, descriptorIndex := 25, attributes := #[] }, { accessFlags := 25, nameIndex := 162, descriptorIndex := 25, attributes := #[] }, { accessFlags := 25, nameIndex := 187, descriptorIndex := 25, attributes := #[] }, { accessFlags := 26, nameIndex := 48, descriptorIndex := 25, attributes := #[] }, { accessFlags := 25, nameIndex := 277, descriptorIndex := 25, attributes := #[] }, { accessFlags := 25, nameIndex := 280, descriptorIndex := 25, attributes := #[] }, { accessFlags := 25, nameIndex := 282, descriptorIndex := 25, attributes := #[] }, { accessFlags := 25, nameIndex := 284, descriptorIndex := 25, attributes := #[] }, { accessFlags := 25, nameIndex := 286, descriptorIndex := 25, attributes := #[] }, { accessFlags := 25, nameIndex := 288, descriptorIndex := 25, attributes := #[] }, { accessFlags := 25, nameIndex := 290, descriptorIndex := 25, attributes := #[] }, { accessFlags := 25, nameIndex := 292, descriptorIndex := 25, attributes := #[] }, { accessFlags := 26, nameIndex := 108, descriptorIndex := 109, attributes := #[] }, { accessFlags := 25, nameIndex := 294, descriptorIndex := 25, attributes := #[] }])
  fields := #[{ name := "U", type := (.object "jdk/internal/misc/Unsafe"), accessFlags := 24, slot := 0, constantValue := 0 }, { name := "BIG_ENDIAN", type := .boolean, accessFlags := 26, slot := 1, constantValue := 0 }, { name := "LOG2_ARRAY_BOOLEAN_INDEX_SCALE", type := .int, accessFlags := 25, slot := 2, constantValue := 0 }, { name := "LOG2_ARRAY_BYTE_INDEX_SCALE", type := .int, accessFlags := 25, slot := 3, constantValue := 0 }, { name := "LOG2_ARRAY_CHAR_INDEX_SCALE", type := .int, accessFlags := 25, slot := 4, constantValue := 0 }, { name := "LOG2_ARRAY_SHORT_INDEX_SCALE", type := .int, accessFlags := 25, slot := 5, constantValue := 0 }, { name := "LOG2_ARRAY_INT_INDEX_SCALE", type := .int, accessFlags := 25, slot := 6, constantValue := 0 }, { name := "LOG2_ARRAY_LONG_INDEX_SCALE", type := .int, accessFlags := 25, slot := 7, constantValue := 0 }, { name := "LOG2_ARRAY_FLOAT_INDEX_SCALE", type := .int, accessFlags := 25, slot := 8, constantValue := 0 }, { name := "LOG2_ARRAY_DOUBLE_INDEX_SCALE", type := .int, accessFlags := 25, slot := 9, constantValue := 0 }, { name := "LOG2_BYTE_BIT_SIZE", type := .int, accessFlags := 26, slot := 10, constantValue := 0 }, { name := "T_BOOLEAN", type := .int, accessFlags := 25, slot := 11, constantValue := 0 }, { name := "T_CHAR", type := .int, accessFlags := 25, slot := 12, constantValue := 0 }, { name := "T_FLOAT", type := .int, accessFlags := 25, slot := 13, constantValue := 0 }, { name := "T_DOUBLE", type := .int, accessFlags := 25, slot := 14, constantValue := 0 }, { name := "T_BYTE", type := .int, accessFlags := 25, slot := 15, constantValue := 0 }, { name := "T_SHORT", type := .int, accessFlags := 25, slot := 16, constantValue := 0 }, { name := "T_INT", type := .int, accessFlags := 25, slot := 17, constantValue := 0 }, { name := "T_LONG", type := .int, accessFlags := 25, slot := 18, constantValue := 0 }, { name := "JLA", type := (.object "jdk/internal/access/JavaLangAccess"), accessFlags := 26, slot := 19, constantValue := 0 }, { name := "SOFT_MAX_ARRAY_LENGTH", type := .int, accessFlags := 25, slot := 20, constantValue := 0 }]
  methods := #[k13m0]
  instanceTypes := #[]
  staticTypes := #[(.object "jdk/internal/misc/Unsafe"), .boolean, .int, .int, .int, .int, .int, .int, .int, .int, .int, .int, .int, .int, .int, .int, .int, .int, .int, (.object "jdk/internal/access/JavaLangAccess"), .int]
  resolved := Array.replicate 378 none
  statics := none }

def pool14 : Array CpInfo := pool [(1, u "java/lang/Cloneable"), (0, .class_ 1), (0, u "java/lang/Object"), (0, .class_ 3)] 3

/-- java/lang/Cloneable -/
def k14 : Class := { plain "java/lang/Cloneable" (some 0) with
  accessFlags := 1537
  interfaces := #[]
  cf := some (fileOf pool14 2 #[] #[] 1537 4 #[] #[])
  fields := #[]
  methods := #[]
  instanceTypes := #[]
  staticTypes := #[]
  resolved := Array.replicate 8 none
  statics := none }

/-- the primitive byte -/
def k15 : Class := { plain "byte" none with kind := .primitive 'B', accessFlags := 0x411 }
/-- [B -/
def k16 : Class := { plain "[B" (some 0) with kind := .array 15 .byte, interfaces := #[14, 3], accessFlags := 1041 }

/-- the primitive char -/
def k17 : Class := { plain "char" none with kind := .primitive 'C', accessFlags := 0x411 }
/-- [C -/
def k18 : Class := { plain "[C" (some 0) with kind := .array 17 .char, interfaces := #[14, 3], accessFlags := 1041 }

/-- the primitive int -/
def k19 : Class := { plain "int" none with kind := .primitive 'I', accessFlags := 0x411 }
/-- [I -/
def k20 : Class := { plain "[I" (some 0) with kind := .array 19 .int, interfaces := #[14, 3], accessFlags := 1041 }

def heap : Heap := #[{ cls := 8, slots := #[.long 0, .int 1, .null, .int 0, .null, .int 0, .int 0], vm := .statics 8 },
  { cls := 12, slots := #[.null, .null, .null], vm := .statics 12 }]
def classes : Array Class := #[k0, k1, k2, k3, k4, k5, k6, k7, k8, k9, k10, k11, k12, k13, k14, k15, k16, k17, k18, k19, k20]
def interned : List (Array UInt16 × Addr) := []
def slotsUsed : Nat := 10
def theMethod : MethodId := ⟨1, 4⟩
def args0 : Array Value := #[.int 5, .int 6, .int 7, .int 8, .int 9]
def aboutOver (below : List Frame) : State where
  vm := { classes := classes, interned := interned.toArray }
  heap := heap
  slotsUsed := slotsUsed
  threads := #[{ frames := .invoking theMethod args0 :: below }]
def below0 : List Frame := [.native { method := ⟨0, 0⟩, args := #[] }]
def about1 : State := aboutOver below0
def p0 : Program := .bare "" "" ""
def e0 : Env := launch0.env 0 0 0
theorem w_frames : about1.frames = Frame.invoking theMethod args0 :: below0 := rfl
set_option maxRecDepth 65536 in
theorem w_args : argsFit about1.vm theMethod args0 = true := by decide +kernel
set_option maxRecDepth 65536 in
theorem w_heap : heapFits about1 = true := by decide +kernel
set_option maxRecDepth 65536 in
theorem w_runnable : about1.curStatus? = some .runnable := by decide +kernel
set_option maxRecDepth 65536 in
theorem w_alone : about1.alone = true := by decide +kernel
set_option maxRecDepth 65536 in
theorem w_named : about1.methodNamed? x = some theMethod := by decide +kernel
set_option maxRecDepth 65536 in
theorem w_hears : about1.hears theMethod below0 = true := by decide +kernel
set_option maxRecDepth 65536 in
theorem w_ripe : about1.ripe theMethod args0 below0 = true := by decide +kernel
theorem w_running : about1.status = .running := rfl
set_option maxRecDepth 65536 in
theorem w_room : about1.hasRoom e0.platform room_1 = true :=
  launch0.hasRoom_least _ room_1 (by decide +kernel) (by decide +kernel) (by decide +kernel) (by decide +kernel) (by decide +kernel) (by decide +kernel)
theorem allAtoms_all (ts : List Jvm.Cond) (a : Array Jvm.Value) (st : Jvm.State) : (allAtoms ts).before a st = ts.all (fun c => c.before a st) := by
  induction ts with
  | nil => rfl
  | cons c t ih =>
    show (Jvm.Cond.and c (allAtoms t)).before a st = _
    rw [Jvm.Cond.before_and, ih, List.all_cons]
def words1 : List Jvm.Cond := Jvm.Cond.code x code maxLocals ret :: tables_1
/-- a 'code' word, met by the world's own term for the bytes: nothing is compared byte by byte -/
theorem code_word {y : MethodName} {bytes : ByteArray} {mx : Nat} {rt : Option FieldType} {a : Array Value} {s : State} {m : MethodId} {meth : Method} {c : Code} (h1 : s.methodNamed? y = some m) (h2 : s.vm.method? m = some meth) (h3 : meth.code = some c) (h4 : c.code = bytes)
    (h5 : (c.maxLocals == mx && c.exceptionTable.isEmpty && decide (c.maxStack ≤ mostOperands) && decide (meth.sig.returnType = rt) && !meth.locks && decide (parseMethodDescriptor y.desc = some meth.sig)) = true) : (Jvm.Cond.code y bytes mx rt).before a s = true := by
  simp only [Bool.and_eq_true, beq_iff_eq, Bool.not_eq_true', decide_eq_true_eq] at h5
  obtain ⟨⟨⟨⟨⟨g1, g2⟩, g3⟩, g4⟩, g5⟩, g6⟩ := h5
  simp [Cond.before, Cond.holds, Cond.value, h1, h2, h3, h4, g1, g2, g3, g4, g5, g6]
def isCode : Jvm.Cond → Bool
  | .code _ _ _ _ => true
  | _ => false
theorem all_split {L : List Jvm.Cond} {P : Jvm.Cond → Bool} (h1 : L.all (fun c => isCode c || P c) = true) (h2 : ∀ c ∈ L.filter isCode, P c = true) : L.all P = true := by
  refine List.all_eq_true.mpr fun c hc => ?_
  have h := List.all_eq_true.mp h1 c hc
  rcases Bool.eq_false_or_eq_true (isCode c) with hi | hi
  · exact h2 c (List.mem_filter.mpr ⟨hc, hi⟩)
  · simpa [hi] using h
set_option maxRecDepth 65536 in
theorem w_c0 : (Jvm.Cond.code x code maxLocals ret).before args0 about1 = true := code_word (m := ⟨1, 4⟩) (meth := k1m4) (c := k1c4) (by decide +kernel) rfl rfl rfl (by decide +kernel)
set_option maxRecDepth 65536 in
theorem w_c1 : (Jvm.Cond.code ({ cls := "com/example/hintikka/hintikka/ontology/FeatureValueEqualsPinLaw", name := "mk", desc := "(I)Ljava/lang/String;" } : Jvm.MethodName) method_3_code (5 : Nat) (Option.some (Jvm.ClassFile.FieldType.object "java/lang/String"))).before args0 about1 = true := code_word (m := ⟨1, 2⟩) (meth := k1m2) (c := k1c2) (by decide +kernel) rfl rfl rfl (by decide +kernel)
set_option maxRecDepth 65536 in
theorem w_c2 : (Jvm.Cond.code ({ cls := "com/example/hintikka/hintikka/ontology/FeatureValueEqualsPinLaw", name := "len", desc := "(I)I" } : Jvm.MethodName) method_2_code (1 : Nat) (Option.some Jvm.ClassFile.FieldType.int)).before args0 about1 = true := code_word (m := ⟨1, 1⟩) (meth := k1m1) (c := k1c1) (by decide +kernel) rfl rfl rfl (by decide +kernel)
set_option maxRecDepth 65536 in
theorem w_c3 : (Jvm.Cond.code ({ cls := "java/lang/String", name := "<init>", desc := "([C)V" } : Jvm.MethodName) jdk_42_method_3_code (2 : Nat) (Option.none : Option Jvm.ClassFile.FieldType)).before args0 about1 = true := code_word (m := ⟨8, 1⟩) (meth := k8m1) (c := k8c1) (by decide +kernel) rfl rfl rfl (by decide +kernel)
set_option maxRecDepth 65536 in
theorem w_c4 : (Jvm.Cond.code ({ cls := "java/lang/String", name := "<init>", desc := "([CIILjava/lang/Void;)V" } : Jvm.MethodName) jdk_42_method_149_code (6 : Nat) (Option.none : Option Jvm.ClassFile.FieldType)).before args0 about1 = true := code_word (m := ⟨8, 3⟩) (meth := k8m3) (c := k8c3) (by decide +kernel) rfl rfl rfl (by decide +kernel)
set_option maxRecDepth 65536 in
theorem w_c5 : (Jvm.Cond.code ({ cls := "java/lang/Object", name := "<init>", desc := "()V" } : Jvm.MethodName) object_method_1_code (1 : Nat) (Option.none : Option Jvm.ClassFile.FieldType)).before args0 about1 = true := code_word (m := ⟨0, 0⟩) (meth := k0m0) (c := k0c0) (by decide +kernel) rfl rfl rfl (by decide +kernel)
set_option maxRecDepth 65536 in
theorem w_c6 : (Jvm.Cond.code ({ cls := "com/example/hintikka/hintikka/ontology/FeatureValue", name := "<init>", desc := "(Ljava/lang/String;Ljava/lang/String;)V" } : Jvm.MethodName) prog_31_method_1_code (3 : Nat) (Option.none : Option Jvm.ClassFile.FieldType)).before args0 about1 = true := code_word (m := ⟨2, 0⟩) (meth := k2m0) (c := k2c0) (by decide +kernel) rfl rfl rfl (by decide +kernel)
set_option maxRecDepth 65536 in
theorem w_c7 : (Jvm.Cond.code ({ cls := "java/util/Objects", name := "requireNonNull", desc := "(Ljava/lang/Object;Ljava/lang/String;)Ljava/lang/Object;" } : Jvm.MethodName) jdk_31_method_11_code (2 : Nat) (Option.some (Jvm.ClassFile.FieldType.object "java/lang/Object"))).before args0 about1 = true := code_word (m := ⟨9, 1⟩) (meth := k9m1) (c := k9c1) (by decide +kernel) rfl rfl rfl (by decide +kernel)
set_option maxRecDepth 65536 in
theorem w_c8 : (Jvm.Cond.code ({ cls := "java/lang/StringUTF16", name := "compress", desc := "([CII)[B" } : Jvm.MethodName) jdk_52_method_16_code (6 : Nat) (Option.some (Jvm.ClassFile.FieldType.array Jvm.ClassFile.FieldType.byte))).before args0 about1 = true := code_word (m := ⟨10, 2⟩) (meth := k10m2) (c := k10c2) (by decide +kernel) rfl rfl rfl (by decide +kernel)
set_option maxRecDepth 65536 in
theorem w_c9 : (Jvm.Cond.code ({ cls := "java/lang/StringUTF16", name := "compress", desc := "([CI[BII)I" } : Jvm.MethodName) jdk_52_method_21_code (7 : Nat) (Option.some Jvm.ClassFile.FieldType.int)).before args0 about1 = true := code_word (m := ⟨10, 3⟩) (meth := k10m3) (c := k10c3) (by decide +kernel) rfl rfl rfl (by decide +kernel)
set_option maxRecDepth 65536 in
theorem w_c10 : (Jvm.Cond.code ({ cls := "java/lang/StringUTF16", name := "coderFromArrayLen", desc := "([BI)B" } : Jvm.MethodName) jdk_52_method_15_code (2 : Nat) (Option.some Jvm.ClassFile.FieldType.byte)).before args0 about1 = true := code_word (m := ⟨10, 1⟩) (meth := k10m1) (c := k10c1) (by decide +kernel) rfl rfl rfl (by decide +kernel)
set_option maxRecDepth 65536 in
theorem w_c11 : (Jvm.Cond.code ({ cls := "com/example/hintikka/hintikka/ontology/FeatureValueEqualsPinLaw", name := "key", desc := "(I)I" } : Jvm.MethodName) method_4_code (3 : Nat) (Option.some Jvm.ClassFile.FieldType.int)).before args0 about1 = true := code_word (m := ⟨1, 3⟩) (meth := k1m3) (c := k1c3) (by decide +kernel) rfl rfl rfl (by decide +kernel)
set_option maxRecDepth 65536 in
theorem w_c12 : (Jvm.Cond.code ({ cls := "com/example/hintikka/hintikka/ontology/FeatureValue", name := "equals", desc := "(Ljava/lang/Object;)Z" } : Jvm.MethodName) prog_31_method_4_code (3 : Nat) (Option.some Jvm.ClassFile.FieldType.boolean)).before args0 about1 = true := code_word (m := ⟨2, 1⟩) (meth := k2m1) (c := k2c1) (by decide +kernel) rfl rfl rfl (by decide +kernel)
set_option maxRecDepth 65536 in
theorem w_c13 : (Jvm.Cond.code ({ cls := "java/lang/String", name := "equals", desc := "(Ljava/lang/Object;)Z" } : Jvm.MethodName) jdk_42_method_66_code (3 : Nat) (Option.some Jvm.ClassFile.FieldType.boolean)).before args0 about1 = true := code_word (m := ⟨8, 2⟩) (meth := k8m2) (c := k8c2) (by decide +kernel) rfl rfl rfl (by decide +kernel)
set_option maxRecDepth 65536 in
theorem w_c14 : (Jvm.Cond.code ({ cls := "java/lang/StringLatin1", name := "equals", desc := "([B[B)Z" } : Jvm.MethodName) jdk_43_method_13_code (3 : Nat) (Option.some Jvm.ClassFile.FieldType.boolean)).before args0 about1 = true := code_word (m := ⟨11, 1⟩) (meth := k11m1) (c := k11c1) (by decide +kernel) rfl rfl rfl (by decide +kernel)
def codes1 : List Jvm.Cond := [Jvm.Cond.code x code maxLocals ret, Jvm.Cond.code ({ cls := "com/example/hintikka/hintikka/ontology/FeatureValueEqualsPinLaw", name := "mk", desc := "(I)Ljava/lang/String;" } : Jvm.MethodName) method_3_code (5 : Nat) (Option.some (Jvm.ClassFile.FieldType.object "java/lang/String")), Jvm.Cond.code ({ cls := "com/example/hintikka/hintikka/ontology/FeatureValueEqualsPinLaw", name := "len", desc := "(I)I" } : Jvm.MethodName) method_2_code (1 : Nat) (Option.some Jvm.ClassFile.FieldType.int), Jvm.Cond.code ({ cls := "java/lang/String", name := "<init>", desc := "([C)V" } : Jvm.MethodName) jdk_42_method_3_code (2 : Nat) (Option.none : Option Jvm.ClassFile.FieldType), Jvm.Cond.code ({ cls := "java/lang/String", name := "<init>", desc := "([CIILjava/lang/Void;)V" } : Jvm.MethodName) jdk_42_method_149_code (6 : Nat) (Option.none : Option Jvm.ClassFile.FieldType), Jvm.Cond.code ({ cls := "java/lang/Object", name := "<init>", desc := "()V" } : Jvm.MethodName) object_method_1_code (1 : Nat) (Option.none : Option Jvm.ClassFile.FieldType), Jvm.Cond.code ({ cls := "com/example/hintikka/hintikka/ontology/FeatureValue", name := "<init>", desc := "(Ljava/lang/String;Ljava/lang/String;)V" } : Jvm.MethodName) prog_31_method_1_code (3 : Nat) (Option.none : Option Jvm.ClassFile.FieldType), Jvm.Cond.code ({ cls := "java/util/Objects", name := "requireNonNull", desc := "(Ljava/lang/Object;Ljava/lang/String;)Ljava/lang/Object;" } : Jvm.MethodName) jdk_31_method_11_code (2 : Nat) (Option.some (Jvm.ClassFile.FieldType.object "java/lang/Object")), Jvm.Cond.code ({ cls := "java/lang/StringUTF16", name := "compress", desc := "([CII)[B" } : Jvm.MethodName) jdk_52_method_16_code (6 : Nat) (Option.some (Jvm.ClassFile.FieldType.array Jvm.ClassFile.FieldType.byte)), Jvm.Cond.code ({ cls := "java/lang/StringUTF16", name := "compress", desc := "([CI[BII)I" } : Jvm.MethodName) jdk_52_method_21_code (7 : Nat) (Option.some Jvm.ClassFile.FieldType.int), Jvm.Cond.code ({ cls := "java/lang/StringUTF16", name := "coderFromArrayLen", desc := "([BI)B" } : Jvm.MethodName) jdk_52_method_15_code (2 : Nat) (Option.some Jvm.ClassFile.FieldType.byte), Jvm.Cond.code ({ cls := "com/example/hintikka/hintikka/ontology/FeatureValueEqualsPinLaw", name := "key", desc := "(I)I" } : Jvm.MethodName) method_4_code (3 : Nat) (Option.some Jvm.ClassFile.FieldType.int), Jvm.Cond.code ({ cls := "com/example/hintikka/hintikka/ontology/FeatureValue", name := "equals", desc := "(Ljava/lang/Object;)Z" } : Jvm.MethodName) prog_31_method_4_code (3 : Nat) (Option.some Jvm.ClassFile.FieldType.boolean), Jvm.Cond.code ({ cls := "java/lang/String", name := "equals", desc := "(Ljava/lang/Object;)Z" } : Jvm.MethodName) jdk_42_method_66_code (3 : Nat) (Option.some Jvm.ClassFile.FieldType.boolean), Jvm.Cond.code ({ cls := "java/lang/StringLatin1", name := "equals", desc := "([B[B)Z" } : Jvm.MethodName) jdk_43_method_13_code (3 : Nat) (Option.some Jvm.ClassFile.FieldType.boolean)]
set_option maxRecDepth 65536 in
theorem codes_eq : words1.filter isCode = codes1 := rfl
theorem w_codes : ∀ c ∈ words1.filter isCode, c.before args0 about1 = true := by
  rw [codes_eq]
  intro c hc
  simp only [codes1, List.mem_cons, List.not_mem_nil, or_false] at hc
  rcases hc with rfl | rfl | rfl | rfl | rfl | rfl | rfl | rfl | rfl | rfl | rfl | rfl | rfl | rfl | rfl
  · exact w_c0
  · exact w_c1
  · exact w_c2
  · exact w_c3
  · exact w_c4
  · exact w_c5
  · exact w_c6
  · exact w_c7
  · exact w_c8
  · exact w_c9
  · exact w_c10
  · exact w_c11
  · exact w_c12
  · exact w_c13
  · exact w_c14
set_option maxRecDepth 65536 in
theorem w_t1 : (words1.take 24).all (fun c => isCode c || c.before args0 about1) = true := by decide +kernel
set_option maxRecDepth 65536 in
theorem w_t2 : ((words1.drop 24).take 24).all (fun c => isCode c || c.before args0 about1) = true := by decide +kernel
set_option maxRecDepth 65536 in
theorem w_t3 : (((words1.drop 24).drop 24).take 24).all (fun c => isCode c || c.before args0 about1) = true := by decide +kernel
set_option maxRecDepth 65536 in
theorem w_t4 : (((words1.drop 24).drop 24).drop 24).all (fun c => isCode c || c.before args0 about1) = true := by decide +kernel
theorem w_tables : (allAtoms (Jvm.Cond.code x code maxLocals ret :: tables_1)).before args0 about1 = true := by
  rw [allAtoms_all]
  show words1.all (fun c => c.before args0 about1) = true
  refine all_split ?_ w_codes
  rw [← List.take_append_drop 24 words1, List.all_append, w_t1, ← List.take_append_drop 24 (words1.drop 24), List.all_append, w_t2, ← List.take_append_drop 24 ((words1.drop 24).drop 24), List.all_append, w_t3, w_t4]
  rfl
set_option maxRecDepth 65536 in
theorem w_rest : rest_1_c.before args0 about1 = true := by decide +kernel
set_option maxRecDepth 65536 in
theorem w_case : (Jvm.Cond.and given_1 narrow_1).before args0 about1 = true := by decide +kernel
set_option maxRecDepth 65536 in
theorem w_consts : constsHeld consts_1 about1 := Jvm.Lit.constsHeldB_iff.mp (by decide +kernel)
theorem w_applies : (headSpec (Jvm.Cond.code x code maxLocals ret :: tables_1) room_1).applies x e0.platform about1 = true :=
  (Spec.applies_iff w_frames).mpr ⟨w_running, w_runnable, w_alone, w_named, w_hears, w_ripe, w_room, w_tables⟩
theorem atStart : AtStart classFile x code maxLocals ret World_1 tables_1 room_1 Calls_1 rest_1 Pre_1 launch0 p0 e0 about1 theMethod args0 below0 :=
  ⟨lists_1, trivial, launch0.admits_env _ _ _, launch0.least_env, fairChoices_fair.cas, fairChoices_fair.clock, w_frames, w_args, w_heap, w_applies, ⟨w_consts, trivial⟩, w_rest, w_case⟩
end start1
theorem witness_1 : WitnessClaimed_1 := ⟨start1.p0, start1.e0, start1.about1, start1.theMethod, start1.args0, start1.below0, start1.atStart⟩
end Jvm.Pilot.@@N@@
