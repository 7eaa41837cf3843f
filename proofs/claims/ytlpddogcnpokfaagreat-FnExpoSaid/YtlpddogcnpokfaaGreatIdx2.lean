/- What the tests of the math package say of a double; the bucket reckoned by a logarithm, and the one below scale 0, are the bucket by the digits, shifted. -/
import Derived.Test.YtlpddogcnpokfaaGreatIdx1
import Derived.KernelRfl
namespace Go.Proofs.YtlpddogcnpokfaaGreat.Lg
open Ieee

def nanW (w : Nat) : Bool := decide (2047 * 2 ^ 52 < rung w)
def infW (w : Nat) : Bool := decide (rung w = 2047 * 2 ^ 52)

theorem fin_iff (w : Nat) : fin w ↔ nanW w = false ∧ infW w = false := by
  unfold fin nanW infW; simp only [decide_eq_false_iff_not]; omega

theorem read_inf {w : Nat} (h : infW w = true) : double.read w = .infinity (negW w) := by
  unfold infW at h
  simp only [decide_eq_true_eq] at h
  unfold Format.read negW
  rw [sign_eq, least_eq, binade_eq, inf_eq]
  change (if rung w < 2 ^ 52 then _ else if rung w < 2047 * 2 ^ 52 then _ else if rung w = 2047 * 2 ^ 52 then _ else _) = _
  rw [if_neg (by omega), if_neg (by omega), if_pos h]

theorem read_nan {w : Nat} (h : nanW w = true) : ∃ s f, double.read w = .nan s f := by
  unfold nanW at h
  simp only [decide_eq_true_eq] at h
  unfold Format.read
  rw [sign_eq, least_eq, binade_eq, inf_eq]
  refine ⟨negW w, rung w - 2047 * 2 ^ 52, ?_⟩
  change (if rung w < 2 ^ 52 then _ else if rung w < 2047 * 2 ^ 52 then _ else if rung w = 2047 * 2 ^ 52 then _ else _) = _
  rw [if_neg (by omega), if_neg (by omega), if_neg (by omega)]
  rfl

/-- 'math.IsNaN' -/
theorem is_nan (w : Nat) : (double.order w w != some .eq) = nanW w := by
  cases hn : nanW w with
  | true =>
    obtain ⟨s, f, hr⟩ := read_nan hn
    unfold Format.order; rw [hr]; rfl
  | false =>
    cases hi : infW w with
    | true =>
      unfold Format.order; rw [read_inf hi]
      cases negW w <;> decide
    | false =>
      have hf := (fin_iff w).2 ⟨hn, hi⟩
      have := order_eq (is_fin hf) (is_fin hf)
      simp only [bne, this, decide_true, Bool.not_true]

theorem rung_abs (w : Nat) : rung (w % 9223372036854775808) = rung w := by unfold rung; omega

theorem abs_le_max {w : Nat} (h : fin w) (hw : w < 2 ^ 63) : val w ≤ val 9218868437227405311 := by
  have hmax : val 9218868437227405311 = (2 ^ 53 - 1) * p2 971 := by decide +kernel
  rw [hmax]
  have hs : negW w = false := by unfold negW; rw [beq_eq_false_iff_ne]; omega
  unfold fin at h
  have hm : mag w ≤ 2 ^ 53 - 1 := by unfold mag; split <;> omega
  have hp : pl w ≤ 971 := by unfold pl; split <;> omega
  have h1 := Rat.natCast_le_natCast.2 hm
  have e : ((2 ^ 53 - 1 : Nat) : Rat) = 2 ^ 53 - 1 := by decide +kernel
  rw [e] at h1
  have := mul_mono (a := (mag w : Rat)) (c := p2 (pl w)) (Rat.natCast_nonneg) h1 (Rat.le_of_lt (p2_pos _)) (p2_le hp)
  unfold val; rw [hs]; unfold sg; simp only [Bool.false_eq_true, if_false]; grind

/-- 'math.IsInf' of either sign -/
theorem is_inf (w : Nat) : (double.order (w % 9223372036854775808) 9218868437227405311 == some .gt) = infW w := by
  have hra := rung_abs w
  cases hn : nanW w with
  | true =>
    have hn' : nanW (w % 9223372036854775808) = true := by unfold nanW at *; rw [hra]; exact hn
    obtain ⟨s, f, hr⟩ := read_nan hn'
    have : infW w = false := by unfold nanW infW at *; simp at hn ⊢; omega
    unfold Format.order; rw [hr, this]; rfl
  | false =>
    cases hi : infW w with
    | true =>
      have hi' : infW (w % 9223372036854775808) = true := by unfold infW at *; rw [hra]; exact hi
      have hs : negW (w % 9223372036854775808) = false := by unfold negW; rw [beq_eq_false_iff_ne]; omega
      unfold Format.order; rw [read_inf hi', hs]
      decide +kernel
    | false =>
      have hf : fin (w % 9223372036854775808) := by
        have := (fin_iff w).2 ⟨hn, hi⟩
        unfold fin at *; rw [hra]; exact this
      have hM : fin 9218868437227405311 := by decide +kernel
      rw [order_gt (is_fin hf) (is_fin hM)]
      have := abs_le_max hf (Nat.mod_lt _ (by decide))
      rw [decide_eq_false_iff_not]; grind

/-- a number above 0 is small just if its word is -/
theorem lt_small (w : Nat) (hf : fin w) (hw : w < 2 ^ 63) : (double.order w 4503599627370496 == some .lt) = decide (w < 2 ^ 52) := by
  have hM : fin 4503599627370496 := by decide +kernel
  have hv : val 4503599627370496 = 2 ^ 52 * p2 (-1074) := by decide +kernel
  rw [order_lt (is_fin hf) (is_fin hM), hv]
  by_cases h : w < 2 ^ 52
  · have := val_small h
    simp [h, this]
  · have := val_normal (w := w) (by omega) hw
    have h' : ¬ val w < 2 ^ 52 * p2 (-1074) := by grind
    simp [h, h']

theorem eq_zero (w : Nat) (hf : fin w) : (double.order w 0 == some .eq) = decide (rung w = 0) := by
  have h0 : fin 0 := by decide +kernel
  have hv : val 0 = 0 := by decide +kernel
  rw [order_eq (is_fin hf) (is_fin h0), hv]
  congr 1
  exact propext (val_zero w)

theorem eq_half (w : Nat) (hw : 1022 * 2 ^ 52 ≤ w) (h2 : w < 1023 * 2 ^ 52) : (double.order w 4602678819172646912 == some .eq) = decide (w = 1022 * 2 ^ 52) := by
  have hf : fin w := by unfold fin rung; omega
  have h0 : fin 4602678819172646912 := by decide +kernel
  rw [order_eq (is_fin hf) (is_fin h0)]
  congr 1
  have hv : val 4602678819172646912 = 2 ^ 52 * p2 (-53) := by decide +kernel
  have hs : negW w = false := by unfold negW; rw [beq_eq_false_iff_ne]; omega
  have hr : rung w = w := by unfold rung; omega
  have hval : val w = ((2 ^ 52 + (w - 1022 * 2 ^ 52) : Nat) : Rat) * p2 (-53) := by
    unfold val mag pl; rw [hs, hr, if_neg (by omega), if_neg (by omega)]
    have e1 : 2 ^ 52 + w % 2 ^ 52 = 2 ^ 52 + (w - 1022 * 2 ^ 52) := by omega
    have e2 : ((w / 2 ^ 52 : Nat) : Int) - 1075 = -53 := by omega
    rw [e1, e2]; unfold sg; simp only [Bool.false_eq_true, if_false]; grind
  rw [hval, hv]
  apply propext
  constructor
  · intro h
    have hp := p2_pos (-53)
    have h3 : (((2 ^ 52 + (w - 1022 * 2 ^ 52) : Nat) : Rat) - ((2 ^ 52 : Nat) : Rat)) * p2 (-53) = 0 := by
      have e : ((2 ^ 52 : Nat) : Rat) = 2 ^ 52 := by decide +kernel
      rw [e]; grind
    rcases Rat.mul_eq_zero.1 h3 with h | h
    · have h4 : ((2 ^ 52 + (w - 1022 * 2 ^ 52) : Nat) : Rat) = ((2 ^ 52 : Nat) : Rat) := by grind
      have := Rat.natCast_inj.1 h4
      omega
    · grind
  · intro h
    have e : 2 ^ 52 + (w - 1022 * 2 ^ 52) = 2 ^ 52 := by omega
    rw [e]
    have e : ((2 ^ 52 : Nat) : Rat) = 2 ^ 52 := by decide +kernel
    rw [e]

/-- floor of a bucket over a power of two -/
theorem idx_shift (top w : Nat) (S : Nat) (hS : S ≤ top) :
    idx top w / ((2 ^ (top - S) : Nat) : Int) = if fr w = 0 then ex w * ((2 ^ S : Nat) : Int) - 1 else ex w * ((2 ^ S : Nat) : Int) + (((dig top w).1 / 2 ^ (top - S) : Nat) : Int) := by
  have hp : (0 : Int) < ((2 ^ (top - S) : Nat) : Int) := by
    have : 0 < 2 ^ (top - S) := Nat.two_pow_pos _
    omega
  have e : ((2 ^ top : Nat) : Int) = ((2 ^ S : Nat) : Int) * ((2 ^ (top - S) : Nat) : Int) := by
    rw [← Int.natCast_mul, ← Nat.pow_add, show S + (top - S) = top from by omega]
  have hk : (((dig top w).1 / 2 ^ (top - S) : Nat) : Int) = ((dig top w).1 : Int) / ((2 ^ (top - S) : Nat) : Int) := Int.natCast_ediv _ _
  rw [hk]
  unfold idx
  rw [e]
  generalize ((2 ^ (top - S) : Nat) : Int) = D at *
  split
  · rw [← Int.mul_assoc]
    rw [show ex w * ((2 ^ S : Nat) : Int) * D - 1 = (D - 1) + (ex w * ((2 ^ S : Nat) : Int) - 1) * D from by rw [Int.sub_mul]; omega]
    rw [Int.add_mul_ediv_right _ _ (by omega), Int.ediv_eq_zero_of_lt (by omega) (by omega)]
    omega
  · rw [← Int.mul_assoc, Int.add_comm, Int.add_mul_ediv_right _ _ (by omega)]
    omega

/-- THE BUCKET THAT THE PROGRAM RECKONS, at a scale below 0 or 0. -/
theorem bin_low (top w d : Nat) (h0 : 0 < w) : (if fr w = 0 then ex w - 1 else ex w) / ((2 ^ d : Nat) : Int) = idx top w / ((2 ^ (top + d) : Nat) : Int) := by
  have h1 := idx_shift top w 0 (Nat.zero_le _)
  have hk : (dig top w).1 / 2 ^ (top - 0) = 0 := Nat.div_eq_of_lt (by simpa using (dig_range top w h0).2.2)
  rw [hk] at h1
  simp only [Nat.sub_zero, Nat.pow_zero] at h1
  have e : ((2 ^ (top + d) : Nat) : Int) = ((2 ^ top : Nat) : Int) * ((2 ^ d : Nat) : Int) := by rw [← Int.natCast_mul, ← Nat.pow_add]
  rw [e, ← Int.ediv_ediv_of_nonneg (Int.natCast_nonneg _), h1]
  congr 1
  split <;> omega

/-- of a power of two -/
theorem half_scale (S : Nat) (h : S ≤ 20) : ∃ w P, Go.Extern.MathLog.archLog #[.float .f64 4602678819172646912] = Go.Sem.pure (.float .f64 w) ∧ Go.floatBits .mul .f64 w (scaleWord S) = some P ∧
    Go.floatToIntVal .f64 P .i32 = some (-((2 ^ S : Nat) : Int)) := by
  refine ⟨0xBFE62E42FEFA39EF, 0xBFF0000000000000 + S * 2 ^ 52, ?_, ?_, ?_⟩
  · kernel_rfl
  · have key : ∀ S : Fin 21, Go.floatBits .mul .f64 0xBFE62E42FEFA39EF (scaleWord S.val) = some (0xBFF0000000000000 + S.val * 2 ^ 52) := by decide +kernel
    exact key ⟨S, by omega⟩
  · have key : ∀ S : Fin 21, Go.floatToIntVal .f64 (0xBFF0000000000000 + S.val * 2 ^ 52) .i32 = some (-((2 ^ S.val : Nat) : Int)) := by decide +kernel
    exact key ⟨S, by omega⟩

/-- THE BUCKET THAT THE PROGRAM RECKONS BY A LOGARITHM: at a scale from 0 on. -/
theorem bin_high (top w S : Nat) (hS : S ≤ top) (ht : top ≤ 20) (h0 : 0 < w) (hn : near top w = false) (hS0 : 0 < S) :
    ∃ r P t, Go.Extern.MathLog.archLog #[.float .f64 (1022 * 2 ^ 52 + fr w)] = Go.Sem.pure (.float .f64 r) ∧ Go.floatBits .mul .f64 r (scaleWord S) = some P ∧
      Go.floatToIntVal .f64 P .i32 = some t ∧ (ex w + 1) * ((2 ^ S : Nat) : Int) + t - 1 = idx top w / ((2 ^ (top - S) : Nat) : Int) ∧ -((2 ^ S : Nat) : Int) ≤ t ∧ t ≤ 0 := by
  rw [idx_shift top w S hS]
  by_cases hf : fr w = 0
  · obtain ⟨r, P, h1, h2, h3⟩ := half_scale S (by omega)
    rw [hf]
    have hz : (0 : Int) ≤ ((2 ^ S : Nat) : Int) := Int.natCast_nonneg _
    refine ⟨r, P, _, h1, h2, h3, ?_, Int.le_refl _, by generalize ((2 ^ S : Nat) : Int) = z at *; omega⟩
    rw [if_pos rfl, Int.add_mul]
    generalize ((2 ^ S : Nat) : Int) = z at *
    omega
  · rw [if_neg hf]
    have hd := dig_range top w h0
    have hn' : 2 ^ 63 + 2 ^ 43 ≤ (dig top w).2 ∧ (dig top w).2 ≤ 2 ^ 64 - 1 - 2 ^ 43 := by
      unfold near at hn
      have hb : (fr w != 0) = true := by simpa using hf
      have ht0 : decide (0 < top) = true := decide_eq_true (by omega)
      rw [hb, ht0] at hn
      simp only [Bool.true_and, Bool.or_eq_false_iff, decide_eq_false_iff_not] at hn
      omega
    obtain ⟨r, P, h1, h2, h3⟩ := bin_float (fr w) (by omega) (fr_lt w h0) top S hS ht hn'.1 hn'.2
    have hq : (dig top w).1 / 2 ^ (top - S) < 2 ^ S := by
      rw [Nat.div_lt_iff_lt_mul (Nat.two_pow_pos _), ← Nat.pow_add, show S + (top - S) = top from by omega]
      exact hd.2.2
    unfold dig at hq ⊢
    refine ⟨r, P, _, h1, h2, h3, ?_, ?_⟩
    · rw [Int.add_mul]
      generalize ((2 ^ S : Nat) : Int) = z at *
      omega
    · clear h1 h2 h3 hn hn' hd
      generalize (sqs top ((2 ^ 52 + fr w) * 2048)).1 / 2 ^ (top - S) = q at *
      generalize 2 ^ S = z at *
      omega
end Go.Proofs.YtlpddogcnpokfaaGreat.Lg
