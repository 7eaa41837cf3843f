/- Finite doubles as numbers; the fraction and the exponent of a number above 0; its bucket by the digits. What the tests of the math package say of a double; the bucket reckoned by a logarithm, and the one below scale 0, are the bucket by the digits, shifted. -/
import Derived.Test.YtlpddogcnpokfaaGreatFlt
import Derived.KernelRfl
namespace Go.Proofs.YtlpddogcnpokfaaGreat.Lg
open Ieee

/-- the magnitude's place in order, of a word -/
def rung (w : Nat) : Nat := w % 2 ^ 63
def fin (w : Nat) : Prop := rung w < 2047 * 2 ^ 52
instance (w : Nat) : Decidable (fin w) := inferInstanceAs (Decidable (_ < _))
def negW (w : Nat) : Bool := w / 2 ^ 63 % 2 == 1
def mag (w : Nat) : Nat := if rung w < 2 ^ 52 then rung w else 2 ^ 52 + rung w % 2 ^ 52
def pl (w : Nat) : Int := if rung w < 2 ^ 52 then -1074 else ((rung w / 2 ^ 52 : Nat) : Int) - 1075
/-- the number that a finite word stands for -/
def val (w : Nat) : Rat := sg (negW w) * ((mag w : Rat) * p2 (pl w))

theorem read_fin {w : Nat} (h : fin w) : double.read w = .number (negW w) (mag w) (pl w) := by
  unfold fin at h
  unfold Format.read mag pl negW
  rw [sign_eq, least_eq, binade_eq, inf_eq]
  change (if rung w < 2 ^ 52 then _ else if rung w < 2047 * 2 ^ 52 then _ else if rung w = 2047 * 2 ^ 52 then _ else _) = _
  by_cases hc : rung w < 2 ^ 52
  · rw [if_pos hc, if_pos hc, if_pos hc]; rfl
  · rw [if_neg hc, if_pos h, if_neg hc, if_neg hc]
    show Datum.number _ _ _ = Datum.number _ _ _
    have : (-1074 + (((w % 2 ^ 63) / 2 ^ 52 - 1 : Nat) : Int)) = ((rung w / 2 ^ 52 : Nat) : Int) - 1075 := by
      unfold rung at *; omega
    rw [this]; rfl

theorem is_fin {w : Nat} (h : fin w) : Is w (val w) := ⟨_, _, _, read_fin h, rfl⟩

theorem Is.fin {w : Nat} {v : Rat} (h : Is w v) : fin w := by
  obtain ⟨s, m, i, hr, -⟩ := h
  unfold Format.read at hr
  rw [sign_eq, least_eq, binade_eq, inf_eq] at hr
  dsimp only at hr
  unfold Lg.fin rung
  split at hr
  · omega
  · split at hr
    · assumption
    · split at hr <;> cases hr

theorem mag_zero (w : Nat) : mag w = 0 ↔ rung w = 0 := by
  unfold mag; split <;> omega

theorem val_zero (w : Nat) : val w = 0 ↔ rung w = 0 := by
  rw [← mag_zero]
  unfold val
  have hp := p2_pos (pl w)
  constructor
  · intro h
    have hs : sg (negW w) ≠ 0 := by unfold sg; cases negW w <;> decide +kernel
    rcases Rat.mul_eq_zero.1 h with h | h
    · exact absurd h hs
    · rcases Rat.mul_eq_zero.1 h with h | h
      · exact Rat.natCast_inj.1 (show (mag w : Rat) = ((0 : Nat) : Rat) from h)
      · grind
  · intro h; rw [h]
    have : ((0 : Nat) : Rat) = 0 := rfl
    rw [this]; grind

/-- of words without a sign -/
theorem val_pos {w : Nat} (h0 : 0 < w) (h : w < 2 ^ 63) : 0 < val w := by
  have hm : 0 < mag w := by
    have := mag_zero w; unfold rung at this; omega
  have hs : negW w = false := by unfold negW; rw [beq_eq_false_iff_ne]; omega
  have : (0 : Rat) < (mag w : Rat) := Rat.natCast_lt_natCast.2 hm
  unfold val; rw [hs]
  have := Rat.mul_pos this (p2_pos (pl w))
  unfold sg; simp only [Bool.false_eq_true, if_false]; grind

theorem val_small {w : Nat} (h : w < 2 ^ 52) : val w < 2 ^ 52 * p2 (-1074) := by
  have hs : negW w = false := by unfold negW; rw [beq_eq_false_iff_ne]; omega
  have hr : rung w = w := by unfold rung; omega
  unfold val mag pl; rw [hs, hr, if_pos h, if_pos h]
  have : (w : Rat) < 2 ^ 52 := by
    have := Rat.natCast_lt_natCast.2 h
    have e : ((2 ^ 52 : Nat) : Rat) = 2 ^ 52 := by decide +kernel
    rw [e] at this; exact this
  have := Rat.mul_lt_mul_of_pos_right this (p2_pos (-1074))
  unfold sg; simp only [Bool.false_eq_true, if_false]; grind

theorem val_normal {w : Nat} (h : 2 ^ 52 ≤ w) (h2 : w < 2 ^ 63) : 2 ^ 52 * p2 (-1074) ≤ val w := by
  have hs : negW w = false := by unfold negW; rw [beq_eq_false_iff_ne]; omega
  have hr : rung w = w := by unfold rung; omega
  unfold val mag pl; rw [hs, hr, if_neg (by omega), if_neg (by omega)]
  have h1 : (2 ^ 52 : Rat) ≤ ((2 ^ 52 + w % 2 ^ 52 : Nat) : Rat) := by
    have : 2 ^ 52 ≤ 2 ^ 52 + w % 2 ^ 52 := by omega
    have := Rat.natCast_le_natCast.2 this
    have e : ((2 ^ 52 : Nat) : Rat) = 2 ^ 52 := by decide +kernel
    rw [e] at this; exact this
  have h3 : p2 (-1074) ≤ p2 (((w / 2 ^ 52 : Nat) : Int) - 1075) := p2_le (by omega)
  have := mul_mono (a := 2 ^ 52) (b := ((2 ^ 52 + w % 2 ^ 52 : Nat) : Rat)) (c := p2 (-1074)) (d := p2 (((w / 2 ^ 52 : Nat) : Int) - 1075)) (by decide +kernel) h1 (Rat.le_of_lt (p2_pos _)) h3
  unfold sg; simp only [Bool.false_eq_true, if_false]; grind

/-- the fraction field and the exponent of a number above 0, as if it were a normal one -/
def fr (w : Nat) : Nat := if w < 2 ^ 52 then w * 2 ^ (52 - w.log2) - 2 ^ 52 else w % 2 ^ 52
def ex (w : Nat) : Int := if w < 2 ^ 52 then (w.log2 : Int) - 1074 else ((w / 2 ^ 52 : Nat) : Int) - 1023

theorem fr_lt (w : Nat) (h0 : 0 < w) : fr w < 2 ^ 52 := by
  unfold fr
  split
  · have hb2 : w < 2 ^ (w.log2 + 1) := Nat.lt_log2_self
    have hl : w.log2 < 52 := by
      rename_i h; exact (Nat.log2_lt (by omega)).2 h
    have : w * 2 ^ (52 - w.log2) < 2 ^ (w.log2 + 1) * 2 ^ (52 - w.log2) := Nat.mul_lt_mul_of_pos_right hb2 (Nat.two_pow_pos _)
    rw [← Nat.pow_add, show w.log2 + 1 + (52 - w.log2) = 53 from by omega] at this
    omega
  · omega

theorem fr_ge (w : Nat) (h0 : 0 < w) (h : w < 2 ^ 52) : 2 ^ 52 ≤ w * 2 ^ (52 - w.log2) := by
  have hb := bit_lo w (by omega)
  have hl : w.log2 < 52 := (Nat.log2_lt (by omega)).2 h
  have : 2 ^ w.log2 * 2 ^ (52 - w.log2) ≤ w * 2 ^ (52 - w.log2) := Nat.mul_le_mul_right _ hb
  rw [← Nat.pow_add, show w.log2 + (52 - w.log2) = 52 from by omega] at this
  exact this

theorem ex_range (w : Nat) (h0 : 0 < w) (h : w < 2047 * 2 ^ 52) : -1074 ≤ ex w ∧ ex w ≤ 1023 := by
  unfold ex
  split
  · rename_i hc
    have hl : w.log2 < 52 := (Nat.log2_lt (by omega)).2 hc
    omega
  · omega

theorem small_arith (l z : Nat) (h1 : 2 ^ 52 ≤ z) (h2 : z - 2 ^ 52 < 2 ^ 52) (hl : l < 52) :
    double.word false (min (l * 2 ^ 52 + z) (2047 * 2 ^ 52)) = (l + 1) * 2 ^ 52 + (z - 2 ^ 52) := by
  have h : l * 2 ^ 52 + z ≤ 2047 * 2 ^ 52 := by omega
  rw [Nat.min_eq_left h]
  unfold Format.word
  simp only [Bool.false_eq_true, if_false]
  omega

/-- a small number, made greater by 2^52 -/
theorem mul_small (w : Nat) (h0 : 0 < w) (h : w < 2 ^ 52) : double.mul w 4841369599423283200 = some ((w.log2 + 1) * 2 ^ 52 + fr w) := by
  have hr1 : double.read w = .number false w (-1074) := by
    have hf : fin w := by unfold fin rung; omega
    rw [read_fin hf]
    have hs : negW w = false := by unfold negW; rw [beq_eq_false_iff_ne]; omega
    have hr : rung w = w := by unfold rung; omega
    unfold mag pl; rw [hs, hr, if_pos h, if_pos h]
  have hr2 : double.read 4841369599423283200 = .number false (2 ^ 52) 0 := by decide +kernel
  unfold Format.mul
  rw [hr1, hr2]
  show some (double.nearest false (w * 2 ^ 52) (-1074 + 0)) = _
  congr 1
  have hl : w.log2 < 52 := (Nat.log2_lt (by omega)).2 h
  have hlog : (w * 2 ^ 52).log2 = w.log2 + 52 := by
    have b1 := bit_lo w (by omega)
    have b2 : w < 2 ^ (w.log2 + 1) := Nat.lt_log2_self
    have hz : w * 2 ^ 52 ≠ 0 := by omega
    rw [Nat.log2_eq_iff hz]
    constructor
    · rw [Nat.pow_add]; exact Nat.mul_le_mul_right _ b1
    · rw [show w.log2 + 52 + 1 = (w.log2 + 1) + 52 from by omega, Nat.pow_add (2) (w.log2 + 1) 52]
      exact Nat.mul_lt_mul_of_pos_right b2 (Nat.two_pow_pos _)
  unfold Format.nearest
  have hz : ¬ w * 2 ^ 52 = 0 := by omega
  rw [if_neg hz, least_eq, binade_eq, inf_eq, hlog]
  have ef : (double.fractionBits : Int) = 52 := rfl
  rw [ef]
  have e1 : max ((-1074 + 0) + ((w.log2 + 52 : Nat) : Int) - 52) (-1074) = (w.log2 : Int) - 1074 := by omega
  simp only [e1]
  have e2 : ((-1074 + 0 : Int) - ((w.log2 : Int) - 1074)).toNat = 0 := by omega
  have e3 : ((w.log2 : Int) - 1074 - (-1074 + 0 : Int)).toNat = w.log2 := by omega
  have e4 : ((w.log2 : Int) - 1074 - -1074).toNat = w.log2 := by omega
  rw [e2, e3, e4, Nat.shiftLeft_zero]
  obtain ⟨k, hk, k1, k2, k3, k4⟩ := cut_even false (w * 2 ^ 52) w.log2
  rw [hk]
  have hge := fr_ge w h0 h
  have hfr : fr w = w * 2 ^ (52 - w.log2) - 2 ^ 52 := by unfold fr; rw [if_pos h]
  have hpow : w * 2 ^ 52 = w * 2 ^ (52 - w.log2) * 2 ^ w.log2 := by
    rw [Nat.mul_assoc, ← Nat.pow_add, show 52 - w.log2 + w.log2 = 52 from by omega]
  have hp : 0 < 2 ^ w.log2 := Nat.two_pow_pos _
  have hk' : k = w * 2 ^ (52 - w.log2) := by
    rw [hpow] at k1 k2
    generalize w * 2 ^ (52 - w.log2) = z at *
    generalize 2 ^ w.log2 = d at *
    have h1 : k * d < (z + 1) * d := by rw [Nat.add_mul]; omega
    have h2 : z * d < (k + 1) * d := by rw [Nat.add_mul]; omega
    have h1' := Nat.lt_of_mul_lt_mul_right h1
    have h2' := Nat.lt_of_mul_lt_mul_right h2
    omega
  rw [hk', hfr]
  have hlt := fr_lt w h0
  rw [hfr] at hlt
  exact small_arith _ _ hge hlt hl

/-- the digits of a number's logarithm at a scale: the places below the point, and what is left -/
def dig (top w : Nat) : Nat × Nat := sqs top ((2 ^ 52 + fr w) * 2048)

/-- the bucket at a scale from 0 on -/
def idx (top w : Nat) : Int := if fr w = 0 then ex w * ((2 ^ top : Nat) : Int) - 1 else ex w * ((2 ^ top : Nat) : Int) + ((dig top w).1 : Int)

/-- whether it is near a bound -/
def near (top w : Nat) : Bool := fr w != 0 && (decide (0 < top) && (decide ((dig top w).2 < 2 ^ 63 + 2 ^ 43) || decide (2 ^ 64 - 1 - 2 ^ 43 < (dig top w).2)))

theorem dig_range (top w : Nat) (h0 : 0 < w) : 2 ^ 63 ≤ (dig top w).2 ∧ (dig top w).2 < 2 ^ 64 ∧ (dig top w).1 < 2 ^ top := by
  have := fr_lt w h0
  exact sqs_range top _ (by omega) (by omega)
end Go.Proofs.YtlpddogcnpokfaaGreat.Lg
namespace Go.Proofs.YtlpddogcnpokfaaGreat.Lg
open Ieee

def nanW (w : Nat) : Bool := decide (2047 * 2 ^ 52 < rung w)
def infW (w : Nat) : Bool := decide (rung w = 2047 * 2 ^ 52)

theorem fin_iff (w : Nat) : fin w ↔ nanW w = false ∧ infW w = false := by
  unfold fin nanW infW; simp only [decide_eq_false_iff_not]; omega

theorem read_inf {w : Nat} (h : infW w = true) : double.read w = .infinity (negW w) := by
  unfold infW at h
  simp only [decide_eq_true_eq] at h
  unfold Format.read negW
  rw [sign_eq, least_eq, binade_eq, inf_eq]
  change (if rung w < 2 ^ 52 then _ else if rung w < 2047 * 2 ^ 52 then _ else if rung w = 2047 * 2 ^ 52 then _ else _) = _
  rw [if_neg (by omega), if_neg (by omega), if_pos h]

theorem read_nan {w : Nat} (h : nanW w = true) : ∃ s f, double.read w = .nan s f := by
  unfold nanW at h
  simp only [decide_eq_true_eq] at h
  unfold Format.read
  rw [sign_eq, least_eq, binade_eq, inf_eq]
  refine ⟨negW w, rung w - 2047 * 2 ^ 52, ?_⟩
  change (if rung w < 2 ^ 52 then _ else if rung w < 2047 * 2 ^ 52 then _ else if rung w = 2047 * 2 ^ 52 then _ else _) = _
  rw [if_neg (by omega), if_neg (by omega), if_neg (by omega)]
  rfl

/-- 'math.IsNaN' -/
theorem is_nan (w : Nat) : (double.order w w != some .eq) = nanW w := by
  cases hn : nanW w with
  | true =>
    obtain ⟨s, f, hr⟩ := read_nan hn
    unfold Format.order; rw [hr]; rfl
  | false =>
    cases hi : infW w with
    | true =>
      unfold Format.order; rw [read_inf hi]
      cases negW w <;> decide
    | false =>
      have hf := (fin_iff w).2 ⟨hn, hi⟩
      have := order_eq (is_fin hf) (is_fin hf)
      simp only [bne, this, decide_true, Bool.not_true]

theorem rung_abs (w : Nat) : rung (w % 9223372036854775808) = rung w := by unfold rung; omega

theorem abs_le_max {w : Nat} (h : fin w) (hw : w < 2 ^ 63) : val w ≤ val 9218868437227405311 := by
  have hmax : val 9218868437227405311 = (2 ^ 53 - 1) * p2 971 := by decide +kernel
  rw [hmax]
  have hs : negW w = false := by unfold negW; rw [beq_eq_false_iff_ne]; omega
  unfold fin at h
  have hm : mag w ≤ 2 ^ 53 - 1 := by unfold mag; split <;> omega
  have hp : pl w ≤ 971 := by unfold pl; split <;> omega
  have h1 := Rat.natCast_le_natCast.2 hm
  have e : ((2 ^ 53 - 1 : Nat) : Rat) = 2 ^ 53 - 1 := by decide +kernel
  rw [e] at h1
  have := mul_mono (a := (mag w : Rat)) (c := p2 (pl w)) (Rat.natCast_nonneg) h1 (Rat.le_of_lt (p2_pos _)) (p2_le hp)
  unfold val; rw [hs]; unfold sg; simp only [Bool.false_eq_true, if_false]; grind

/-- 'math.IsInf' of either sign -/
theorem is_inf (w : Nat) : (double.order (w % 9223372036854775808) 9218868437227405311 == some .gt) = infW w := by
  have hra := rung_abs w
  cases hn : nanW w with
  | true =>
    have hn' : nanW (w % 9223372036854775808) = true := by unfold nanW at *; rw [hra]; exact hn
    obtain ⟨s, f, hr⟩ := read_nan hn'
    have : infW w = false := by unfold nanW infW at *; simp at hn ⊢; omega
    unfold Format.order; rw [hr, this]; rfl
  | false =>
    cases hi : infW w with
    | true =>
      have hi' : infW (w % 9223372036854775808) = true := by unfold infW at *; rw [hra]; exact hi
      have hs : negW (w % 9223372036854775808) = false := by unfold negW; rw [beq_eq_false_iff_ne]; omega
      unfold Format.order; rw [read_inf hi', hs]
      decide +kernel
    | false =>
      have hf : fin (w % 9223372036854775808) := by
        have := (fin_iff w).2 ⟨hn, hi⟩
        unfold fin at *; rw [hra]; exact this
      have hM : fin 9218868437227405311 := by decide +kernel
      rw [order_gt (is_fin hf) (is_fin hM)]
      have := abs_le_max hf (Nat.mod_lt _ (by decide))
      rw [decide_eq_false_iff_not]; grind

/-- a number above 0 is small just if its word is -/
theorem lt_small (w : Nat) (hf : fin w) (hw : w < 2 ^ 63) : (double.order w 4503599627370496 == some .lt) = decide (w < 2 ^ 52) := by
  have hM : fin 4503599627370496 := by decide +kernel
  have hv : val 4503599627370496 = 2 ^ 52 * p2 (-1074) := by decide +kernel
  rw [order_lt (is_fin hf) (is_fin hM), hv]
  by_cases h : w < 2 ^ 52
  · have := val_small h
    simp [h, this]
  · have := val_normal (w := w) (by omega) hw
    have h' : ¬ val w < 2 ^ 52 * p2 (-1074) := by grind
    simp [h, h']

theorem eq_zero (w : Nat) (hf : fin w) : (double.order w 0 == some .eq) = decide (rung w = 0) := by
  have h0 : fin 0 := by decide +kernel
  have hv : val 0 = 0 := by decide +kernel
  rw [order_eq (is_fin hf) (is_fin h0), hv]
  congr 1
  exact propext (val_zero w)

theorem eq_half (w : Nat) (hw : 1022 * 2 ^ 52 ≤ w) (h2 : w < 1023 * 2 ^ 52) : (double.order w 4602678819172646912 == some .eq) = decide (w = 1022 * 2 ^ 52) := by
  have hf : fin w := by unfold fin rung; omega
  have h0 : fin 4602678819172646912 := by decide +kernel
  rw [order_eq (is_fin hf) (is_fin h0)]
  congr 1
  have hv : val 4602678819172646912 = 2 ^ 52 * p2 (-53) := by decide +kernel
  have hs : negW w = false := by unfold negW; rw [beq_eq_false_iff_ne]; omega
  have hr : rung w = w := by unfold rung; omega
  have hval : val w = ((2 ^ 52 + (w - 1022 * 2 ^ 52) : Nat) : Rat) * p2 (-53) := by
    unfold val mag pl; rw [hs, hr, if_neg (by omega), if_neg (by omega)]
    have e1 : 2 ^ 52 + w % 2 ^ 52 = 2 ^ 52 + (w - 1022 * 2 ^ 52) := by omega
    have e2 : ((w / 2 ^ 52 : Nat) : Int) - 1075 = -53 := by omega
    rw [e1, e2]; unfold sg; simp only [Bool.false_eq_true, if_false]; grind
  rw [hval, hv]
  apply propext
  constructor
  · intro h
    have hp := p2_pos (-53)
    have h3 : (((2 ^ 52 + (w - 1022 * 2 ^ 52) : Nat) : Rat) - ((2 ^ 52 : Nat) : Rat)) * p2 (-53) = 0 := by
      have e : ((2 ^ 52 : Nat) : Rat) = 2 ^ 52 := by decide +kernel
      rw [e]; grind
    rcases Rat.mul_eq_zero.1 h3 with h | h
    · have h4 : ((2 ^ 52 + (w - 1022 * 2 ^ 52) : Nat) : Rat) = ((2 ^ 52 : Nat) : Rat) := by grind
      have := Rat.natCast_inj.1 h4
      omega
    · grind
  · intro h
    have e : 2 ^ 52 + (w - 1022 * 2 ^ 52) = 2 ^ 52 := by omega
    rw [e]
    have e : ((2 ^ 52 : Nat) : Rat) = 2 ^ 52 := by decide +kernel
    rw [e]

/-- floor of a bucket over a power of two -/
theorem idx_shift (top w : Nat) (S : Nat) (hS : S ≤ top) :
    idx top w / ((2 ^ (top - S) : Nat) : Int) = if fr w = 0 then ex w * ((2 ^ S : Nat) : Int) - 1 else ex w * ((2 ^ S : Nat) : Int) + (((dig top w).1 / 2 ^ (top - S) : Nat) : Int) := by
  have hp : (0 : Int) < ((2 ^ (top - S) : Nat) : Int) := by
    have : 0 < 2 ^ (top - S) := Nat.two_pow_pos _
    omega
  have e : ((2 ^ top : Nat) : Int) = ((2 ^ S : Nat) : Int) * ((2 ^ (top - S) : Nat) : Int) := by
    rw [← Int.natCast_mul, ← Nat.pow_add, show S + (top - S) = top from by omega]
  have hk : (((dig top w).1 / 2 ^ (top - S) : Nat) : Int) = ((dig top w).1 : Int) / ((2 ^ (top - S) : Nat) : Int) := Int.natCast_ediv _ _
  rw [hk]
  unfold idx
  rw [e]
  generalize ((2 ^ (top - S) : Nat) : Int) = D at *
  split
  · rw [← Int.mul_assoc]
    rw [show ex w * ((2 ^ S : Nat) : Int) * D - 1 = (D - 1) + (ex w * ((2 ^ S : Nat) : Int) - 1) * D from by rw [Int.sub_mul]; omega]
    rw [Int.add_mul_ediv_right _ _ (by omega), Int.ediv_eq_zero_of_lt (by omega) (by omega)]
    omega
  · rw [← Int.mul_assoc, Int.add_comm, Int.add_mul_ediv_right _ _ (by omega)]
    omega

/-- THE BUCKET THAT THE PROGRAM RECKONS, at a scale below 0 or 0. -/
theorem bin_low (top w d : Nat) (h0 : 0 < w) : (if fr w = 0 then ex w - 1 else ex w) / ((2 ^ d : Nat) : Int) = idx top w / ((2 ^ (top + d) : Nat) : Int) := by
  have h1 := idx_shift top w 0 (Nat.zero_le _)
  have hk : (dig top w).1 / 2 ^ (top - 0) = 0 := Nat.div_eq_of_lt (by simpa using (dig_range top w h0).2.2)
  rw [hk] at h1
  simp only [Nat.sub_zero, Nat.pow_zero] at h1
  have e : ((2 ^ (top + d) : Nat) : Int) = ((2 ^ top : Nat) : Int) * ((2 ^ d : Nat) : Int) := by rw [← Int.natCast_mul, ← Nat.pow_add]
  rw [e, ← Int.ediv_ediv_of_nonneg (Int.natCast_nonneg _), h1]
  congr 1
  split <;> omega

/-- of a power of two -/
theorem half_scale (S : Nat) (h : S ≤ 20) : ∃ w P, Go.Extern.MathLog.archLog #[.float .f64 4602678819172646912] = Go.Sem.pure (.float .f64 w) ∧ Go.floatBits .mul .f64 w (scaleWord S) = some P ∧
    Go.floatToIntVal .f64 P .i32 = some (-((2 ^ S : Nat) : Int)) := by
  refine ⟨0xBFE62E42FEFA39EF, 0xBFF0000000000000 + S * 2 ^ 52, ?_, ?_, ?_⟩
  · kernel_rfl
  · have key : ∀ S : Fin 21, Go.floatBits .mul .f64 0xBFE62E42FEFA39EF (scaleWord S.val) = some (0xBFF0000000000000 + S.val * 2 ^ 52) := by decide +kernel
    exact key ⟨S, by omega⟩
  · have key : ∀ S : Fin 21, Go.floatToIntVal .f64 (0xBFF0000000000000 + S.val * 2 ^ 52) .i32 = some (-((2 ^ S.val : Nat) : Int)) := by decide +kernel
    exact key ⟨S, by omega⟩

/-- THE BUCKET THAT THE PROGRAM RECKONS BY A LOGARITHM: at a scale from 0 on. -/
theorem bin_high (top w S : Nat) (hS : S ≤ top) (ht : top ≤ 20) (h0 : 0 < w) (hn : near top w = false) (hS0 : 0 < S) :
    ∃ r P t, Go.Extern.MathLog.archLog #[.float .f64 (1022 * 2 ^ 52 + fr w)] = Go.Sem.pure (.float .f64 r) ∧ Go.floatBits .mul .f64 r (scaleWord S) = some P ∧
      Go.floatToIntVal .f64 P .i32 = some t ∧ (ex w + 1) * ((2 ^ S : Nat) : Int) + t - 1 = idx top w / ((2 ^ (top - S) : Nat) : Int) ∧ -((2 ^ S : Nat) : Int) ≤ t ∧ t ≤ 0 := by
  rw [idx_shift top w S hS]
  by_cases hf : fr w = 0
  · obtain ⟨r, P, h1, h2, h3⟩ := half_scale S (by omega)
    rw [hf]
    have hz : (0 : Int) ≤ ((2 ^ S : Nat) : Int) := Int.natCast_nonneg _
    refine ⟨r, P, _, h1, h2, h3, ?_, Int.le_refl _, by generalize ((2 ^ S : Nat) : Int) = z at *; omega⟩
    rw [if_pos rfl, Int.add_mul]
    generalize ((2 ^ S : Nat) : Int) = z at *
    omega
  · rw [if_neg hf]
    have hd := dig_range top w h0
    have hn' : 2 ^ 63 + 2 ^ 43 ≤ (dig top w).2 ∧ (dig top w).2 ≤ 2 ^ 64 - 1 - 2 ^ 43 := by
      unfold near at hn
      have hb : (fr w != 0) = true := by simpa using hf
      have ht0 : decide (0 < top) = true := decide_eq_true (by omega)
      rw [hb, ht0] at hn
      simp only [Bool.true_and, Bool.or_eq_false_iff, decide_eq_false_iff_not] at hn
      omega
    obtain ⟨r, P, h1, h2, h3⟩ := bin_float (fr w) (by omega) (fr_lt w h0) top S hS ht hn'.1 hn'.2
    have hq : (dig top w).1 / 2 ^ (top - S) < 2 ^ S := by
      rw [Nat.div_lt_iff_lt_mul (Nat.two_pow_pos _), ← Nat.pow_add, show S + (top - S) = top from by omega]
      exact hd.2.2
    unfold dig at hq ⊢
    refine ⟨r, P, _, h1, h2, h3, ?_, ?_⟩
    · rw [Int.add_mul]
      generalize ((2 ^ S : Nat) : Int) = z at *
      omega
    · clear h1 h2 h3 hn hn' hd
      generalize (sqs top ((2 ^ 52 + fr w) * 2048)).1 / 2 ^ (top - S) = q at *
      generalize 2 ^ S = z at *
      omega
end Go.Proofs.YtlpddogcnpokfaaGreat.Lg
