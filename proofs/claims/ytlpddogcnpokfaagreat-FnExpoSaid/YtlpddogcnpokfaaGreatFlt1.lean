/- Rounding a number to a double is wrong by at most half a unit of the last place kept. -/
import Derived.Test.YtlpddogcnpokfaaGreatLog3
import Ieee.Arith
namespace Go.Proofs.YtlpddogcnpokfaaGreat.Lg
open Ieee

/-- a power of two -/
def p2 (i : Int) : Rat := (2 : Rat) ^ i

theorem p2_pos (i : Int) : 0 < p2 i := Rat.zpow_pos (by decide)
theorem p2_add (i j : Int) : p2 (i + j) = p2 i * p2 j := Rat.zpow_add (by decide) i j
theorem p2_nat (n : Nat) : p2 (n : Int) = (((2 ^ n : Nat)) : Rat) := by
  unfold p2
  rw [Rat.zpow_natCast, Rat.natCast_pow]; rfl
theorem p2_zero : p2 0 = 1 := Rat.zpow_zero 2
theorem p2_one : p2 1 = 2 := Rat.zpow_one 2
theorem p2_le {i j : Int} (h : i ≤ j) : p2 i ≤ p2 j := by
  obtain ⟨n, rfl⟩ : ∃ n : Nat, j = i + n := ⟨(j - i).toNat, by omega⟩
  rw [p2_add, p2_nat]
  have h1 : 1 ≤ 2 ^ n := Nat.one_le_two_pow
  have h2 := Rat.natCast_le_natCast.2 h1
  have := Rat.mul_le_mul_of_nonneg_left (c := p2 i) h2 (Rat.le_of_lt (p2_pos i))
  have e1 : ((1 : Nat) : Rat) = 1 := rfl
  rw [e1] at this
  grind
theorem p2_lt_iff {i j : Int} : p2 i < p2 j ↔ i < j := by
  constructor
  · intro h; refine Int.not_le.1 fun h' => ?_
    have := p2_le h'; grind
  · intro h
    have h1 : p2 (i + 1) ≤ p2 j := p2_le (by omega)
    rw [p2_add, p2_one] at h1
    have := p2_pos i
    grind

/-- nearest, even: what is kept -/
theorem cut_even (neg : Bool) (n drop : Nat) :
    ∃ k, Toward.even.cut neg n drop = k ∧ 2 * (k * 2 ^ drop) ≤ 2 * n + 2 ^ drop ∧ 2 * n ≤ 2 * (k * 2 ^ drop) + 2 ^ drop ∧ n / 2 ^ drop ≤ k ∧ k ≤ n / 2 ^ drop + 1 := by
  refine ⟨_, rfl, ?_⟩
  unfold Toward.cut
  simp only [Nat.one_shiftLeft]
  by_cases hd : drop ≤ n.log2 + 2
  · rw [Nat.min_eq_left hd]
    have hp : 0 < 2 ^ drop := Nat.two_pow_pos _
    generalize 2 ^ drop = g at *
    have hdm := Nat.div_add_mod n g
    have hm := Nat.mod_lt n hp
    generalize n / g = q at *
    generalize n % g = r at *
    have e : g * q = q * g := Nat.mul_comm ..
    generalize hb : (decide (g < 2 * r) || (g == 2 * r && q % 2 == 1)) = b
    cases b with
    | false =>
      simp only [Bool.or_eq_false_iff, decide_eq_false_iff_not] at hb
      simp only [Bool.toNat_false, Nat.add_zero]
      omega
    | true =>
      have h2 : g ≤ 2 * r := by
        simp only [Bool.or_eq_true, decide_eq_true_eq, Bool.and_eq_true, beq_iff_eq] at hb
        omega
      simp only [Bool.toNat_true, Nat.add_mul, Nat.one_mul]
      omega
  · have hd' : n.log2 + 2 ≤ drop := by omega
    rw [Nat.min_eq_right hd']
    have hn : n < 2 ^ (n.log2 + 1) := Nat.lt_log2_self
    have h1 : 2 ^ (n.log2 + 2) = 2 * 2 ^ (n.log2 + 1) := by rw [Nat.pow_succ]; omega
    have h2 : 2 ^ (n.log2 + 2) ≤ 2 ^ drop := Nat.pow_le_pow_right (by decide) hd'
    have hq : n / 2 ^ (n.log2 + 2) = 0 := Nat.div_eq_of_lt (by omega)
    have hr : n % 2 ^ (n.log2 + 2) = n := Nat.mod_eq_of_lt (by omega)
    have hq2 : n / 2 ^ drop = 0 := Nat.div_eq_of_lt (by omega)
    rw [hq, hr, hq2]
    have hb : (decide (2 ^ (n.log2 + 2) < 2 * n) || (2 ^ (n.log2 + 2) == 2 * n && (0 : Nat) % 2 == 1)) = false := by
      simp only [Bool.or_eq_false_iff, decide_eq_false_iff_not]
      refine ⟨by omega, by simp⟩
    rw [hb]
    simp only [Bool.toNat_false]
    omega

theorem least_eq : double.leastPlace = -1074 := by decide
theorem binade_eq : double.binade = 2 ^ 52 := by decide
theorem inf_eq : double.infRung = 2047 * 2 ^ 52 := by decide +kernel
theorem sign_eq : double.signWeight = 2 ^ 63 := by decide

/-- what is read of a rung -/
theorem read_rung (neg : Bool) (L kept : Nat) (h1 : L = 0 ∨ 2 ^ 52 ≤ kept) (h2 : kept ≤ 2 ^ 53) (h3 : L ≤ 2040) :
    ∃ m i, double.read (double.word neg (L * 2 ^ 52 + kept)) = .number neg m i ∧ (m : Rat) * p2 i = (kept : Rat) * p2 ((L : Int) - 1074) := by
  have hneg : (double.word neg (L * 2 ^ 52 + kept)) / 2 ^ 63 % 2 = neg.toNat ∧ (double.word neg (L * 2 ^ 52 + kept)) % 2 ^ 63 = L * 2 ^ 52 + kept := by
    unfold Format.word
    rw [sign_eq]
    cases neg <;> simp only [Bool.toNat_true, Bool.toNat_false, if_true, Bool.false_eq_true, if_false] <;> omega
  unfold Format.read
  rw [sign_eq, least_eq, binade_eq, inf_eq, hneg.1, hneg.2]
  have hb : (neg.toNat == 1) = neg := by cases neg <;> rfl
  rw [hb]
  dsimp only
  by_cases hk : L * 2 ^ 52 + kept < 2 ^ 52
  · rw [if_pos hk]
    have hL : L = 0 := by omega
    subst hL
    exact ⟨_, _, rfl, by simp⟩
  · rw [if_neg hk, if_pos (by omega)]
    refine ⟨_, _, rfl, ?_⟩
    by_cases hk2 : kept = 2 ^ 53
    · have e1 : (L * 2 ^ 52 + kept) % 2 ^ 52 = 0 := by omega
      have e2 : (L * 2 ^ 52 + kept) / 2 ^ 52 - 1 = L + 1 := by omega
      rw [e1, e2, hk2]
      rw [show (-1074 + ((L + 1 : Nat) : Int)) = ((L : Int) - 1074) + 1 from by omega, p2_add, p2_one]
      have : (((2 ^ 52 + 0 : Nat)) : Rat) * 2 = ((2 ^ 53 : Nat) : Rat) := by decide +kernel
      grind
    · by_cases hk3 : 2 ^ 52 ≤ kept
      · have e1 : 2 ^ 52 + (L * 2 ^ 52 + kept) % 2 ^ 52 = kept := by omega
        have e2 : (L * 2 ^ 52 + kept) / 2 ^ 52 - 1 = L := by omega
        rw [e1, e2, show (-1074 + (L : Int)) = (L : Int) - 1074 from by omega]
      · have hL : L = 0 := by omega
        subst hL
        omega

theorem bit_lo (n : Nat) (h : n ≠ 0) : 2 ^ n.log2 ≤ n := Nat.log2_self_le h

/-- THE FAULT OF A ROUNDING: a number at most 2^K comes to one within 2^(K - 53). -/
theorem nearest_err (neg : Bool) (mag : Nat) (place K : Int) (hK : (mag : Rat) * p2 place ≤ p2 K) (hlo : -1000 ≤ K) (hhi : K ≤ 1000) :
    ∃ m i, double.read (double.nearest neg mag place) = .number neg m i ∧
      -(p2 (K - 53)) ≤ (m : Rat) * p2 i - (mag : Rat) * p2 place ∧ (m : Rat) * p2 i - (mag : Rat) * p2 place ≤ p2 (K - 53) := by
  unfold Format.nearest
  by_cases h0 : mag = 0
  · rw [if_pos h0]
    obtain ⟨m, i, hr, hv⟩ := read_rung neg 0 0 (.inl rfl) (by omega) (by omega)
    simp only [Nat.zero_mul, Nat.add_zero] at hr
    refine ⟨m, i, hr, ?_⟩
    have hz : ((0 : Nat) : Rat) = 0 := rfl
    rw [hv, h0, hz]
    have := p2_pos (K - 53)
    grind
  · rw [if_neg h0]
    have hb := bit_lo mag h0
    have hb2 : mag < 2 ^ (mag.log2 + 1) := Nat.lt_log2_self
    -- log2 mag + place ≤ K
    have hlog : (mag.log2 : Int) + place ≤ K := by
      refine Int.not_lt.1 fun h' => ?_
      have h1 := Rat.natCast_le_natCast.2 hb
      rw [← p2_nat] at h1
      have h2 := Rat.mul_le_mul_of_nonneg_right (c := p2 place) h1 (Rat.le_of_lt (p2_pos _))
      rw [← p2_add] at h2
      have h3 := p2_lt_iff.2 h'
      grind
    have ef : (double.fractionBits : Int) = 52 := rfl
    rw [least_eq, binade_eq, inf_eq, ef]
    dsimp only
    generalize hl : max (place + (mag.log2 : Int) - 52) (-1074) = last
    have hl1 : last ≤ K - 52 := by omega
    have hl2 : -1074 ≤ last := by omega
    obtain ⟨L, hL⟩ : ∃ L : Nat, last = (L : Int) - 1074 := ⟨(last + 1074).toNat, by omega⟩
    have hL2 : (last - -1074).toNat = L := by omega
    rw [hL2]
    obtain ⟨kept, hk, k1, k2, k3, k4⟩ := cut_even neg (mag <<< (place - last).toNat) (last - place).toNat
    rw [hk]
    rw [Nat.shiftLeft_eq] at k1 k2 k3 k4
    -- the value
    have hval : -(p2 last) ≤ 2 * ((kept : Rat) * p2 last) - 2 * ((mag : Rat) * p2 place) ∧ 2 * ((kept : Rat) * p2 last) - 2 * ((mag : Rat) * p2 place) ≤ p2 last := by
      have c1 := Rat.natCast_le_natCast.2 k1
      have c2 := Rat.natCast_le_natCast.2 k2
      simp only [Rat.natCast_mul, Rat.natCast_add, ← p2_nat] at c1 c2
      by_cases hc : place ≤ last
      · have e1 : (place - last).toNat = 0 := by omega
        have e2 : ((last - place).toNat : Int) = last - place := by omega
        rw [e1, e2] at c1 c2
        have e3 : p2 last = p2 (last - place) * p2 place := by rw [← p2_add]; congr 1; omega
        have e4 : p2 ((0 : Nat) : Int) = 1 := p2_zero
        rw [e4] at c1 c2
        have e5 : ((2 : Nat) : Rat) = 2 := rfl
        rw [e5] at c1 c2
        have m1 := Rat.mul_le_mul_of_nonneg_right (c := p2 place) c1 (Rat.le_of_lt (p2_pos _))
        have m2 := Rat.mul_le_mul_of_nonneg_right (c := p2 place) c2 (Rat.le_of_lt (p2_pos _))
        rw [e3]
        constructor <;> grind
      · have e1 : (last - place).toNat = 0 := by omega
        have e2 : ((place - last).toNat : Int) = place - last := by omega
        rw [e1, e2] at c1 c2
        have e3 : p2 place = p2 (place - last) * p2 last := by rw [← p2_add]; congr 1; omega
        have e4 : p2 ((0 : Nat) : Int) = 1 := p2_zero
        rw [e4] at c1 c2
        have e5 : ((2 : Nat) : Rat) = 2 := rfl
        rw [e5] at c1 c2
        have m1 := Rat.mul_le_mul_of_nonneg_right (c := p2 last) c1 (Rat.le_of_lt (p2_pos _))
        have m2 := Rat.mul_le_mul_of_nonneg_right (c := p2 last) c2 (Rat.le_of_lt (p2_pos _))
        rw [e3]
        constructor <;> grind
    -- the bounds of what is kept
    have hq : mag * 2 ^ (place - last).toNat / 2 ^ (last - place).toNat < 2 ^ 53 := by
      rw [Nat.div_lt_iff_lt_mul (Nat.two_pow_pos _)]
      have h1 : mag * 2 ^ (place - last).toNat < 2 ^ (mag.log2 + 1) * 2 ^ (place - last).toNat := Nat.mul_lt_mul_of_pos_right hb2 (Nat.two_pow_pos _)
      rw [← Nat.pow_add] at h1
      rw [← Nat.pow_add]
      refine Nat.lt_of_lt_of_le h1 (Nat.pow_le_pow_right (by decide) ?_)
      omega
    have hq2 : L = 0 ∨ 2 ^ 52 ≤ mag * 2 ^ (place - last).toNat / 2 ^ (last - place).toNat := by
      by_cases hz : L = 0
      · exact .inl hz
      · right
        rw [Nat.le_div_iff_mul_le (Nat.two_pow_pos _), ← Nat.pow_add]
        have h1 : 2 ^ mag.log2 * 2 ^ (place - last).toNat ≤ mag * 2 ^ (place - last).toNat := Nat.mul_le_mul_right _ hb
        rw [← Nat.pow_add] at h1
        refine Nat.le_trans (Nat.pow_le_pow_right (by decide) ?_) h1
        omega
    rw [Nat.min_eq_left (by omega)]
    obtain ⟨m, i, hr, hv⟩ := read_rung neg L kept (by omega) (by omega) (by omega)
    refine ⟨m, i, hr, ?_⟩
    rw [hv, ← hL]
    have hle := p2_le hl1
    rw [show K - 52 = (K - 53) + 1 from by omega, p2_add, p2_one] at hle
    constructor <;> grind
end Go.Proofs.YtlpddogcnpokfaaGreat.Lg
