/- Rounding a number to a double is wrong by at most half a unit of the last place kept. Sum, difference, product and quotient of doubles are the exact ones within a bounded fault. The same in units of 2^-51, for numbers of magnitude at most 3; words and the numbers they stand for. The order of doubles is that of the numbers they stand for; the model's float operations give the words named before. The constants of the logarithm, and its polynomial in the form in which it is reckoned. The operations of the logarithm from its reduced argument on: their result is near the polynomial. The logarithm of a double between one half and one is near the polynomial. The bucket of a fraction that is reckoned by the logarithm in doubles is the one that the digits by squares say, where these are not near a bound. -/
import Derived.Test.YtlpddogcnpokfaaGreatLog
import Ieee.Arith
import GoSem.Extern.MathLog
import Derived.Laws.FloatArith
namespace Go.Proofs.YtlpddogcnpokfaaGreat.Lg
open Ieee

/-- a power of two -/
def p2 (i : Int) : Rat := (2 : Rat) ^ i

theorem p2_pos (i : Int) : 0 < p2 i := Rat.zpow_pos (by decide)
theorem p2_add (i j : Int) : p2 (i + j) = p2 i * p2 j := Rat.zpow_add (by decide) i j
theorem p2_nat (n : Nat) : p2 (n : Int) = (((2 ^ n : Nat)) : Rat) := by
  unfold p2
  rw [Rat.zpow_natCast, Rat.natCast_pow]; rfl
theorem p2_zero : p2 0 = 1 := Rat.zpow_zero 2
theorem p2_one : p2 1 = 2 := Rat.zpow_one 2
theorem p2_le {i j : Int} (h : i ≤ j) : p2 i ≤ p2 j := by
  obtain ⟨n, rfl⟩ : ∃ n : Nat, j = i + n := ⟨(j - i).toNat, by omega⟩
  rw [p2_add, p2_nat]
  have h1 : 1 ≤ 2 ^ n := Nat.one_le_two_pow
  have h2 := Rat.natCast_le_natCast.2 h1
  have := Rat.mul_le_mul_of_nonneg_left (c := p2 i) h2 (Rat.le_of_lt (p2_pos i))
  have e1 : ((1 : Nat) : Rat) = 1 := rfl
  rw [e1] at this
  grind
theorem p2_lt_iff {i j : Int} : p2 i < p2 j ↔ i < j := by
  constructor
  · intro h; refine Int.not_le.1 fun h' => ?_
    have := p2_le h'; grind
  · intro h
    have h1 : p2 (i + 1) ≤ p2 j := p2_le (by omega)
    rw [p2_add, p2_one] at h1
    have := p2_pos i
    grind

/-- nearest, even: what is kept -/
theorem cut_even (neg : Bool) (n drop : Nat) :
    ∃ k, Toward.even.cut neg n drop = k ∧ 2 * (k * 2 ^ drop) ≤ 2 * n + 2 ^ drop ∧ 2 * n ≤ 2 * (k * 2 ^ drop) + 2 ^ drop ∧ n / 2 ^ drop ≤ k ∧ k ≤ n / 2 ^ drop + 1 := by
  refine ⟨_, rfl, ?_⟩
  unfold Toward.cut
  simp only [Nat.one_shiftLeft]
  by_cases hd : drop ≤ n.log2 + 2
  · rw [Nat.min_eq_left hd]
    have hp : 0 < 2 ^ drop := Nat.two_pow_pos _
    generalize 2 ^ drop = g at *
    have hdm := Nat.div_add_mod n g
    have hm := Nat.mod_lt n hp
    generalize n / g = q at *
    generalize n % g = r at *
    have e : g * q = q * g := Nat.mul_comm ..
    generalize hb : (decide (g < 2 * r) || (g == 2 * r && q % 2 == 1)) = b
    cases b with
    | false =>
      simp only [Bool.or_eq_false_iff, decide_eq_false_iff_not] at hb
      simp only [Bool.toNat_false, Nat.add_zero]
      omega
    | true =>
      have h2 : g ≤ 2 * r := by
        simp only [Bool.or_eq_true, decide_eq_true_eq, Bool.and_eq_true, beq_iff_eq] at hb
        omega
      simp only [Bool.toNat_true, Nat.add_mul, Nat.one_mul]
      omega
  · have hd' : n.log2 + 2 ≤ drop := by omega
    rw [Nat.min_eq_right hd']
    have hn : n < 2 ^ (n.log2 + 1) := Nat.lt_log2_self
    have h1 : 2 ^ (n.log2 + 2) = 2 * 2 ^ (n.log2 + 1) := by rw [Nat.pow_succ]; omega
    have h2 : 2 ^ (n.log2 + 2) ≤ 2 ^ drop := Nat.pow_le_pow_right (by decide) hd'
    have hq : n / 2 ^ (n.log2 + 2) = 0 := Nat.div_eq_of_lt (by omega)
    have hr : n % 2 ^ (n.log2 + 2) = n := Nat.mod_eq_of_lt (by omega)
    have hq2 : n / 2 ^ drop = 0 := Nat.div_eq_of_lt (by omega)
    rw [hq, hr, hq2]
    have hb : (decide (2 ^ (n.log2 + 2) < 2 * n) || (2 ^ (n.log2 + 2) == 2 * n && (0 : Nat) % 2 == 1)) = false := by
      simp only [Bool.or_eq_false_iff, decide_eq_false_iff_not]
      refine ⟨by omega, by simp⟩
    rw [hb]
    simp only [Bool.toNat_false]
    omega

theorem least_eq : double.leastPlace = -1074 := by decide
theorem binade_eq : double.binade = 2 ^ 52 := by decide
theorem inf_eq : double.infRung = 2047 * 2 ^ 52 := by decide +kernel
theorem sign_eq : double.signWeight = 2 ^ 63 := by decide

/-- what is read of a rung -/
theorem read_rung (neg : Bool) (L kept : Nat) (h1 : L = 0 ∨ 2 ^ 52 ≤ kept) (h2 : kept ≤ 2 ^ 53) (h3 : L ≤ 2040) :
    ∃ m i, double.read (double.word neg (L * 2 ^ 52 + kept)) = .number neg m i ∧ (m : Rat) * p2 i = (kept : Rat) * p2 ((L : Int) - 1074) := by
  have hneg : (double.word neg (L * 2 ^ 52 + kept)) / 2 ^ 63 % 2 = neg.toNat ∧ (double.word neg (L * 2 ^ 52 + kept)) % 2 ^ 63 = L * 2 ^ 52 + kept := by
    unfold Format.word
    rw [sign_eq]
    cases neg <;> simp only [Bool.toNat_true, Bool.toNat_false, if_true, Bool.false_eq_true, if_false] <;> omega
  unfold Format.read
  rw [sign_eq, least_eq, binade_eq, inf_eq, hneg.1, hneg.2]
  have hb : (neg.toNat == 1) = neg := by cases neg <;> rfl
  rw [hb]
  dsimp only
  by_cases hk : L * 2 ^ 52 + kept < 2 ^ 52
  · rw [if_pos hk]
    have hL : L = 0 := by omega
    subst hL
    exact ⟨_, _, rfl, by simp⟩
  · rw [if_neg hk, if_pos (by omega)]
    refine ⟨_, _, rfl, ?_⟩
    by_cases hk2 : kept = 2 ^ 53
    · have e1 : (L * 2 ^ 52 + kept) % 2 ^ 52 = 0 := by omega
      have e2 : (L * 2 ^ 52 + kept) / 2 ^ 52 - 1 = L + 1 := by omega
      rw [e1, e2, hk2]
      rw [show (-1074 + ((L + 1 : Nat) : Int)) = ((L : Int) - 1074) + 1 from by omega, p2_add, p2_one]
      have : (((2 ^ 52 + 0 : Nat)) : Rat) * 2 = ((2 ^ 53 : Nat) : Rat) := by decide +kernel
      grind
    · by_cases hk3 : 2 ^ 52 ≤ kept
      · have e1 : 2 ^ 52 + (L * 2 ^ 52 + kept) % 2 ^ 52 = kept := by omega
        have e2 : (L * 2 ^ 52 + kept) / 2 ^ 52 - 1 = L := by omega
        rw [e1, e2, show (-1074 + (L : Int)) = (L : Int) - 1074 from by omega]
      · have hL : L = 0 := by omega
        subst hL
        omega

theorem bit_lo (n : Nat) (h : n ≠ 0) : 2 ^ n.log2 ≤ n := Nat.log2_self_le h

/-- THE FAULT OF A ROUNDING: a number at most 2^K comes to one within 2^(K - 53). -/
theorem nearest_err (neg : Bool) (mag : Nat) (place K : Int) (hK : (mag : Rat) * p2 place ≤ p2 K) (hlo : -1000 ≤ K) (hhi : K ≤ 1000) :
    ∃ m i, double.read (double.nearest neg mag place) = .number neg m i ∧
      -(p2 (K - 53)) ≤ (m : Rat) * p2 i - (mag : Rat) * p2 place ∧ (m : Rat) * p2 i - (mag : Rat) * p2 place ≤ p2 (K - 53) := by
  unfold Format.nearest
  by_cases h0 : mag = 0
  · rw [if_pos h0]
    obtain ⟨m, i, hr, hv⟩ := read_rung neg 0 0 (.inl rfl) (by omega) (by omega)
    simp only [Nat.zero_mul, Nat.add_zero] at hr
    refine ⟨m, i, hr, ?_⟩
    have hz : ((0 : Nat) : Rat) = 0 := rfl
    rw [hv, h0, hz]
    have := p2_pos (K - 53)
    grind
  · rw [if_neg h0]
    have hb := bit_lo mag h0
    have hb2 : mag < 2 ^ (mag.log2 + 1) := Nat.lt_log2_self
    -- log2 mag + place ≤ K
    have hlog : (mag.log2 : Int) + place ≤ K := by
      refine Int.not_lt.1 fun h' => ?_
      have h1 := Rat.natCast_le_natCast.2 hb
      rw [← p2_nat] at h1
      have h2 := Rat.mul_le_mul_of_nonneg_right (c := p2 place) h1 (Rat.le_of_lt (p2_pos _))
      rw [← p2_add] at h2
      have h3 := p2_lt_iff.2 h'
      grind
    have ef : (double.fractionBits : Int) = 52 := rfl
    rw [least_eq, binade_eq, inf_eq, ef]
    dsimp only
    generalize hl : max (place + (mag.log2 : Int) - 52) (-1074) = last
    have hl1 : last ≤ K - 52 := by omega
    have hl2 : -1074 ≤ last := by omega
    obtain ⟨L, hL⟩ : ∃ L : Nat, last = (L : Int) - 1074 := ⟨(last + 1074).toNat, by omega⟩
    have hL2 : (last - -1074).toNat = L := by omega
    rw [hL2]
    obtain ⟨kept, hk, k1, k2, k3, k4⟩ := cut_even neg (mag <<< (place - last).toNat) (last - place).toNat
    rw [hk]
    rw [Nat.shiftLeft_eq] at k1 k2 k3 k4
    -- the value
    have hval : -(p2 last) ≤ 2 * ((kept : Rat) * p2 last) - 2 * ((mag : Rat) * p2 place) ∧ 2 * ((kept : Rat) * p2 last) - 2 * ((mag : Rat) * p2 place) ≤ p2 last := by
      have c1 := Rat.natCast_le_natCast.2 k1
      have c2 := Rat.natCast_le_natCast.2 k2
      simp only [Rat.natCast_mul, Rat.natCast_add, ← p2_nat] at c1 c2
      by_cases hc : place ≤ last
      · have e1 : (place - last).toNat = 0 := by omega
        have e2 : ((last - place).toNat : Int) = last - place := by omega
        rw [e1, e2] at c1 c2
        have e3 : p2 last = p2 (last - place) * p2 place := by rw [← p2_add]; congr 1; omega
        have e4 : p2 ((0 : Nat) : Int) = 1 := p2_zero
        rw [e4] at c1 c2
        have e5 : ((2 : Nat) : Rat) = 2 := rfl
        rw [e5] at c1 c2
        have m1 := Rat.mul_le_mul_of_nonneg_right (c := p2 place) c1 (Rat.le_of_lt (p2_pos _))
        have m2 := Rat.mul_le_mul_of_nonneg_right (c := p2 place) c2 (Rat.le_of_lt (p2_pos _))
        rw [e3]
        constructor <;> grind
      · have e1 : (last - place).toNat = 0 := by omega
        have e2 : ((place - last).toNat : Int) = place - last := by omega
        rw [e1, e2] at c1 c2
        have e3 : p2 place = p2 (place - last) * p2 last := by rw [← p2_add]; congr 1; omega
        have e4 : p2 ((0 : Nat) : Int) = 1 := p2_zero
        rw [e4] at c1 c2
        have e5 : ((2 : Nat) : Rat) = 2 := rfl
        rw [e5] at c1 c2
        have m1 := Rat.mul_le_mul_of_nonneg_right (c := p2 last) c1 (Rat.le_of_lt (p2_pos _))
        have m2 := Rat.mul_le_mul_of_nonneg_right (c := p2 last) c2 (Rat.le_of_lt (p2_pos _))
        rw [e3]
        constructor <;> grind
    -- the bounds of what is kept
    have hq : mag * 2 ^ (place - last).toNat / 2 ^ (last - place).toNat < 2 ^ 53 := by
      rw [Nat.div_lt_iff_lt_mul (Nat.two_pow_pos _)]
      have h1 : mag * 2 ^ (place - last).toNat < 2 ^ (mag.log2 + 1) * 2 ^ (place - last).toNat := Nat.mul_lt_mul_of_pos_right hb2 (Nat.two_pow_pos _)
      rw [← Nat.pow_add] at h1
      rw [← Nat.pow_add]
      refine Nat.lt_of_lt_of_le h1 (Nat.pow_le_pow_right (by decide) ?_)
      omega
    have hq2 : L = 0 ∨ 2 ^ 52 ≤ mag * 2 ^ (place - last).toNat / 2 ^ (last - place).toNat := by
      by_cases hz : L = 0
      · exact .inl hz
      · right
        rw [Nat.le_div_iff_mul_le (Nat.two_pow_pos _), ← Nat.pow_add]
        have h1 : 2 ^ mag.log2 * 2 ^ (place - last).toNat ≤ mag * 2 ^ (place - last).toNat := Nat.mul_le_mul_right _ hb
        rw [← Nat.pow_add] at h1
        refine Nat.le_trans (Nat.pow_le_pow_right (by decide) ?_) h1
        omega
    rw [Nat.min_eq_left (by omega)]
    obtain ⟨m, i, hr, hv⟩ := read_rung neg L kept (by omega) (by omega) (by omega)
    refine ⟨m, i, hr, ?_⟩
    rw [hv, ← hL]
    have hle := p2_le hl1
    rw [show K - 52 = (K - 53) + 1 from by omega, p2_add, p2_one] at hle
    constructor <;> grind
end Go.Proofs.YtlpddogcnpokfaaGreat.Lg
namespace Go.Proofs.YtlpddogcnpokfaaGreat.Lg
open Ieee

def sg (s : Bool) : Rat := if s then -1 else 1

/-- the word stands for the number -/
def Is (w : Nat) (v : Rat) : Prop := ∃ s m i, double.read w = .number s m i ∧ v = sg s * ((m : Rat) * p2 i)

theorem Is.det {w : Nat} {v v' : Rat} (h : Is w v) (h' : Is w v') : v = v' := by
  obtain ⟨s, m, i, h1, rfl⟩ := h
  obtain ⟨s', m', i', h1', rfl⟩ := h'
  rw [h1] at h1'
  cases h1'
  rfl

theorem signed_val (s : Bool) (m up : Nat) : ((signed s m up : Int) : Rat) = sg s * ((m : Rat) * p2 up) := by
  unfold signed sg
  rw [Nat.shiftLeft_eq, p2_nat]
  cases s
  · simp only [Bool.false_eq_true, if_false, Rat.intCast_natCast, Rat.natCast_mul]; grind
  · simp only [if_true, Rat.intCast_neg, Rat.intCast_natCast, Rat.natCast_mul]; grind

theorem sg_natAbs (t : Int) (b : Bool) : sg (if t = 0 then b else decide (t < 0)) * (t.natAbs : Rat) = (t : Rat) := by
  by_cases h : t = 0
  · subst h
    have : (((0 : Int).natAbs : Nat) : Rat) = 0 := rfl
    rw [this]
    have : ((0 : Int) : Rat) = 0 := rfl
    rw [this]; grind
  · rw [if_neg h]
    by_cases h2 : t < 0
    · have e : (t.natAbs : Int) = -t := by omega
      have e2 : ((t.natAbs : Nat) : Rat) = (((t.natAbs : Int)) : Rat) := (Rat.intCast_natCast _).symm
      rw [e2, e, Rat.intCast_neg]
      simp only [h2, decide_true, sg, if_true]; grind
    · have e : (t.natAbs : Int) = t := by omega
      have e2 : ((t.natAbs : Nat) : Rat) = (((t.natAbs : Int)) : Rat) := (Rat.intCast_natCast _).symm
      rw [e2, e]
      simp only [h2, decide_false, sg, Bool.false_eq_true, if_false]; grind

/-- what is written of an exact number -/
theorem write_err (s : Bool) (m : Nat) (i : Int) (v : Rat) (hv : v = sg s * ((m : Rat) * p2 i)) (K : Int) (h1 : -(p2 K) ≤ v) (h2 : v ≤ p2 K) (hlo : -1000 ≤ K) (hhi : K ≤ 1000) :
    ∃ c, Is (double.write (.number s m i)) c ∧ -(p2 (K - 53)) ≤ c - v ∧ c - v ≤ p2 (K - 53) := by
  have hm : (m : Rat) * p2 i ≤ p2 K := by
    unfold sg at hv; cases s <;> simp only [Bool.false_eq_true, if_false, if_true] at hv <;> grind
  obtain ⟨m', i', hr, e1, e2⟩ := nearest_err s m i K hm hlo hhi
  refine ⟨_, ⟨s, m', i', hr, rfl⟩, ?_⟩
  rw [hv]
  unfold sg
  cases s <;> simp only [Bool.false_eq_true, if_false, if_true] <;> grind

theorem add_exact {s t : Bool} {m n : Nat} {i j : Int} :
    ∃ b u k, (Datum.number s m i).sum (.number t n j) = some (.number b u k) ∧ sg b * ((u : Rat) * p2 k) = sg s * ((m : Rat) * p2 i) + sg t * ((n : Rat) * p2 j) := by
  refine ⟨_, _, _, rfl, ?_⟩
  have e := sg_natAbs (signed s m (i - min i j).toNat + signed t n (j - min i j).toNat) (s && t)
  rw [show ∀ a b c : Rat, a * (b * c) = (a * b) * c from by grind, e, Rat.intCast_add, signed_val, signed_val]
  have e1 : p2 i = p2 ((i - min i j).toNat : Int) * p2 (min i j) := by rw [← p2_add]; congr 1; omega
  have e2 : p2 j = p2 ((j - min i j).toNat : Int) * p2 (min i j) := by rw [← p2_add]; congr 1; omega
  rw [e1, e2]; grind

/-- ADD -/
theorem add_err {x y : Nat} {a b : Rat} (hx : Is x a) (hy : Is y b) (K : Int) (h1 : -(p2 K) ≤ a + b) (h2 : a + b ≤ p2 K) (hlo : -1000 ≤ K) (hhi : K ≤ 1000) :
    ∃ w c, double.add x y = some w ∧ Is w c ∧ -(p2 (K - 53)) ≤ c - (a + b) ∧ c - (a + b) ≤ p2 (K - 53) := by
  obtain ⟨s, m, i, hr, rfl⟩ := hx
  obtain ⟨t, n, j, hr', rfl⟩ := hy
  unfold Format.add
  rw [hr, hr']
  obtain ⟨b, u, k, he, hv⟩ := add_exact (s := s) (t := t) (m := m) (n := n) (i := i) (j := j)
  obtain ⟨c, hc, b1, b2⟩ := write_err b u k _ hv.symm K h1 h2 hlo hhi
  exact ⟨_, c, by rw [he]; rfl, hc, b1, b2⟩

/-- SUB -/
theorem sub_err {x y : Nat} {a b : Rat} (hx : Is x a) (hy : Is y b) (K : Int) (h1 : -(p2 K) ≤ a - b) (h2 : a - b ≤ p2 K) (hlo : -1000 ≤ K) (hhi : K ≤ 1000) :
    ∃ w c, double.sub x y = some w ∧ Is w c ∧ -(p2 (K - 53)) ≤ c - (a - b) ∧ c - (a - b) ≤ p2 (K - 53) := by
  obtain ⟨s, m, i, hr, rfl⟩ := hx
  obtain ⟨t, n, j, hr', rfl⟩ := hy
  unfold Format.sub
  rw [hr, hr']
  obtain ⟨b, u, k, he, hv⟩ := add_exact (s := s) (t := !t) (m := m) (n := n) (i := i) (j := j)
  have hv' : sg s * ((m : Rat) * p2 i) - sg t * ((n : Rat) * p2 j) = sg b * ((u : Rat) * p2 k) := by
    rw [hv]; unfold sg; cases t <;> simp <;> grind
  obtain ⟨c, hc, b1, b2⟩ := write_err b u k _ hv' K h1 h2 hlo hhi
  exact ⟨_, c, by unfold Datum.opposite; rw [he]; rfl, hc, b1, b2⟩

theorem sg_mul (s t : Bool) : sg (s ^^ t) = sg s * sg t := by
  unfold sg; cases s <;> cases t <;> decide +kernel

/-- MUL -/
theorem mul_err {x y : Nat} {a b : Rat} (hx : Is x a) (hy : Is y b) (K : Int) (h1 : -(p2 K) ≤ a * b) (h2 : a * b ≤ p2 K) (hlo : -1000 ≤ K) (hhi : K ≤ 1000) :
    ∃ w c, double.mul x y = some w ∧ Is w c ∧ -(p2 (K - 53)) ≤ c - a * b ∧ c - a * b ≤ p2 (K - 53) := by
  obtain ⟨s, m, i, hr, rfl⟩ := hx
  obtain ⟨t, n, j, hr', rfl⟩ := hy
  unfold Format.mul
  rw [hr, hr']
  have hv : sg s * ((m : Rat) * p2 i) * (sg t * ((n : Rat) * p2 j)) = sg (s ^^ t) * (((m * n : Nat) : Rat) * p2 (i + j)) := by
    rw [sg_mul, Rat.natCast_mul, p2_add]; grind
  obtain ⟨c, hc, b1, b2⟩ := write_err (s ^^ t) (m * n) (i + j) _ hv K h1 h2 hlo hhi
  exact ⟨_, c, rfl, hc, b1, b2⟩

/-- DIV: a quotient of magnitude at most 2^K (K ≤ 0 here) -/
theorem div_err {x y : Nat} {a b : Rat} (hx : Is x a) (hy : Is y b) (q : Rat) (hq : q * b = a) (hb : 1 ≤ b) (hq1 : -(1/2) ≤ q) (hq2 : q ≤ 1/2) :
    ∃ w c, double.div x y = some w ∧ Is w c ∧ -(p2 (-51)) ≤ c - q ∧ c - q ≤ p2 (-51) := by
  obtain ⟨s, m, i, hr, rfl⟩ := hx
  obtain ⟨t, n, j, hr', rfl⟩ := hy
  have ht : t = false := by
    cases t with
    | false => rfl
    | true =>
      have h1 : (0 : Rat) ≤ (n : Rat) * p2 j := Rat.mul_nonneg Rat.natCast_nonneg (Rat.le_of_lt (p2_pos _))
      unfold sg at hb; simp only [if_true] at hb; grind
  subst ht
  have hn : n ≠ 0 := by
    intro h0; subst h0
    have e : ((0 : Nat) : Rat) = 0 := rfl
    rw [e] at hb; grind
  unfold Format.div
  rw [hr, hr']
  simp only [Datum.quotient, hn, if_false]
  have ef : double.fractionBits = 52 := rfl
  rw [ef]
  generalize hmore : 52 + 2 + n.log2 - m.log2 = more
  have hdm := Nat.div_add_mod (m <<< more) n
  have hml := Nat.mod_lt (m <<< more) (Nat.pos_of_ne_zero hn)
  rw [Nat.shiftLeft_eq] at hdm hml ⊢
  generalize hD : m * 2 ^ more / n = d at *
  generalize hR : m * 2 ^ more % n = r at *
  have hnp : (0 : Rat) < (n : Rat) := by
    have := Rat.natCast_lt_natCast.2 (Nat.pos_of_ne_zero hn)
    exact this
  have hst : (r != 0).toNat ≤ 1 := by cases (r != 0) <;> decide
  have hst0 : (r != 0).toNat = 0 → r = 0 := by
    by_cases h : r = 0
    · intro _; exact h
    · intro h'; have : (r != 0) = true := by simpa using h
      rw [this] at h'; cases h'
  generalize hS : (r != 0).toNat = st at *
  -- the exact quotient's magnitude z: z * n = m * 2^(i-j)
  have hz : ∃ z : Rat, q = sg s * z ∧ z * (n : Rat) = (m : Rat) * p2 (i - j) ∧ 0 ≤ z ∧ z ≤ 1/2 := by
    refine ⟨sg s * q, ?_, ?_, ?_⟩
    · unfold sg; cases s <;> simp <;> grind
    · have e1 : p2 i = p2 (i - j) * p2 j := by rw [← p2_add]; congr 1; omega
      have hpj := p2_pos j
      rw [e1] at hq
      simp only [sg, Bool.false_eq_true, if_false] at hq
      have hs : sg s * sg s = 1 := by unfold sg; cases s <;> simp <;> grind
      have : (sg s * q * (n : Rat) - (m : Rat) * p2 (i - j)) * p2 j = 0 := by
        unfold sg at *; cases s <;> simp at hq ⊢ <;> grind
      rcases Rat.mul_eq_zero.1 this with h | h <;> grind
    · have hpos : 0 ≤ sg s * q := by
        have h0 : (0 : Rat) ≤ (m : Rat) * p2 i := Rat.mul_nonneg Rat.natCast_nonneg (Rat.le_of_lt (p2_pos _))
        simp only [sg, Bool.false_eq_true, if_false] at hq hb
        refine Rat.not_lt.1 fun h' => ?_
        have hp := Rat.mul_pos (a := -(sg s * q)) (b := 1 * ((n : Rat) * p2 j)) (by grind) (by grind)
        unfold sg at hp; cases s <;> simp at hp hq <;> grind
      refine ⟨hpos, ?_⟩
      unfold sg; cases s <;> simp <;> grind
  obtain ⟨z, hqz, hzn, hz0, hz1⟩ := hz
  -- the value that is written
  have hwv : ((2 * d + st : Nat) : Rat) * p2 (i - j - (more : Int) - 1) - z ≤ p2 (-54) ∧ -(p2 (-54)) ≤ ((2 * d + st : Nat) : Rat) * p2 (i - j - (more : Int) - 1) - z := by
    have c1 : ((n * d + r : Nat) : Rat) = ((m * 2 ^ more : Nat) : Rat) := by rw [hdm]
    simp only [Rat.natCast_add, Rat.natCast_mul, ← p2_nat] at c1
    have cr := Rat.natCast_lt_natCast.2 hml
    have cs := Rat.natCast_le_natCast.2 hst
    have cs0 : (0 : Rat) ≤ (st : Rat) := Rat.natCast_nonneg
    have cr0 : (0 : Rat) ≤ (r : Rat) := Rat.natCast_nonneg
    simp only [Rat.natCast_add, Rat.natCast_mul]
    have e2 : ((2 : Nat) : Rat) = 2 := rfl
    have e1 : ((1 : Nat) : Rat) = 1 := rfl
    rw [e1] at cs
    rw [e2]
    have ep : p2 (i - j) = 2 * p2 (more : Int) * p2 (i - j - (more : Int) - 1) := by
      rw [show (i - j) = 1 + (more : Int) + (i - j - (more : Int) - 1) from by omega, p2_add, p2_add, p2_one]
      congr 2; omega
    have hpe := p2_pos (i - j - (more : Int) - 1)
    -- n * (value - z) = (st * n - 2 r) * e
    have key : (n : Rat) * ((2 * (d : Rat) + (st : Rat)) * p2 (i - j - (more : Int) - 1) - z) = ((st : Rat) * (n : Rat) - 2 * (r : Rat)) * p2 (i - j - (more : Int) - 1) := by
      rw [ep] at hzn; grind
    -- the unit is small: e ≤ 2^-54 as z ≤ 1/2
    have hsmall : p2 (i - j - (more : Int) - 1) ≤ p2 (-54) ∨ (m = 0) := by
      by_cases hm : m = 0
      · exact .inr hm
      · left
        have hb1 := bit_lo m hm
        have hb2 : n < 2 ^ (n.log2 + 1) := Nat.lt_log2_self
        have c3 := Rat.natCast_le_natCast.2 hb1
        have c4 := Rat.natCast_lt_natCast.2 hb2
        rw [← p2_nat] at c3 c4
        have c5 := Rat.mul_le_mul_of_nonneg_right (c := p2 (i - j)) c3 (Rat.le_of_lt (p2_pos _))
        rw [← p2_add] at c5
        have c6 : z * (n : Rat) ≤ 1/2 * (n : Rat) := Rat.mul_le_mul_of_nonneg_right hz1 (Rat.le_of_lt hnp)
        have e4 : p2 ((n.log2 + 1 : Nat) : Int) = 2 * p2 (n.log2 : Int) := by
          rw [show ((n.log2 + 1 : Nat) : Int) = 1 + (n.log2 : Int) from by omega, p2_add, p2_one]
        have c7 : p2 ((m.log2 : Int) + (i - j)) < p2 (n.log2 : Int) := by grind
        have c8 := p2_lt_iff.1 c7
        exact p2_le (by omega)
    have k1 : (st : Rat) * (n : Rat) ≤ 1 * (n : Rat) := Rat.mul_le_mul_of_nonneg_right cs (Rat.le_of_lt hnp)
    have k0 : 0 ≤ (st : Rat) * (n : Rat) := Rat.mul_nonneg cs0 (Rat.le_of_lt hnp)
    have k2 : 2 * (r : Rat) - (st : Rat) * (n : Rat) ≤ (n : Rat) := by
      rcases Nat.lt_or_ge 0 st with h | h
      · have : st = 1 := by omega
        subst this
        rw [e1]; grind
      · have h0 : st = 0 := by omega
        have : r = 0 := hst0 h0
        subst this; subst h0
        have e0 : ((0 : Nat) : Rat) = 0 := rfl
        rw [e0]; grind
    generalize (2 * (d : Rat) + (st : Rat)) * p2 (i - j - (more : Int) - 1) - z = err at *
    generalize p2 (i - j - (more : Int) - 1) = e at *
    rcases hsmall with he | hm
    · have m1 := Rat.mul_le_mul_of_nonneg_right (c := e) (show (st : Rat) * (n : Rat) - 2 * (r : Rat) ≤ (n : Rat) by grind) (Rat.le_of_lt hpe)
      have m2 := Rat.mul_le_mul_of_nonneg_right (c := e) (show -(n : Rat) ≤ (st : Rat) * (n : Rat) - 2 * (r : Rat) by grind) (Rat.le_of_lt hpe)
      have l1 : (n : Rat) * err ≤ (n : Rat) * e := by grind
      have l2 : (n : Rat) * (-e) ≤ (n : Rat) * err := by grind
      have l1' := Rat.le_of_mul_le_mul_left l1 hnp
      have l2' := Rat.le_of_mul_le_mul_left l2 hnp
      constructor <;> grind
    · subst hm
      have hr0 : r = 0 := by rw [← hR, Nat.zero_mul, Nat.zero_mod]
      have hst' : st = 0 := by rw [← hS, hr0]; rfl
      subst hr0; subst hst'
      have e0 : ((0 : Nat) : Rat) = 0 := rfl
      rw [e0] at key
      have hz' : (n : Rat) * err = 0 := by grind
      have h54 := p2_pos (-54)
      rcases Rat.mul_eq_zero.1 hz' with h | h
      · grind
      · rw [h]; constructor <;> grind
  have h54 : p2 (-54) ≤ 1/4 := by decide +kernel
  have h53 : p2 (0 - 53) + p2 (-54) ≤ p2 (-51) := by decide +kernel
  obtain ⟨c, hc, b1, b2⟩ := write_err (s ^^ false) (2 * d + st) (i - j - (more : Int) - 1) (sg s * (((2 * d + st : Nat) : Rat) * p2 (i - j - (more : Int) - 1)))
    (by rw [Bool.xor_false]) 0 (by rw [p2_zero]; unfold sg; cases s <;> simp only [Bool.false_eq_true, if_false, if_true] <;> grind)
    (by rw [p2_zero]; unfold sg; cases s <;> simp only [Bool.false_eq_true, if_false, if_true] <;> grind) (by decide) (by decide)
  refine ⟨_, c, rfl, hc, ?_⟩
  rw [hqz]
  have hsv : sg s = 1 ∨ sg s = -1 := by unfold sg; cases s <;> simp
  rcases hsv with h | h <;> rw [h] at b1 b2 ⊢ <;> constructor <;> grind
end Go.Proofs.YtlpddogcnpokfaaGreat.Lg
namespace Go.Proofs.YtlpddogcnpokfaaGreat.Lg
open Ieee

/-- near a number, in units of 2^-51 -/
def A (w : Nat) (p : Rat) (n : Rat) : Prop := ∃ c, Is w c ∧ -(n * p2 (-51)) ≤ c - p ∧ c - p ≤ n * p2 (-51)

theorem e51 : p2 (-51) = 1 / 2251799813685248 := by decide +kernel
theorem e2 : p2 2 = 4 := by decide +kernel
theorem e251 : p2 (2 - 53) = p2 (-51) := by decide +kernel

theorem A.of_is {w : Nat} {c : Rat} (h : Is w c) : A w c 0 := ⟨c, h, by grind, by grind⟩
theorem A.weak {w : Nat} {p n m : Rat} (h : A w p n) (hm : n ≤ m) : A w p m := by
  obtain ⟨c, h1, h2, h3⟩ := h
  refine ⟨c, h1, ?_⟩
  rw [e51] at *
  constructor <;> grind

theorem A.add {x y : Nat} {p q n m : Rat} (hx : A x p n) (hy : A y q m) (h1 : -3 ≤ p + q) (h2 : p + q ≤ 3) (hn : n ≤ 1000) (hm : m ≤ 1000) :
    ∃ w, double.add x y = some w ∧ A w (p + q) (n + m + 1) := by
  obtain ⟨a, ha, a1, a2⟩ := hx
  obtain ⟨b, hb, b1, b2⟩ := hy
  rw [e51] at a1 a2 b1 b2
  obtain ⟨w, c, hw, hc, c1, c2⟩ := add_err ha hb 2 (by rw [e2]; grind) (by rw [e2]; grind) (by decide) (by decide)
  rw [e251, e51] at c1 c2
  refine ⟨w, hw, c, hc, ?_⟩
  rw [e51]
  constructor <;> grind

theorem A.sub {x y : Nat} {p q n m : Rat} (hx : A x p n) (hy : A y q m) (h1 : -3 ≤ p - q) (h2 : p - q ≤ 3) (hn : n ≤ 1000) (hm : m ≤ 1000) :
    ∃ w, double.sub x y = some w ∧ A w (p - q) (n + m + 1) := by
  obtain ⟨a, ha, a1, a2⟩ := hx
  obtain ⟨b, hb, b1, b2⟩ := hy
  rw [e51] at a1 a2 b1 b2
  obtain ⟨w, c, hw, hc, c1, c2⟩ := sub_err ha hb 2 (by rw [e2]; grind) (by rw [e2]; grind) (by decide) (by decide)
  rw [e251, e51] at c1 c2
  refine ⟨w, hw, c, hc, ?_⟩
  rw [e51]
  constructor <;> grind

theorem A.mul {x y : Nat} {p q n m : Rat} (P R : Rat) (hx : A x p n) (hy : A y q m) (hp1 : -P ≤ p) (hp2 : p ≤ P) (hq1 : -R ≤ q) (hq2 : q ≤ R)
    (hn : n ≤ 1000) (hm : m ≤ 1000) (hPR : P * R ≤ 2) (hP : P ≤ 2) (hR : R ≤ 2) :
    ∃ w, double.mul x y = some w ∧ A w (p * q) (n * R + m * P + 2) := by
  obtain ⟨a, ha, a1, a2⟩ := hx
  obtain ⟨b, hb, b1, b2⟩ := hy
  rw [e51] at a1 a2 b1 b2
  have hn0 : 0 ≤ n := by grind
  have hm0 : 0 ≤ m := by grind
  have hP0 : 0 ≤ P := by grind
  have hR0 : 0 ≤ R := by grind
  -- a b - p q = (a - p) q + p (b - q) + (a - p) (b - q)
  have k1 := abs_mul_le (a := a - p) (A := n * (1 / 2251799813685248)) (b := q) (B := R) (by grind) (by grind) hq1 hq2
  have k2 := abs_mul_le (a := p) (A := P) (b := b - q) (B := m * (1 / 2251799813685248)) hp1 hp2 (by grind) (by grind)
  have k3 := abs_mul_le (a := a - p) (A := 1000 * (1 / 2251799813685248)) (b := b - q) (B := 1000 * (1 / 2251799813685248)) (by grind) (by grind) (by grind) (by grind)
  have k4 := abs_mul_le hp1 hp2 hq1 hq2
  have l1 := Rat.mul_le_mul_of_nonneg_right (c := R) hn hR0
  have l2 := Rat.mul_le_mul_of_nonneg_right (c := P) hm hP0
  have e : a * b = (a - p) * q + p * (b - q) + (a - p) * (b - q) + p * q := by grind
  obtain ⟨w, c, hw, hc, c1, c2⟩ := mul_err ha hb 2 (by rw [e2, e]; grind) (by rw [e2, e]; grind) (by decide) (by decide)
  rw [e251, e51] at c1 c2
  refine ⟨w, hw, c, hc, ?_⟩
  rw [e51]
  rw [e] at c1 c2
  constructor <;> grind

/-- a normal word -/
theorem is_word (e m : Nat) (he : 1 ≤ e) (he2 : e ≤ 2046) (hm : m < 2 ^ 52) : Is (e * 2 ^ 52 + m) (((2 ^ 52 + m : Nat) : Rat) * p2 ((e : Int) - 1075)) := by
  refine ⟨false, 2 ^ 52 + m, (e : Int) - 1075, ?_, by unfold sg; simp⟩
  unfold Format.read
  rw [sign_eq, least_eq, binade_eq, inf_eq]
  have h1 : (e * 2 ^ 52 + m) / 2 ^ 63 % 2 = 0 := by omega
  have h2 : (e * 2 ^ 52 + m) % 2 ^ 63 = e * 2 ^ 52 + m := by omega
  rw [h1, h2]
  dsimp only
  rw [if_neg (by omega), if_pos (by omega)]
  have h3 : (e * 2 ^ 52 + m) % 2 ^ 52 = m := by omega
  have h4 : (((e * 2 ^ 52 + m) / 2 ^ 52 - 1 : Nat) : Int) = (e : Int) - 1 := by omega
  rw [h3, h4]
  congr 1
  omega

theorem is_neg {w : Nat} {v : Rat} (h : Is w v) (hw : w < 2 ^ 63) : Is (w + 2 ^ 63) (-v) := by
  obtain ⟨s, m, i, hr, rfl⟩ := h
  unfold Format.read at hr
  have h1 : w / 2 ^ 63 % 2 = 0 := by omega
  have h2 : w % 2 ^ 63 = w := by omega
  rw [sign_eq, least_eq, binade_eq, inf_eq, h1, h2] at hr
  dsimp only at hr
  have h3 : (w + 2 ^ 63) / 2 ^ 63 % 2 = 1 := by omega
  have h4 : (w + 2 ^ 63) % 2 ^ 63 = w := by omega
  refine ⟨true, m, i, ?_, ?_⟩
  · unfold Format.read
    rw [sign_eq, least_eq, binade_eq, inf_eq, h3, h4]
    dsimp only
    split at hr
    · rename_i hc; rw [if_pos hc]; cases hr; rfl
    · rename_i hc; rw [if_neg hc]
      split at hr
      · rename_i hc2; rw [if_pos hc2]; cases hr; rfl
      · split at hr <;> cases hr
  · have : s = false := by
      split at hr
      · cases hr; rfl
      · split at hr
        · cases hr; rfl
        · split at hr <;> cases hr
    subst this
    unfold sg; simp <;> grind

theorem is_zero : Is 0 0 := ⟨false, 0, -1074, by decide +kernel, by decide +kernel⟩

def one : Nat := 0x3FF0000000000000
def two : Nat := 0x4000000000000000
def half : Nat := 0x3FE0000000000000

theorem is_one : Is one 1 := by
  have := is_word 1023 0 (by decide) (by decide) (by decide)
  have e : ((2 ^ 52 + 0 : Nat) : Rat) * p2 ((1023 : Nat) - 1075 : Int) = 1 := by decide +kernel
  rw [e] at this; exact this
theorem is_two : Is two 2 := by
  have := is_word 1024 0 (by decide) (by decide) (by decide)
  have e : ((2 ^ 52 + 0 : Nat) : Rat) * p2 ((1024 : Nat) - 1075 : Int) = 2 := by decide +kernel
  rw [e] at this; exact this
theorem is_half : Is half (1/2) := by
  have := is_word 1022 0 (by decide) (by decide) (by decide)
  have e : ((2 ^ 52 + 0 : Nat) : Rat) * p2 ((1022 : Nat) - 1075 : Int) = 1/2 := by decide +kernel
  rw [e] at this; exact this

end Go.Proofs.YtlpddogcnpokfaaGreat.Lg
namespace Go.Proofs.YtlpddogcnpokfaaGreat.Lg
open Ieee

theorem order_val {x y : Nat} {a b : Rat} (hx : Is x a) (hy : Is y b) :
    ∃ s t : Int, double.order x y = some (compare s t) ∧ (a < b ↔ s < t) ∧ (a = b ↔ s = t) ∧ (b < a ↔ t < s) := by
  obtain ⟨s, m, i, hr, rfl⟩ := hx
  obtain ⟨t, n, j, hr', rfl⟩ := hy
  unfold Format.order
  rw [hr, hr']
  refine ⟨_, _, rfl, ?_⟩
  have e1 : sg s * ((m : Rat) * p2 i) = ((signed s m (i - min i j).toNat : Int) : Rat) * p2 (min i j) := by
    rw [signed_val]
    have : p2 i = p2 ((i - min i j).toNat : Int) * p2 (min i j) := by rw [← p2_add]; congr 1; omega
    rw [this]; grind
  have e2 : sg t * ((n : Rat) * p2 j) = ((signed t n (j - min i j).toNat : Int) : Rat) * p2 (min i j) := by
    rw [signed_val]
    have : p2 j = p2 ((j - min i j).toNat : Int) * p2 (min i j) := by rw [← p2_add]; congr 1; omega
    rw [this]; grind
  rw [e1, e2]
  have hp := p2_pos (min i j)
  generalize p2 (min i j) = u at *
  generalize signed s m (i - min i j).toNat = p at *
  generalize signed t n (j - min i j).toNat = q at *
  refine ⟨?_, ?_, ?_⟩
  · rw [Rat.mul_lt_mul_right hp, Rat.intCast_lt_intCast]
  · constructor
    · intro h
      have h3 : ((p : Rat) - (q : Rat)) * u = 0 := by grind
      rcases Rat.mul_eq_zero.1 h3 with h | h
      · have : (p : Rat) = (q : Rat) := by grind
        exact Rat.intCast_inj.1 this
      · grind
    · intro h; rw [h]
  · rw [Rat.mul_lt_mul_right hp, Rat.intCast_lt_intCast]

theorem order_lt {x y : Nat} {a b : Rat} (hx : Is x a) (hy : Is y b) : (double.order x y == some .lt) = decide (a < b) := by
  obtain ⟨s, t, h, h1, h2, h3⟩ := order_val hx hy
  rw [h, Bool.eq_iff_iff]
  simp only [decide_eq_true_eq, h1]
  rw [beq_iff_eq, Option.some.injEq, Int.compare_eq_lt]

theorem order_eq {x y : Nat} {a b : Rat} (hx : Is x a) (hy : Is y b) : (double.order x y == some .eq) = decide (a = b) := by
  obtain ⟨s, t, h, h1, h2, h3⟩ := order_val hx hy
  rw [h, Bool.eq_iff_iff]
  simp only [decide_eq_true_eq, h2]
  rw [beq_iff_eq, Option.some.injEq, Int.compare_eq_eq]

theorem order_gt {x y : Nat} {a b : Rat} (hx : Is x a) (hy : Is y b) : (double.order x y == some .gt) = decide (b < a) := by
  obtain ⟨s, t, h, h1, h2, h3⟩ := order_val hx hy
  rw [h, Bool.eq_iff_iff]
  simp only [decide_eq_true_eq, h3]
  rw [beq_iff_eq, Option.some.injEq, Int.compare_eq_gt]

section
open Go
theorem m_add {x y w : Nat} (h : double.add x y = some w) : Extern.MathAsm.add x y = Sem.pure w := by
  unfold Extern.MathAsm.add Extern.MathAsm.arith Op.floatArith
  simp only [FloatKind.format, h]; rfl
theorem m_sub {x y w : Nat} (h : double.sub x y = some w) : Extern.MathAsm.sub x y = Sem.pure w := by
  unfold Extern.MathAsm.sub Extern.MathAsm.arith Op.floatArith
  simp only [FloatKind.format, h]; rfl
theorem m_mul {x y w : Nat} (h : double.mul x y = some w) : Extern.MathAsm.mul x y = Sem.pure w := by
  unfold Extern.MathAsm.mul Extern.MathAsm.arith Op.floatArith
  simp only [FloatKind.format, h]; rfl
theorem m_div {x y w : Nat} (h : double.div x y = some w) : Extern.MathAsm.div x y = Sem.pure w := by
  unfold Extern.MathAsm.div Extern.MathAsm.arith Op.floatArith
  simp only [FloatKind.format, h]; rfl
theorem s_bind {α β : Type} (a : α) (f : α → Sem β) : ((Sem.pure a : Sem α) >>= f) = f a := rfl
theorem s_map {α β : Type} (a : α) (f : α → β) : (f <$> (Sem.pure a : Sem α)) = Sem.pure (f a) := rfl
end

def c1 : Rat := 6004799503160723 / 9007199254740992
end Go.Proofs.YtlpddogcnpokfaaGreat.Lg
namespace Go.Proofs.YtlpddogcnpokfaaGreat.Lg
open Ieee

theorem cst (w e m : Nat) (hw : w = e * 2 ^ 52 + m) (he : 1 ≤ e) (he2 : e ≤ 2046) (hm : m < 2 ^ 52) : Is w (((2 ^ 52 + m : Nat) : Rat) * p2 ((e : Int) - 1075)) := by
  rw [hw]; exact is_word e m he he2 hm

def v_l1 : Rat := 6004799503160723 / 9007199254740992
theorem is_l1 : Is 0x3FE5555555555593 v_l1 := by
  have h := cst 0x3FE5555555555593 1022 1501199875790227 (by decide) (by decide) (by decide) (by decide)
  have e : ((2 ^ 52 + 1501199875790227 : Nat) : Rat) * p2 ((1022 : Nat) - 1075 : Int) = v_l1 := by decide +kernel
  rw [e] at h; exact h
def v_l2 : Rat := 1801439850921601 / 4503599627370496
theorem is_l2 : Is 0x3FD999999997FA04 v_l2 := by
  have h := cst 0x3FD999999997FA04 1021 2702159776315908 (by decide) (by decide) (by decide) (by decide)
  have e : ((2 ^ 52 + 2702159776315908 : Nat) : Rat) * p2 ((1021 : Nat) - 1075 : Int) = v_l2 := by decide +kernel
  rw [e] at h; exact h
def v_l3 : Rat := 5146971033736025 / 18014398509481984
theorem is_l3 : Is 0x3FD2492494229359 v_l3 := by
  have h := cst 0x3FD2492494229359 1021 643371406365529 (by decide) (by decide) (by decide) (by decide)
  have e : ((2 ^ 52 + 643371406365529 : Nat) : Rat) * p2 ((1021 : Nat) - 1075 : Int) = v_l3 := by decide +kernel
  rw [e] at h; exact h
def v_l4 : Rat := 8006390766270639 / 36028797018963968
theorem is_l4 : Is 0x3FCC71C51D8E78AF v_l4 := by
  have h := cst 0x3FCC71C51D8E78AF 1020 3502791138900143 (by decide) (by decide) (by decide) (by decide)
  have e : ((2 ^ 52 + 3502791138900143 : Nat) : Rat) * p2 ((1020 : Nat) - 1075 : Int) = v_l4 := by decide +kernel
  rw [e] at h; exact h
def v_l5 : Rat := 3275661152453103 / 18014398509481984
theorem is_l5 : Is 0x3FC7466496CB03DE v_l5 := by
  have h := cst 0x3FC7466496CB03DE 1020 2047722677535710 (by decide) (by decide) (by decide) (by decide)
  have e : ((2 ^ 52 + 2047722677535710 : Nat) : Rat) * p2 ((1020 : Nat) - 1075 : Int) = v_l5 := by decide +kernel
  rw [e] at h; exact h
def v_l6 : Rat := 5517391500461727 / 36028797018963968
theorem is_l6 : Is 0x3FC39A09D078C69F v_l6 := by
  have h := cst 0x3FC39A09D078C69F 1020 1013791873091231 (by decide) (by decide) (by decide) (by decide)
  have e : ((2 ^ 52 + 1013791873091231 : Nat) : Rat) * p2 ((1020 : Nat) - 1075 : Int) = v_l6 := by decide +kernel
  rw [e] at h; exact h
def v_l7 : Rat := 1332903234475153 / 9007199254740992
theorem is_l7 : Is 0x3FC2F112DF3E5244 v_l7 := by
  have h := cst 0x3FC2F112DF3E5244 1020 828013310530116 (by decide) (by decide) (by decide) (by decide)
  have e : ((2 ^ 52 + 828013310530116 : Nat) : Rat) * p2 ((1020 : Nat) - 1075 : Int) = v_l7 := by decide +kernel
  rw [e] at h; exact h
def v_hi : Rat := 2977044471 / 4294967296
theorem is_hi : Is 0x3FE62E42FEE00000 v_hi := by
  have h := cst 0x3FE62E42FEE00000 1022 1739715139076096 (by decide) (by decide) (by decide) (by decide)
  have e : ((2 ^ 52 + 1739715139076096 : Nat) : Rat) * p2 ((1022 : Nat) - 1075 : Int) = v_hi := by decide +kernel
  rw [e] at h; exact h
def v_lo : Rat := 3691024475790907 / 19342813113834066795298816
theorem is_lo : Is 0x3DEA39EF35793C76 v_lo := by
  have h := cst 0x3DEA39EF35793C76 990 2878449324211318 (by decide) (by decide) (by decide) (by decide)
  have e : ((2 ^ 52 + 2878449324211318 : Nat) : Rat) * p2 ((990 : Nat) - 1075 : Int) = v_lo := by decide +kernel
  rw [e] at h; exact h
def v_sq : Rat := 6369051672525773 / 9007199254740992
theorem is_sq : Is 0x3FE6A09E667F3BCD v_sq := by
  have h := cst 0x3FE6A09E667F3BCD 1022 1865452045155277 (by decide) (by decide) (by decide) (by decide)
  have e : ((2 ^ 52 + 1865452045155277 : Nat) : Rat) * p2 ((1022 : Nat) - 1075 : Int) = v_sq := by decide +kernel
  rw [e] at h; exact h
def v_le : Rat := 3248660424278399 / 2251799813685248
theorem is_le : Is 0x3FF71547652B82FE v_le := by
  have h := cst 0x3FF71547652B82FE 1023 1993721221186302 (by decide) (by decide) (by decide) (by decide)
  have e : ((2 ^ 52 + 1993721221186302 : Nat) : Rat) * p2 ((1023 : Nat) - 1075 : Int) = v_le := by decide +kernel
  rw [e] at h; exact h

theorem bd {a b P R : Rat} (h1 : 0 ≤ a) (h2 : a ≤ P) (h3 : 0 ≤ b) (h4 : b ≤ R) : 0 ≤ a * b ∧ a * b ≤ P * R :=
  ⟨Rat.mul_nonneg h1 h3, mul_mono h1 h2 h3 h4⟩

theorem A.div {x y : Nat} {p q n m S : Rat} (hx : A x p n) (hy : A y q m) (hS : S * q = p) (hq : 3/2 ≤ q) (h1 : -(1/4) ≤ S) (h2 : S ≤ 1/4) (hn : n ≤ 1000) (hm : m ≤ 1000) :
    ∃ w, double.div x y = some w ∧ A w S (n + m + 1) := by
  obtain ⟨a, ha, a1, a2⟩ := hx
  obtain ⟨b, hb, b1, b2⟩ := hy
  rw [e51] at a1 a2 b1 b2
  have hb1 : 1 ≤ b := by grind
  have hm0 : 0 ≤ m := by grind
  have hn0 : 0 ≤ n := by grind
  have hdq : a / b * b = a := by grind
  -- (a / b - S) b = (a - p) - S (b - q)
  have k := abs_mul_le (a := S) (A := 1/4) (b := b - q) (B := m * (1 / 2251799813685248)) h1 h2 (by grind) (by grind)
  have key : (a / b - S) * b = (a - p) - S * (b - q) := by grind
  generalize hdd : a / b = z at *
  have u1 : z - S ≤ (n + m) * (1 / 2251799813685248) := by
    refine Rat.not_lt.1 fun h' => ?_
    have p1 := Rat.mul_nonneg (a := z - S - (n + m) * (1 / 2251799813685248)) (b := b - 1) (by grind) (by grind)
    have p2 := Rat.mul_nonneg (a := (n + m) * (1 / 2251799813685248)) (b := b - 1) (by grind) (by grind)
    grind
  have u2 : -((n + m) * (1 / 2251799813685248)) ≤ z - S := by
    refine Rat.not_lt.1 fun h' => ?_
    have p1 := Rat.mul_nonneg (a := -((n + m) * (1 / 2251799813685248)) - (z - S)) (b := b - 1) (by grind) (by grind)
    have p2 := Rat.mul_nonneg (a := (n + m) * (1 / 2251799813685248)) (b := b - 1) (by grind) (by grind)
    grind
  obtain ⟨w, c, hw, hc, c1, c2⟩ := div_err ha hb z (by rw [hdq]) hb1 (by grind) (by grind)
  rw [e51] at c1 c2
  refine ⟨w, hw, c, hc, ?_⟩
  rw [e51]
  constructor <;> grind

theorem log_form (S F kk : Rat) (hS : S * (2 + F) = F) :
    kk * v_hi - ((1/2 * F * F - (S * ((S * S * ((((v_l7 * (S * S * (S * S))) + v_l5) * (S * S * (S * S)) + v_l3) * (S * S * (S * S)) + v_l1) +
      S * S * (S * S) * (((v_l6 * (S * S * (S * S))) + v_l4) * (S * S * (S * S)) + v_l2)) + 1/2 * F * F) + v_lo * kk)) - F) =
    (pev Q S + kk * (LN : Rat)) / 38685626227668133590597632 := by
  have eF : F - 1/2 * F * F + S * (1/2 * F * F) = 2 * S := by grind
  have eQ : pev Q S = 38685626227668133590597632 * (2 * S + S * (S * S * ((((v_l7 * (S * S * (S * S))) + v_l5) * (S * S * (S * S)) + v_l3) * (S * S * (S * S)) + v_l1) +
      S * S * (S * S) * (((v_l6 * (S * S * (S * S))) + v_l4) * (S * S * (S * S)) + v_l2))) := by
    unfold Q v_l1 v_l2 v_l3 v_l4 v_l5 v_l6 v_l7; simp only [pev, Rat.intCast_ofNat]; grind
  have eL : (LN : Rat) = 38685626227668133590597632 * (v_hi + v_lo) := by unfold LN v_hi v_lo; decide +kernel
  rw [eQ, eL]
  grind
end Go.Proofs.YtlpddogcnpokfaaGreat.Lg
namespace Go.Proofs.YtlpddogcnpokfaaGreat.Lg
open Ieee

/-- what the logarithm's operations come to, from 'f' and 'k' on -/
def Tail (f k w : Nat) : Prop := ∃ d s s2 s4 a7 b7 a5 b5 a3 b3 t1 a6 b6 a4 b4 t2 r g hfsq rh srh lk inner u v kh : Nat,
      double.add two f = some d ∧ double.div f d = some s ∧ double.mul s s = some s2 ∧ double.mul s2 s2 = some s4 ∧
      double.mul 0x3FC2F112DF3E5244 s4 = some a7 ∧ double.add a7 0x3FC7466496CB03DE = some b7 ∧ double.mul b7 s4 = some a5 ∧ double.add a5 0x3FD2492494229359 = some b5 ∧
      double.mul b5 s4 = some a3 ∧ double.add a3 0x3FE5555555555593 = some b3 ∧ double.mul s2 b3 = some t1 ∧
      double.mul 0x3FC39A09D078C69F s4 = some a6 ∧ double.add a6 0x3FCC71C51D8E78AF = some b6 ∧ double.mul b6 s4 = some a4 ∧ double.add a4 0x3FD999999997FA04 = some b4 ∧ double.mul s4 b4 = some t2 ∧
      double.add t1 t2 = some r ∧ double.mul half f = some g ∧ double.mul g f = some hfsq ∧ double.add r hfsq = some rh ∧ double.mul s rh = some srh ∧
      double.mul 0x3DEA39EF35793C76 k = some lk ∧ double.add srh lk = some inner ∧ double.sub hfsq inner = some u ∧ double.sub u f = some v ∧ double.mul k 0x3FE62E42FEE00000 = some kh ∧
      double.sub kh v = some w

/-- the tail of the logarithm, from 'f' and 'k' on -/
theorem log_tail {f k : Nat} {F kk S : Rat} (hf : A f F 4) (hk : Is k kk) (hF1 : -(3/10) ≤ F) (hF2 : F ≤ 42/100) (hk1 : -1 ≤ kk) (hk2 : kk ≤ 0) (hS : S * (2 + F) = F) :
    ∃ w, Tail f k w ∧ A w ((pev Q S + kk * (LN : Rat)) / 38685626227668133590597632) 100 := by
  have hS1 : -(1/5) ≤ S := by
    refine Rat.not_lt.1 fun h' => ?_
    have := Rat.mul_pos (a := -(1/5) - S) (b := 2 + F) (by grind) (by grind)
    grind
  have hS2 : S ≤ 1/5 := by
    refine Rat.not_lt.1 fun h' => ?_
    have := Rat.mul_pos (a := S - 1/5) (b := 2 + F) (by grind) (by grind)
    grind
  obtain ⟨d, hd, ad⟩ := A.add (A.of_is is_two) hf (by grind) (by grind) (by decide) (by decide)
  obtain ⟨s, hs, as⟩ := A.div hf ad hS (by grind) (by grind) (by grind) (by decide) (by decide +kernel)
  have as := as.weak (m := 10) (by decide +kernel)
  obtain ⟨s2, hs2, as2⟩ := A.mul (1/5) (1/5) as as hS1 hS2 hS1 hS2 (by decide) (by decide) (by decide +kernel) (by decide +kernel) (by decide +kernel)
  have as2 := as2.weak (m := 6) (by decide +kernel)
  have b2 := abs_mul_le hS1 hS2 hS1 hS2
  have n2 := sq_nonneg S
  generalize hS2' : S * S = S2 at *
  obtain ⟨s4, hs4, as4⟩ := A.mul (1/25) (1/25) as2 as2 (by grind) (by grind) (by grind) (by grind) (by decide) (by decide) (by decide +kernel) (by decide +kernel) (by decide +kernel)
  have as4 := as4.weak (m := 3) (by decide +kernel)
  have b4' := bd n2 (show S2 ≤ 1/25 by grind) n2 (show S2 ≤ 1/25 by grind)
  generalize hS4' : S2 * S2 = S4 at *
  have n4 := b4'.1
  have m4 : S4 ≤ 1/625 := by grind
  have step {a : Nat} {p n : Rat} (P : Rat) (ha : A a p n) (hp : 0 ≤ p) (hpP : p ≤ P) (hP : P ≤ 1) (hn : n ≤ 10) :
      ∃ w, double.mul a s4 = some w ∧ A w (p * S4) (6) ∧ 0 ≤ p * S4 ∧ p * S4 ≤ P * (1/625) := by
    obtain ⟨w, hw, aw⟩ := A.mul P (1/625) ha as4 (by grind) hpP (by grind) m4 (by grind) (by decide) (by grind) (by grind) (by decide +kernel)
    exact ⟨w, hw, aw.weak (by grind), bd hp hpP n4 m4⟩
  obtain ⟨a7, h1, c1, n1, u1⟩ := step 1 (A.of_is is_l7) (by decide +kernel) (by decide +kernel) (by decide) (by decide)
  obtain ⟨b7, h2, c2⟩ := A.add c1 (A.of_is is_l5) (by unfold v_l5; grind) (by unfold v_l5; grind) (by decide) (by decide)
  obtain ⟨a5, h3, c3, n3, u3⟩ := step 1 c2 (by unfold v_l5; grind) (by unfold v_l5; grind) (by decide) (by decide +kernel)
  obtain ⟨b5, h4, c4⟩ := A.add c3 (A.of_is is_l3) (by unfold v_l3; grind) (by unfold v_l3; grind) (by decide) (by decide)
  obtain ⟨a3, h5, c5, n5, u5⟩ := step 1 c4 (by unfold v_l3; grind) (by unfold v_l3; grind) (by decide) (by decide +kernel)
  obtain ⟨b3, h6, c6⟩ := A.add c5 (A.of_is is_l1) (by unfold v_l1; grind) (by unfold v_l1; grind) (by decide) (by decide)
  have r3 : 0 ≤ (((v_l7 * S4) + v_l5) * S4 + v_l3) * S4 + v_l1 ∧ (((v_l7 * S4) + v_l5) * S4 + v_l3) * S4 + v_l1 ≤ 7/10 := by unfold v_l1 at *; constructor <;> grind
  obtain ⟨t1, h7, c7⟩ := A.mul (1/25) (7/10) as2 c6 (by grind) (by grind) (by grind) (by grind) (by decide) (by decide +kernel) (by decide +kernel) (by decide +kernel) (by decide +kernel)
  have c7 := c7.weak (m := 7) (by decide +kernel)
  have r4 := bd n2 (show S2 ≤ 1/25 by grind) r3.1 r3.2
  obtain ⟨a6, h8, c8, n8, u8⟩ := step 1 (A.of_is is_l6) (by decide +kernel) (by decide +kernel) (by decide) (by decide)
  obtain ⟨b6, h9, c9⟩ := A.add c8 (A.of_is is_l4) (by unfold v_l4; grind) (by unfold v_l4; grind) (by decide) (by decide)
  obtain ⟨a4, h10, c10, n10, u10⟩ := step 1 c9 (by unfold v_l4; grind) (by unfold v_l4; grind) (by decide) (by decide +kernel)
  obtain ⟨b4, h11, c11⟩ := A.add c10 (A.of_is is_l2) (by unfold v_l2; grind) (by unfold v_l2; grind) (by decide) (by decide)
  have r5 : 0 ≤ ((v_l6 * S4) + v_l4) * S4 + v_l2 ∧ ((v_l6 * S4) + v_l4) * S4 + v_l2 ≤ 1/2 := by unfold v_l2 at *; constructor <;> grind
  obtain ⟨t2, h12, c12⟩ := A.mul (1/625) (1/2) as4 c11 (by grind) (by grind) (by grind) (by grind) (by decide) (by decide +kernel) (by decide +kernel) (by decide +kernel) (by decide +kernel)
  have c12 := c12.weak (m := 6) (by decide +kernel)
  have r6 := bd n4 m4 r5.1 r5.2
  obtain ⟨r, h13, c13⟩ := A.add c7 c12 (by grind) (by grind) (by decide) (by decide)
  generalize eR : S2 * ((((v_l7 * S4) + v_l5) * S4 + v_l3) * S4 + v_l1) + S4 * (((v_l6 * S4) + v_l4) * S4 + v_l2) = R at *
  have r7 : 0 ≤ R ∧ R ≤ 3/100 := by constructor <;> grind
  obtain ⟨g, h14, c14⟩ := A.mul (1/2) (1/2) (A.of_is is_half) hf (by decide +kernel) (by decide +kernel) (by grind) (by grind) (by decide) (by decide) (by decide +kernel) (by decide +kernel) (by decide +kernel)
  have c14 := c14.weak (m := 4) (by decide +kernel)
  obtain ⟨hfsq, h15, c15⟩ := A.mul (1/4) (1/2) c14 hf (by grind) (by grind) (by grind) (by grind) (by decide) (by decide) (by decide +kernel) (by decide +kernel) (by decide +kernel)
  have c15 := c15.weak (m := 5) (by decide +kernel)
  have nF := sq_nonneg F
  have bF := abs_mul_le (show -(1/2) ≤ F by grind) (show F ≤ 1/2 by grind) (show -(1/2) ≤ F by grind) (show F ≤ 1/2 by grind)
  have r8 : 0 ≤ 1/2 * F * F ∧ 1/2 * F * F ≤ 1/8 := by constructor <;> grind
  obtain ⟨rh, h16, c16⟩ := A.add c13 c15 (by grind) (by grind) (by decide +kernel) (by decide)
  have c16 := c16.weak (m := 20) (by decide +kernel)
  obtain ⟨srh, h17, c17⟩ := A.mul (1/5) (1/5) as c16 (by grind) (by grind) (by grind) (by grind) (by decide) (by decide) (by decide +kernel) (by decide +kernel) (by decide +kernel)
  have c17 := c17.weak (m := 10) (by decide +kernel)
  have r9 := abs_mul_le hS1 hS2 (show -(1/5) ≤ R + 1/2 * F * F by grind) (show R + 1/2 * F * F ≤ 1/5 by grind)
  obtain ⟨lk, h18, c18⟩ := A.mul (1/100) 1 (A.of_is is_lo) (A.of_is hk) (by decide +kernel) (by decide +kernel) (by grind) (by grind) (by decide) (by decide) (by decide +kernel) (by decide +kernel) (by decide +kernel)
  have c18 := c18.weak (m := 2) (by decide +kernel)
  have r10 := abs_mul_le (show -(1/100) ≤ v_lo by decide +kernel) (show v_lo ≤ 1/100 by decide +kernel) (show -1 ≤ kk by grind) (show kk ≤ 1 by grind)
  obtain ⟨inner, h19, c19⟩ := A.add c17 c18 (by grind) (by grind) (by decide) (by decide)
  obtain ⟨u, h20, c20⟩ := A.sub c15 c19 (by grind) (by grind) (by decide) (by decide +kernel)
  obtain ⟨v, h21, c21⟩ := A.sub c20 hf (by grind) (by grind) (by decide +kernel) (by decide)
  obtain ⟨kh, h22, c22⟩ := A.mul 1 1 (A.of_is hk) (A.of_is is_hi) (by grind) (by grind) (by decide +kernel) (by decide +kernel) (by decide) (by decide) (by decide +kernel) (by decide) (by decide)
  have c22 := c22.weak (m := 2) (by decide +kernel)
  have r11 := abs_mul_le (show -1 ≤ kk by grind) (show kk ≤ 1 by grind) (show -1 ≤ v_hi by decide +kernel) (show v_hi ≤ 1 by decide +kernel)
  obtain ⟨w, h23, c23⟩ := A.sub c22 c21 (by grind) (by grind) (by decide) (by decide +kernel)
  refine ⟨w, ⟨d, s, s2, s4, a7, b7, a5, b5, a3, b3, t1, a6, b6, a4, b4, t2, r, g, hfsq, rh, srh, lk, inner, u, v, kh,
    hd, hs, hs2, hs4, h1, h2, h3, h4, h5, h6, h7, h8, h9, h10, h11, h12, h13, h14, h15, h16, h17, h18, h19, h20, h21, h22, h23⟩, ?_⟩
  have := log_form S F kk hS
  rw [hS2', hS4', eR] at this
  rw [← this]
  exact c23.weak (by decide +kernel)
end Go.Proofs.YtlpddogcnpokfaaGreat.Lg
namespace Go.Proofs.YtlpddogcnpokfaaGreat.Lg
open Ieee

theorem log_hi (x : Nat) (y : Rat) (hy : Is x y) (hb : v_sq < y) (hb2 : y < 1) :
    ∃ f1 f w, double.mul x one = some f1 ∧ double.sub f1 one = some f ∧ Tail f 0 w ∧ A w ((el (2 * y) - (LN : Rat)) / 38685626227668133590597632) 100 := by
  have hsq : v_sq = 6369051672525773 / 9007199254740992 := rfl
  obtain ⟨f1, hf1, af1⟩ := A.mul 1 1 (A.of_is hy) (A.of_is is_one) (by grind) (by grind) (by decide +kernel) (by decide +kernel) (by decide) (by decide) (by decide +kernel) (by decide) (by decide)
  obtain ⟨f, hf, af⟩ := A.sub af1 (A.of_is is_one) (by grind) (by grind) (by decide +kernel) (by decide)
  have af := af.weak (m := 4) (by decide +kernel)
  have hS : sv y * (2 + (y * 1 - 1)) = y * 1 - 1 := by unfold sv; grind
  obtain ⟨w, ht, aw⟩ := log_tail af is_zero (by grind) (by grind) (by decide +kernel) (by decide) hS
  refine ⟨f1, f, w, hf1, hf, ht, ?_⟩
  have : el (2 * y) - (LN : Rat) = pev Q (sv y) + 0 * (LN : Rat) := by
    have hc : ¬ 2 * y ≤ CC := by unfold CC; grind
    unfold el; rw [if_neg hc, show 2 * y / 2 = y from by grind]; grind
  rw [this]; exact aw

theorem log_lo (x : Nat) (y : Rat) (hy : Is x y) (hb1 : 1/2 < y) (hb : y ≤ v_sq) :
    ∃ f1 f w, double.mul x two = some f1 ∧ double.sub f1 one = some f ∧ Tail f 0xBFF0000000000000 w ∧ A w ((el (2 * y) - (LN : Rat)) / 38685626227668133590597632) 100 := by
  have hsq : v_sq = 6369051672525773 / 9007199254740992 := rfl
  obtain ⟨f1, hf1, af1⟩ := A.mul 1 2 (A.of_is hy) (A.of_is is_two) (by grind) (by grind) (by decide +kernel) (by decide +kernel) (by decide) (by decide) (by decide +kernel) (by decide) (by decide)
  obtain ⟨f, hf, af⟩ := A.sub af1 (A.of_is is_one) (by grind) (by grind) (by decide +kernel) (by decide)
  have af := af.weak (m := 4) (by decide +kernel)
  have hm1 : Is (0xBFF0000000000000) (-1) := is_neg is_one (by decide)
  have hS : sv (2 * y) * (2 + (y * 2 - 1)) = y * 2 - 1 := by unfold sv; grind
  obtain ⟨w, ht, aw⟩ := log_tail af hm1 (by grind) (by grind) (by decide +kernel) (by decide) hS
  refine ⟨f1, f, w, hf1, hf, ht, ?_⟩
  have : el (2 * y) - (LN : Rat) = pev Q (sv (2 * y)) + -1 * (LN : Rat) := by
    have hc : 2 * y ≤ CC := by unfold CC; grind
    unfold el; rw [if_pos hc]; grind
  rw [this]; exact aw

/-- A LOGARITHM: of a number from 1/2 (not itself) to 1. -/
theorem archLog_near (m : Nat) (h0 : 0 < m) (hm : m < 2 ^ 52) :
    ∃ w, Go.Extern.MathLog.archLog #[.float .f64 (1022 * 2 ^ 52 + m)] = Go.Sem.pure (.float .f64 w) ∧
      A w ((el (((2 ^ 53 + 2 * m : Nat) : Rat) / 9007199254740992) - (LN : Rat)) / 38685626227668133590597632) 100 := by
  have hy : Is (1022 * 2 ^ 52 + m) (((2 ^ 52 + m : Nat) : Rat) * p2 ((1022 : Nat) - 1075 : Int)) := is_word 1022 m (by decide) (by decide) hm
  have ep : p2 ((1022 : Nat) - 1075 : Int) = 1 / 9007199254740992 := by decide +kernel
  rw [ep] at hy
  have eM : ((2 ^ 53 + 2 * m : Nat) : Rat) / 9007199254740992 = 2 * (((2 ^ 52 + m : Nat) : Rat) * (1 / 9007199254740992)) := by
    have : (2 ^ 53 + 2 * m : Nat) = 2 * (2 ^ 52 + m) := by omega
    rw [this, Rat.natCast_mul]
    have e2 : ((2 : Nat) : Rat) = 2 := rfl
    rw [e2]; grind
  have hb1 : (1/2 : Rat) < ((2 ^ 52 + m : Nat) : Rat) * (1 / 9007199254740992) := by
    have : 2 ^ 52 < 2 ^ 52 + m := by omega
    have := Rat.natCast_lt_natCast.2 this
    grind
  have hb2 : ((2 ^ 52 + m : Nat) : Rat) * (1 / 9007199254740992) < 1 := by
    have : 2 ^ 52 + m < 2 ^ 53 := by omega
    have := Rat.natCast_lt_natCast.2 this
    grind
  rw [eM]
  generalize ((2 ^ 52 + m : Nat) : Rat) * (1 / 9007199254740992) = y at *
  have hlt := order_lt is_sq hy
  have g1 : ((1022 * 2 ^ 52 + m) % 2 ^ 63 == 0) = false := by
    rw [beq_eq_false_iff_ne]; omega
  have g2 : ¬ (1022 * 2 ^ 52 + m ≥ 2 ^ 63) := by omega
  have g3 : ¬ (1022 * 2 ^ 52 + m ≥ Go.Extern.MathAsm.posInf) := by unfold Go.Extern.MathAsm.posInf; omega
  have g4 : (1022 * 2 ^ 52 + m) % 2 ^ 52 + Go.Extern.MathAsm.half = 1022 * 2 ^ 52 + m := by unfold Go.Extern.MathAsm.half; omega
  have g5 : (1022 * 2 ^ 52 + m) / 2 ^ 52 = 1022 := by omega
  have g6 : Go.Extern.MathAsm.ofInt32 (Int.ofNat 1022 - 0x3FE) = 0 := by decide +kernel
  have g7 : Go.Extern.MathAsm.lt 0x3FE6A09E667F3BCD (1022 * 2 ^ 52 + m) = decide (v_sq < y) := hlt
  have hb : Go.Extern.MathLog.archLog #[.float .f64 (1022 * 2 ^ 52 + m)] = ite (_ = true) _ (ite _ _ (ite _ _ _)) := rfl
  rw [hb]
  dsimp only
  rw [g1, if_neg (by decide), if_neg g2, if_neg g3, g4, g5, g6, g7]
  clear hb g1 g2 g3 g4 g5 g6 g7 hlt eM ep hm h0
  generalize 1022 * 2 ^ 52 + m = x at *
  by_cases hs : v_sq < y
  · have hsb : decide (v_sq < y) = true := decide_eq_true hs
    rw [hsb]
    obtain ⟨f1, f, w, hf1, hf, ht, aw⟩ := log_hi x y hy hs hb2
    have q1 : Go.Extern.MathAsm.sub 0 0 = Go.Sem.pure 0 := m_sub (by decide +kernel)
    have q2 : Go.Extern.MathAsm.add 0 Go.Extern.MathAsm.one = Go.Sem.pure one := m_add (by decide +kernel)
    have q3 : Go.Extern.MathAsm.mul x one = Go.Sem.pure f1 := m_mul hf1
    have q4 : Go.Extern.MathAsm.sub f1 Go.Extern.MathAsm.one = Go.Sem.pure f := m_sub hf
    refine ⟨w, ?_, aw⟩
    obtain ⟨d, s, s2, s4, a7, b7, a5, b5, a3, b3, t1, a6, b6, a4, b4, t2, r, g, hfsq, rh, srh, lk, inner, u, v, kh,
      e1, e2, e3, e4, e5, e6, e7, e8, e9, e10, e11, e12, e13, e14, e15, e16, e17, e18, e19, e20, e21, e22, e23, e24, e25, e26, e27⟩ := ht
    simp only [Bool.not_true, Bool.false_eq_true, if_false, q1, q2, q3, q4, s_bind]
    simp only [Go.Extern.MathAsm.two, Go.Extern.MathAsm.half, ← two.eq_1, ← half.eq_1, m_add e1, m_div e2, m_mul e3, m_mul e4, m_mul e5, m_add e6, m_mul e7, m_add e8, m_mul e9, m_add e10, m_mul e11, m_mul e12, m_add e13, m_mul e14, m_add e15, m_mul e16, m_add e17,
      m_mul e18, m_mul e19, m_add e20, m_mul e21, m_mul e22, m_add e23, m_sub e24, m_sub e25, m_mul e26, m_sub e27, s_bind]
    rfl
  · have hsb : decide (v_sq < y) = false := decide_eq_false hs
    rw [hsb]
    obtain ⟨f1, f, w, hf1, hf, ht, aw⟩ := log_lo x y hy hb1 (Rat.not_lt.1 hs)
    have q1 : Go.Extern.MathAsm.sub 0 Go.Extern.MathAsm.one = Go.Sem.pure 0xBFF0000000000000 := m_sub (by decide +kernel)
    have q2 : Go.Extern.MathAsm.add Go.Extern.MathAsm.one Go.Extern.MathAsm.one = Go.Sem.pure two := m_add (by decide +kernel)
    have q3 : Go.Extern.MathAsm.mul x two = Go.Sem.pure f1 := m_mul hf1
    have q4 : Go.Extern.MathAsm.sub f1 Go.Extern.MathAsm.one = Go.Sem.pure f := m_sub hf
    refine ⟨w, ?_, aw⟩
    obtain ⟨d, s, s2, s4, a7, b7, a5, b5, a3, b3, t1, a6, b6, a4, b4, t2, r, g, hfsq, rh, srh, lk, inner, u, v, kh,
      e1, e2, e3, e4, e5, e6, e7, e8, e9, e10, e11, e12, e13, e14, e15, e16, e17, e18, e19, e20, e21, e22, e23, e24, e25, e26, e27⟩ := ht
    simp only [Bool.not_false, if_true, q1, q2, q3, q4, s_bind]
    simp only [Go.Extern.MathAsm.two, Go.Extern.MathAsm.half, ← two.eq_1, ← half.eq_1, m_add e1, m_div e2, m_mul e3, m_mul e4, m_mul e5, m_add e6, m_mul e7, m_add e8, m_mul e9, m_add e10, m_mul e11, m_mul e12, m_add e13, m_mul e14, m_add e15, m_mul e16, m_add e17,
      m_mul e18, m_mul e19, m_add e20, m_mul e21, m_mul e22, m_add e23, m_sub e24, m_sub e25, m_mul e26, m_sub e27, s_bind]
    rfl
end Go.Proofs.YtlpddogcnpokfaaGreat.Lg
namespace Go.Proofs.YtlpddogcnpokfaaGreat.Lg
open Ieee

theorem cut_zero (neg : Bool) (n drop : Nat) : Toward.zero.cut neg n drop = n / 2 ^ drop := by
  unfold Toward.cut
  simp only [Nat.one_shiftLeft, Bool.toNat_false, Nat.add_zero]
  by_cases hd : drop ≤ n.log2 + 2
  · rw [Nat.min_eq_left hd]
  · rw [Nat.min_eq_right (by omega)]
    have hn : n < 2 ^ (n.log2 + 1) := Nat.lt_log2_self
    have h1 : 2 ^ (n.log2 + 1) ≤ 2 ^ (n.log2 + 2) := Nat.pow_le_pow_right (by decide) (by omega)
    have h2 : 2 ^ (n.log2 + 2) ≤ 2 ^ drop := Nat.pow_le_pow_right (by decide) (by omega)
    rw [Nat.div_eq_of_lt (by omega), Nat.div_eq_of_lt (by omega)]

/-- cut towards zero: a number above j - 1 and at most j, where j is at most 0 -/
theorem trunc_neg {P : Nat} {c : Rat} (h : Is P c) (j : Int) (hj : j ≤ 0) (h1 : ((j - 1 : Int) : Rat) < c) (h2 : c ≤ (j : Rat)) : (double.read P).toInt .zero = some j := by
  obtain ⟨s, m, i, hr, rfl⟩ := h
  rw [hr]
  unfold Datum.toInt Datum.integral
  simp only [cut_zero, Nat.shiftLeft_eq]
  congr 1
  -- the magnitude
  have hv : (m : Rat) * p2 i = ((m * 2 ^ i.toNat : Nat) : Rat) / ((2 ^ (-i).toNat : Nat) : Rat) := by
    have hp : (0 : Rat) < ((2 ^ (-i).toNat : Nat) : Rat) := by rw [← p2_nat]; exact p2_pos _
    have : (m : Rat) * p2 i * ((2 ^ (-i).toNat : Nat) : Rat) = ((m * 2 ^ i.toNat : Nat) : Rat) := by
      rw [Rat.natCast_mul, ← p2_nat, ← p2_nat]
      have e : p2 (i.toNat : Int) = p2 i * p2 ((-i).toNat : Int) := by rw [← p2_add]; congr 1; omega
      rw [e]; grind
    grind
  rw [hv] at h1 h2
  have hp : 0 < 2 ^ (-i).toNat := Nat.two_pow_pos _
  generalize m * 2 ^ i.toNat = n at *
  generalize 2 ^ (-i).toNat = d at *
  have hdp : (0 : Rat) < (d : Rat) := by
    have := Rat.natCast_lt_natCast.2 hp; exact this
  have hz : (n : Rat) / (d : Rat) * (d : Rat) = n := by grind
  have hn0 : (0 : Rat) ≤ (n : Rat) := Rat.natCast_nonneg
  have hz0 : (0 : Rat) ≤ (n : Rat) / (d : Rat) := by
    rw [le_div_iff' hdp]; grind
  generalize (n : Rat) / (d : Rat) = z at *
  have hj' : (j : Rat) ≤ 0 := Rat.intCast_le_intCast.2 hj
  obtain ⟨k, hk⟩ : ∃ k : Nat, j = -(k : Int) := ⟨j.natAbs, by omega⟩
  subst hk
  have ek : ((-(k : Int) : Int) : Rat) = -(k : Rat) := by rw [Rat.intCast_neg, Rat.intCast_natCast]
  have ek1 : ((-(k : Int) - 1 : Int) : Rat) = -(k : Rat) - 1 := by
    rw [show (-(k : Int) - 1) = -((k + 1 : Nat) : Int) from by omega, Rat.intCast_neg, Rat.intCast_natCast, Rat.natCast_add]
    have : ((1 : Nat) : Rat) = 1 := rfl
    rw [this]; grind
  rw [ek] at h2 hj'
  rw [ek1] at h1
  cases s with
  | false =>
    simp only [sg, Bool.false_eq_true, if_false] at h1 h2
    have z0 : z = 0 := by grind
    have n0 : (n : Rat) = 0 := by rw [← hz, z0]; grind
    have n0' : n = 0 := by
      have : (n : Rat) = ((0 : Nat) : Rat) := n0
      exact Rat.natCast_inj.1 this
    have k0 : (k : Rat) = ((0 : Nat) : Rat) := by
      have : ((0 : Nat) : Rat) = 0 := rfl
      grind
    have k0' : k = 0 := Rat.natCast_inj.1 k0
    subst n0' k0'
    simp [signed]
  | true =>
    simp only [sg, if_true] at h1 h2
    -- k ≤ z < k + 1
    have l1 : (k : Rat) * (d : Rat) ≤ n := by
      have := Rat.mul_le_mul_of_nonneg_right (c := (d : Rat)) (show (k : Rat) ≤ z by grind) (Rat.le_of_lt hdp)
      grind
    have l2 : (n : Rat) < ((k : Rat) + 1) * (d : Rat) := by
      have := Rat.mul_lt_mul_of_pos_right (c := (d : Rat)) (show z < (k : Rat) + 1 by grind) hdp
      grind
    rw [← Rat.natCast_mul] at l1
    have l1' := Rat.natCast_le_natCast.1 l1
    have e1 : ((k : Rat) + 1) * (d : Rat) = (((k + 1) * d : Nat) : Rat) := by
      rw [Rat.natCast_mul, Rat.natCast_add]; rfl
    rw [e1] at l2
    have l2' := Rat.natCast_lt_natCast.1 l2
    have : n / d = k := by
      rw [Nat.div_eq_iff hp]
      constructor
      · exact l1'
      · have := Nat.add_mul k 1 d; omega
    rw [this]
    simp [signed]

/-- the word of the scale's factor -/
def scaleWord (S : Nat) : Nat := 0x3FF71547652B82FE + S * 2 ^ 52

theorem is_scale (S : Nat) (h : S ≤ 20) : Is (scaleWord S) (v_le * p2 S) := by
  have h1 := is_word (1023 + S) 0x71547652B82FE (by omega) (by omega) (by decide)
  have e : (1023 + S) * 2 ^ 52 + 0x71547652B82FE = scaleWord S := by unfold scaleWord; omega
  rw [e] at h1
  have e2 : ((2 ^ 52 + 0x71547652B82FE : Nat) : Rat) * p2 (((1023 + S : Nat) : Int) - 1075) = v_le * p2 S := by
    rw [show (((1023 + S : Nat) : Int) - 1075) = (S : Int) + -52 from by omega, p2_add]
    have : ((2 ^ 52 + 0x71547652B82FE : Nat) : Rat) * p2 (-52) = v_le := by decide +kernel
    rw [← this]; grind
  rw [e2] at h1
  exact h1

/-- the arithmetic of the last product -/
theorem fault {c e cp P : Rat} (hP : 1 ≤ P) (c1 : -(100 * (1 / 2251799813685248)) ≤ c - (e - (LN : Rat)) / 38685626227668133590597632) (c2 : c - (e - (LN : Rat)) / 38685626227668133590597632 ≤ 100 * (1 / 2251799813685248))
    (h0 : 0 ≤ e) (h1 : e ≤ (LN : Rat)) (p1 : -(P / 4503599627370496) ≤ cp - c * (v_le * P)) (p2 : cp - c * (v_le * P) ≤ P / 4503599627370496) :
    ∃ y, cp = y * P ∧ e - 7000000000000 ≤ (LN : Rat) * (1 + y) ∧ (LN : Rat) * (1 + y) ≤ e + 7000000000000 := by
  refine ⟨cp / P, by grind, ?_⟩
  have hy : cp / P * P = cp := by grind
  generalize cp / P = y at *
  subst hy
  have q1 : -(1 / 4503599627370496) ≤ y - c * v_le := by
    refine Rat.not_lt.1 fun h' => ?_
    have := Rat.mul_pos (a := -(1 / 4503599627370496) - (y - c * v_le)) (b := P) (by grind) (by grind)
    grind
  have q2 : y - c * v_le ≤ 1 / 4503599627370496 := by
    refine Rat.not_lt.1 fun h' => ?_
    have := Rat.mul_pos (a := (y - c * v_le) - 1 / 4503599627370496) (b := P) (by grind) (by grind)
    grind
  have eL : (LN : Rat) = 26814832747904039722237046 := rfl
  have eV : v_le = 3248660424278399 / 2251799813685248 := by decide +kernel
  clear p1 p2
  rw [eL] at c1 c2 h1 ⊢
  rw [eV] at q1 q2
  constructor <;> grind

theorem el_range (y : Rat) (h1 : 1 ≤ y) (h2 : y ≤ 2) : 0 ≤ el y ∧ el y ≤ (LN : Rat) := by
  unfold el
  have eL : (LN : Rat) = 26814832747904039722237046 := rfl
  have q0 : pev Q 0 = 0 := by decide +kernel
  split
  · rename_i hc
    have s0 : 0 ≤ sv y := le_sv (by grind) (by grind)
    have s2 : sv y ≤ 173/1000 := sv_le (by grind) (by unfold CC at hc; grind)
    have q := Q_ge (sv y) s0
    have l := lip_Q (sv y) 0 (by grind) (by grind) (by grind)
    constructor <;> grind
  · rename_i hc
    have hc' : CC < y := Rat.not_le.1 hc
    have s1 : sv (y / 2) ≤ 0 := sv_le (by grind) (by grind)
    have s2 : -(173/1000) ≤ sv (y / 2) := le_sv (by grind) (by unfold CC at hc'; grind)
    have q := Q_ge (-sv (y / 2)) (by grind)
    rw [odd_Q] at q
    have l := lip_Q 0 (sv (y / 2)) (by grind) (by grind) (by grind)
    constructor <;> grind

theorem log_x (m : Nat) : (((2 ^ 52 + m) * 2048 : Nat) : Rat) / U = ((2 ^ 53 + 2 * m : Nat) : Rat) / 9007199254740992 := by
  have e1 : (((2 ^ 52 + m) * 2048 : Nat) : Rat) = ((2 ^ 52 + m : Nat) : Rat) * 2048 := by rw [Rat.natCast_mul]; rfl
  have e2 : ((2 ^ 53 + 2 * m : Nat) : Rat) = ((2 ^ 52 + m : Nat) : Rat) * 2 := by
    rw [show 2 ^ 53 + 2 * m = (2 ^ 52 + m) * 2 from by omega, Rat.natCast_mul]; rfl
  rw [e1, e2]; unfold U; grind

theorem q_lo {k z D y cp q r : Rat} (d1 : k < z * D * (1 + y)) (ek : k = D * q + r) (hr0 : 0 ≤ r) (hD : 0 < D) (hy : cp = y * z) : q < z + cp := by
  refine Rat.not_le.1 fun h' => ?_
  have := Rat.mul_le_mul_of_nonneg_right (c := D) h' (Rat.le_of_lt hD)
  subst hy
  grind
theorem q_hi {k z D y cp q r : Rat} (d1 : z * D * (1 + y) < k + 1) (ek : k = D * q + r) (hr0 : r + 1 ≤ D) (hD : 0 < D) (hy : cp = y * z) : z + cp < q + 1 := by
  refine Rat.not_le.1 fun h' => ?_
  have := Rat.mul_le_mul_of_nonneg_right (c := D) h' (Rat.le_of_lt hD)
  subst hy
  grind

/-- THE BUCKET OF A FRACTION AT A SCALE: what the program reckons by a logarithm is what the digits by squares say. -/
theorem bin_float (m : Nat) (h0 : 0 < m) (hm : m < 2 ^ 52) (top S : Nat) (hS : S ≤ top) (ht : top ≤ 20)
    (n1 : 2 ^ 63 + 2 ^ 43 ≤ (sqs top ((2 ^ 52 + m) * 2048)).2) (n2 : (sqs top ((2 ^ 52 + m) * 2048)).2 ≤ 2 ^ 64 - 1 - 2 ^ 43) :
    ∃ w P, Go.Extern.MathLog.archLog #[.float .f64 (1022 * 2 ^ 52 + m)] = Go.Sem.pure (.float .f64 w) ∧ Go.floatBits .mul .f64 w (scaleWord S) = some P ∧
      Go.floatToIntVal .f64 P .i32 = some ((((sqs top ((2 ^ 52 + m) * 2048)).1 / 2 ^ (top - S) : Nat) : Int) + 1 - ((2 ^ S : Nat) : Int)) := by
  obtain ⟨w, hw, c, hc, c1, c2⟩ := archLog_near m h0 hm
  rw [e51] at c1 c2
  have hx1 : 2 ^ 63 ≤ (2 ^ 52 + m) * 2048 := by omega
  have hx2 : (2 ^ 52 + m) * 2048 < 2 ^ 64 := by omega
  obtain ⟨-, -, hk⟩ := sqs_range top _ hx1 hx2
  have dg := digits top _ ht hx1 hx2 n1 n2
  rw [log_x m] at dg
  have hr := el_range (((2 ^ 53 + 2 * m : Nat) : Rat) / 9007199254740992) (by
      have : 2 ^ 53 ≤ 2 ^ 53 + 2 * m := by omega
      have := Rat.natCast_le_natCast.2 this
      rw [le_div_iff' (by decide)]; grind) (by
      have : 2 ^ 53 + 2 * m ≤ 2 ^ 54 := by omega
      have := Rat.natCast_le_natCast.2 this
      rw [div_le_iff' (by decide)]; grind)
  clear n1 n2 hx1 hx2
  generalize el (((2 ^ 53 + 2 * m : Nat) : Rat) / 9007199254740992) = e at *
  generalize (sqs top ((2 ^ 52 + m) * 2048)).1 = k at *
  -- the product
  have hP1 : 1 ≤ p2 S := by have := p2_le (i := 0) (j := (S : Int)) (by omega); rw [p2_zero] at this; exact this
  have eL : (LN : Rat) = 26814832747904039722237046 := rfl
  have eV : v_le = 3248660424278399 / 2251799813685248 := by decide +kernel
  have hcl : -1 ≤ c ∧ c ≤ 1 := by
    rw [eL] at c1 c2 hr
    constructor <;> grind
  have hcm := abs_mul_le (a := c) (A := 1) (b := v_le * p2 S) (B := 2 * p2 S) hcl.1 hcl.2 (by rw [eV]; grind) (by rw [eV]; grind)
  have eK : p2 ((S : Int) + 1) = 2 * p2 S := by rw [p2_add, p2_one]; grind
  have eK2 : p2 ((S : Int) + 1 - 53) = p2 S / 4503599627370496 := by
    rw [show (S : Int) + 1 - 53 = (S : Int) + -52 from by omega, p2_add]
    have : p2 (-52) = 1 / 4503599627370496 := by decide +kernel
    rw [this]; grind
  obtain ⟨P, cp, hP, hcp, p1, p2'⟩ := mul_err hc (is_scale S (by omega)) ((S : Int) + 1) (by rw [eK]; grind) (by rw [eK]; grind) (by omega) (by omega)
  rw [eK2] at p1 p2'
  obtain ⟨y, hy, g1, g2⟩ := fault hP1 c1 c2 hr.1 hr.2 p1 p2'
  obtain ⟨d1, d2⟩ := dg _ g1 g2
  refine ⟨w, P, hw, hP, ?_⟩
  -- k < 2^top (1 + y) < k + 1
  have eT : (2 : Rat) ^ top = p2 S * (((2 ^ (top - S) : Nat)) : Rat) := by
    have : (2 : Rat) ^ top = p2 (top : Int) := by rw [p2_nat, Rat.natCast_pow]; rfl
    rw [this, ← p2_nat, ← p2_add]; congr 1; omega
  have hDpos : 0 < 2 ^ (top - S) := Nat.two_pow_pos _
  have hkD : k / 2 ^ (top - S) < 2 ^ S := by
    rw [Nat.div_lt_iff_lt_mul hDpos, ← Nat.pow_add, show S + (top - S) = top from by omega]; exact hk
  rw [eT] at d1 d2
  have hDp : (0 : Rat) < ((2 ^ (top - S) : Nat) : Rat) := by
    have := Rat.natCast_lt_natCast.2 hDpos; exact this
  have hdm := Nat.div_add_mod k (2 ^ (top - S))
  have hml := Nat.mod_lt k hDpos
  generalize hD : 2 ^ (top - S) = D at *
  generalize hq : k / D = q at *
  generalize k % D = rr at *
  have d1' : (k : Rat) < p2 S * (D : Rat) * (1 + y) := by
    refine Rat.not_le.1 fun h' => ?_
    have := Rat.mul_le_mul_of_nonneg_right (c := (LN : Rat)) h' (by rw [eL]; decide)
    grind
  have d2' : p2 S * (D : Rat) * (1 + y) < (k : Rat) + 1 := by
    refine Rat.not_le.1 fun h' => ?_
    have := Rat.mul_le_mul_of_nonneg_right (c := (LN : Rat)) h' (by rw [eL]; decide)
    grind
  -- (q : Rat) < p2 S + cp < q + 1
  have ek : (k : Rat) = (D : Rat) * (q : Rat) + (rr : Rat) := by rw [← hdm, Rat.natCast_add, Rat.natCast_mul]
  have hr0 : (0 : Rat) ≤ (rr : Rat) := Rat.natCast_nonneg
  have hr1 : (rr : Rat) + 1 ≤ (D : Rat) := by
    have : rr + 1 ≤ D := by omega
    have := Rat.natCast_le_natCast.2 this
    rw [Rat.natCast_add] at this; exact this
  have q1 : (q : Rat) < p2 S + cp := q_lo d1' ek hr0 hDp hy
  have q2 : p2 S + cp < (q : Rat) + 1 := q_hi d2' ek hr1 hDp hy
  have eS : p2 S = ((2 ^ S : Nat) : Rat) := p2_nat S
  have h20 : 2 ^ S ≤ 2 ^ 20 := Nat.pow_le_pow_right (by decide) (by omega)
  rw [eS] at q1 q2
  generalize 2 ^ S = Z at *
  have cast1 : (((q : Int) + 1 - (Z : Int) : Int) : Rat) = (q : Rat) + 1 - (Z : Rat) := by
    rw [Rat.intCast_sub, Rat.intCast_add, Rat.intCast_natCast, Rat.intCast_natCast]; rfl
  have cast2 : (((q : Int) + 1 - (Z : Int) - 1 : Int) : Rat) = (q : Rat) - (Z : Rat) := by
    rw [show (q : Int) + 1 - (Z : Int) - 1 = (q : Int) - (Z : Int) from by omega, Rat.intCast_sub, Rat.intCast_natCast, Rat.intCast_natCast]
  have ht := trunc_neg hcp ((q : Int) + 1 - (Z : Int)) (by omega) (by rw [cast2]; grind) (by rw [cast1]; grind)
  unfold Go.floatToIntVal
  have hf : Go.FloatKind.decode .f64 P = double.read P := rfl
  rw [hf, ht]
  dsimp only
  rw [if_pos]
  constructor
  · show (-2147483648 : Int) ≤ _; omega
  · show _ ≤ (2147483647 : Int); omega
end Go.Proofs.YtlpddogcnpokfaaGreat.Lg
