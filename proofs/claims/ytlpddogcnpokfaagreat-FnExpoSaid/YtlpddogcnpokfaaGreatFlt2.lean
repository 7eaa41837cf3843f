/- Sum, difference, product and quotient of doubles are the exact ones within a bounded fault. -/
import Derived.Test.YtlpddogcnpokfaaGreatFlt1
namespace Go.Proofs.YtlpddogcnpokfaaGreat.Lg
open Ieee

def sg (s : Bool) : Rat := if s then -1 else 1

/-- the word stands for the number -/
def Is (w : Nat) (v : Rat) : Prop := ∃ s m i, double.read w = .number s m i ∧ v = sg s * ((m : Rat) * p2 i)

theorem Is.det {w : Nat} {v v' : Rat} (h : Is w v) (h' : Is w v') : v = v' := by
  obtain ⟨s, m, i, h1, rfl⟩ := h
  obtain ⟨s', m', i', h1', rfl⟩ := h'
  rw [h1] at h1'
  cases h1'
  rfl

theorem signed_val (s : Bool) (m up : Nat) : ((signed s m up : Int) : Rat) = sg s * ((m : Rat) * p2 up) := by
  unfold signed sg
  rw [Nat.shiftLeft_eq, p2_nat]
  cases s
  · simp only [Bool.false_eq_true, if_false, Rat.intCast_natCast, Rat.natCast_mul]; grind
  · simp only [if_true, Rat.intCast_neg, Rat.intCast_natCast, Rat.natCast_mul]; grind

theorem sg_natAbs (t : Int) (b : Bool) : sg (if t = 0 then b else decide (t < 0)) * (t.natAbs : Rat) = (t : Rat) := by
  by_cases h : t = 0
  · subst h
    have : (((0 : Int).natAbs : Nat) : Rat) = 0 := rfl
    rw [this]
    have : ((0 : Int) : Rat) = 0 := rfl
    rw [this]; grind
  · rw [if_neg h]
    by_cases h2 : t < 0
    · have e : (t.natAbs : Int) = -t := by omega
      have e2 : ((t.natAbs : Nat) : Rat) = (((t.natAbs : Int)) : Rat) := (Rat.intCast_natCast _).symm
      rw [e2, e, Rat.intCast_neg]
      simp only [h2, decide_true, sg, if_true]; grind
    · have e : (t.natAbs : Int) = t := by omega
      have e2 : ((t.natAbs : Nat) : Rat) = (((t.natAbs : Int)) : Rat) := (Rat.intCast_natCast _).symm
      rw [e2, e]
      simp only [h2, decide_false, sg, Bool.false_eq_true, if_false]; grind

/-- what is written of an exact number -/
theorem write_err (s : Bool) (m : Nat) (i : Int) (v : Rat) (hv : v = sg s * ((m : Rat) * p2 i)) (K : Int) (h1 : -(p2 K) ≤ v) (h2 : v ≤ p2 K) (hlo : -1000 ≤ K) (hhi : K ≤ 1000) :
    ∃ c, Is (double.write (.number s m i)) c ∧ -(p2 (K - 53)) ≤ c - v ∧ c - v ≤ p2 (K - 53) := by
  have hm : (m : Rat) * p2 i ≤ p2 K := by
    unfold sg at hv; cases s <;> simp only [Bool.false_eq_true, if_false, if_true] at hv <;> grind
  obtain ⟨m', i', hr, e1, e2⟩ := nearest_err s m i K hm hlo hhi
  refine ⟨_, ⟨s, m', i', hr, rfl⟩, ?_⟩
  rw [hv]
  unfold sg
  cases s <;> simp only [Bool.false_eq_true, if_false, if_true] <;> grind

theorem add_exact {s t : Bool} {m n : Nat} {i j : Int} :
    ∃ b u k, (Datum.number s m i).sum (.number t n j) = some (.number b u k) ∧ sg b * ((u : Rat) * p2 k) = sg s * ((m : Rat) * p2 i) + sg t * ((n : Rat) * p2 j) := by
  refine ⟨_, _, _, rfl, ?_⟩
  have e := sg_natAbs (signed s m (i - min i j).toNat + signed t n (j - min i j).toNat) (s && t)
  rw [show ∀ a b c : Rat, a * (b * c) = (a * b) * c from by grind, e, Rat.intCast_add, signed_val, signed_val]
  have e1 : p2 i = p2 ((i - min i j).toNat : Int) * p2 (min i j) := by rw [← p2_add]; congr 1; omega
  have e2 : p2 j = p2 ((j - min i j).toNat : Int) * p2 (min i j) := by rw [← p2_add]; congr 1; omega
  rw [e1, e2]; grind

/-- ADD -/
theorem add_err {x y : Nat} {a b : Rat} (hx : Is x a) (hy : Is y b) (K : Int) (h1 : -(p2 K) ≤ a + b) (h2 : a + b ≤ p2 K) (hlo : -1000 ≤ K) (hhi : K ≤ 1000) :
    ∃ w c, double.add x y = some w ∧ Is w c ∧ -(p2 (K - 53)) ≤ c - (a + b) ∧ c - (a + b) ≤ p2 (K - 53) := by
  obtain ⟨s, m, i, hr, rfl⟩ := hx
  obtain ⟨t, n, j, hr', rfl⟩ := hy
  unfold Format.add
  rw [hr, hr']
  obtain ⟨b, u, k, he, hv⟩ := add_exact (s := s) (t := t) (m := m) (n := n) (i := i) (j := j)
  obtain ⟨c, hc, b1, b2⟩ := write_err b u k _ hv.symm K h1 h2 hlo hhi
  exact ⟨_, c, by rw [he]; rfl, hc, b1, b2⟩

/-- SUB -/
theorem sub_err {x y : Nat} {a b : Rat} (hx : Is x a) (hy : Is y b) (K : Int) (h1 : -(p2 K) ≤ a - b) (h2 : a - b ≤ p2 K) (hlo : -1000 ≤ K) (hhi : K ≤ 1000) :
    ∃ w c, double.sub x y = some w ∧ Is w c ∧ -(p2 (K - 53)) ≤ c - (a - b) ∧ c - (a - b) ≤ p2 (K - 53) := by
  obtain ⟨s, m, i, hr, rfl⟩ := hx
  obtain ⟨t, n, j, hr', rfl⟩ := hy
  unfold Format.sub
  rw [hr, hr']
  obtain ⟨b, u, k, he, hv⟩ := add_exact (s := s) (t := !t) (m := m) (n := n) (i := i) (j := j)
  have hv' : sg s * ((m : Rat) * p2 i) - sg t * ((n : Rat) * p2 j) = sg b * ((u : Rat) * p2 k) := by
    rw [hv]; unfold sg; cases t <;> simp <;> grind
  obtain ⟨c, hc, b1, b2⟩ := write_err b u k _ hv' K h1 h2 hlo hhi
  exact ⟨_, c, by unfold Datum.opposite; rw [he]; rfl, hc, b1, b2⟩

theorem sg_mul (s t : Bool) : sg (s ^^ t) = sg s * sg t := by
  unfold sg; cases s <;> cases t <;> decide +kernel

/-- MUL -/
theorem mul_err {x y : Nat} {a b : Rat} (hx : Is x a) (hy : Is y b) (K : Int) (h1 : -(p2 K) ≤ a * b) (h2 : a * b ≤ p2 K) (hlo : -1000 ≤ K) (hhi : K ≤ 1000) :
    ∃ w c, double.mul x y = some w ∧ Is w c ∧ -(p2 (K - 53)) ≤ c - a * b ∧ c - a * b ≤ p2 (K - 53) := by
  obtain ⟨s, m, i, hr, rfl⟩ := hx
  obtain ⟨t, n, j, hr', rfl⟩ := hy
  unfold Format.mul
  rw [hr, hr']
  have hv : sg s * ((m : Rat) * p2 i) * (sg t * ((n : Rat) * p2 j)) = sg (s ^^ t) * (((m * n : Nat) : Rat) * p2 (i + j)) := by
    rw [sg_mul, Rat.natCast_mul, p2_add]; grind
  obtain ⟨c, hc, b1, b2⟩ := write_err (s ^^ t) (m * n) (i + j) _ hv K h1 h2 hlo hhi
  exact ⟨_, c, rfl, hc, b1, b2⟩

/-- DIV: a quotient of magnitude at most 2^K (K ≤ 0 here) -/
theorem div_err {x y : Nat} {a b : Rat} (hx : Is x a) (hy : Is y b) (q : Rat) (hq : q * b = a) (hb : 1 ≤ b) (hq1 : -(1/2) ≤ q) (hq2 : q ≤ 1/2) :
    ∃ w c, double.div x y = some w ∧ Is w c ∧ -(p2 (-51)) ≤ c - q ∧ c - q ≤ p2 (-51) := by
  obtain ⟨s, m, i, hr, rfl⟩ := hx
  obtain ⟨t, n, j, hr', rfl⟩ := hy
  have ht : t = false := by
    cases t with
    | false => rfl
    | true =>
      have h1 : (0 : Rat) ≤ (n : Rat) * p2 j := Rat.mul_nonneg Rat.natCast_nonneg (Rat.le_of_lt (p2_pos _))
      unfold sg at hb; simp only [if_true] at hb; grind
  subst ht
  have hn : n ≠ 0 := by
    intro h0; subst h0
    have e : ((0 : Nat) : Rat) = 0 := rfl
    rw [e] at hb; grind
  unfold Format.div
  rw [hr, hr']
  simp only [Datum.quotient, hn, if_false]
  have ef : double.fractionBits = 52 := rfl
  rw [ef]
  generalize hmore : 52 + 2 + n.log2 - m.log2 = more
  have hdm := Nat.div_add_mod (m <<< more) n
  have hml := Nat.mod_lt (m <<< more) (Nat.pos_of_ne_zero hn)
  rw [Nat.shiftLeft_eq] at hdm hml ⊢
  generalize hD : m * 2 ^ more / n = d at *
  generalize hR : m * 2 ^ more % n = r at *
  have hnp : (0 : Rat) < (n : Rat) := by
    have := Rat.natCast_lt_natCast.2 (Nat.pos_of_ne_zero hn)
    exact this
  have hst : (r != 0).toNat ≤ 1 := by cases (r != 0) <;> decide
  have hst0 : (r != 0).toNat = 0 → r = 0 := by
    by_cases h : r = 0
    · intro _; exact h
    · intro h'; have : (r != 0) = true := by simpa using h
      rw [this] at h'; cases h'
  generalize hS : (r != 0).toNat = st at *
  -- the exact quotient's magnitude z: z * n = m * 2^(i-j)
  have hz : ∃ z : Rat, q = sg s * z ∧ z * (n : Rat) = (m : Rat) * p2 (i - j) ∧ 0 ≤ z ∧ z ≤ 1/2 := by
    refine ⟨sg s * q, ?_, ?_, ?_⟩
    · unfold sg; cases s <;> simp <;> grind
    · have e1 : p2 i = p2 (i - j) * p2 j := by rw [← p2_add]; congr 1; omega
      have hpj := p2_pos j
      rw [e1] at hq
      simp only [sg, Bool.false_eq_true, if_false] at hq
      have hs : sg s * sg s = 1 := by unfold sg; cases s <;> simp <;> grind
      have : (sg s * q * (n : Rat) - (m : Rat) * p2 (i - j)) * p2 j = 0 := by
        unfold sg at *; cases s <;> simp at hq ⊢ <;> grind
      rcases Rat.mul_eq_zero.1 this with h | h <;> grind
    · have hpos : 0 ≤ sg s * q := by
        have h0 : (0 : Rat) ≤ (m : Rat) * p2 i := Rat.mul_nonneg Rat.natCast_nonneg (Rat.le_of_lt (p2_pos _))
        simp only [sg, Bool.false_eq_true, if_false] at hq hb
        refine Rat.not_lt.1 fun h' => ?_
        have hp := Rat.mul_pos (a := -(sg s * q)) (b := 1 * ((n : Rat) * p2 j)) (by grind) (by grind)
        unfold sg at hp; cases s <;> simp at hp hq <;> grind
      refine ⟨hpos, ?_⟩
      unfold sg; cases s <;> simp <;> grind
  obtain ⟨z, hqz, hzn, hz0, hz1⟩ := hz
  -- the value that is written
  have hwv : ((2 * d + st : Nat) : Rat) * p2 (i - j - (more : Int) - 1) - z ≤ p2 (-54) ∧ -(p2 (-54)) ≤ ((2 * d + st : Nat) : Rat) * p2 (i - j - (more : Int) - 1) - z := by
    have c1 : ((n * d + r : Nat) : Rat) = ((m * 2 ^ more : Nat) : Rat) := by rw [hdm]
    simp only [Rat.natCast_add, Rat.natCast_mul, ← p2_nat] at c1
    have cr := Rat.natCast_lt_natCast.2 hml
    have cs := Rat.natCast_le_natCast.2 hst
    have cs0 : (0 : Rat) ≤ (st : Rat) := Rat.natCast_nonneg
    have cr0 : (0 : Rat) ≤ (r : Rat) := Rat.natCast_nonneg
    simp only [Rat.natCast_add, Rat.natCast_mul]
    have e2 : ((2 : Nat) : Rat) = 2 := rfl
    have e1 : ((1 : Nat) : Rat) = 1 := rfl
    rw [e1] at cs
    rw [e2]
    have ep : p2 (i - j) = 2 * p2 (more : Int) * p2 (i - j - (more : Int) - 1) := by
      rw [show (i - j) = 1 + (more : Int) + (i - j - (more : Int) - 1) from by omega, p2_add, p2_add, p2_one]
      congr 2; omega
    have hpe := p2_pos (i - j - (more : Int) - 1)
    -- n * (value - z) = (st * n - 2 r) * e
    have key : (n : Rat) * ((2 * (d : Rat) + (st : Rat)) * p2 (i - j - (more : Int) - 1) - z) = ((st : Rat) * (n : Rat) - 2 * (r : Rat)) * p2 (i - j - (more : Int) - 1) := by
      rw [ep] at hzn; grind
    -- the unit is small: e ≤ 2^-54 as z ≤ 1/2
    have hsmall : p2 (i - j - (more : Int) - 1) ≤ p2 (-54) ∨ (m = 0) := by
      by_cases hm : m = 0
      · exact .inr hm
      · left
        have hb1 := bit_lo m hm
        have hb2 : n < 2 ^ (n.log2 + 1) := Nat.lt_log2_self
        have c3 := Rat.natCast_le_natCast.2 hb1
        have c4 := Rat.natCast_lt_natCast.2 hb2
        rw [← p2_nat] at c3 c4
        have c5 := Rat.mul_le_mul_of_nonneg_right (c := p2 (i - j)) c3 (Rat.le_of_lt (p2_pos _))
        rw [← p2_add] at c5
        have c6 : z * (n : Rat) ≤ 1/2 * (n : Rat) := Rat.mul_le_mul_of_nonneg_right hz1 (Rat.le_of_lt hnp)
        have e4 : p2 ((n.log2 + 1 : Nat) : Int) = 2 * p2 (n.log2 : Int) := by
          rw [show ((n.log2 + 1 : Nat) : Int) = 1 + (n.log2 : Int) from by omega, p2_add, p2_one]
        have c7 : p2 ((m.log2 : Int) + (i - j)) < p2 (n.log2 : Int) := by grind
        have c8 := p2_lt_iff.1 c7
        exact p2_le (by omega)
    have k1 : (st : Rat) * (n : Rat) ≤ 1 * (n : Rat) := Rat.mul_le_mul_of_nonneg_right cs (Rat.le_of_lt hnp)
    have k0 : 0 ≤ (st : Rat) * (n : Rat) := Rat.mul_nonneg cs0 (Rat.le_of_lt hnp)
    have k2 : 2 * (r : Rat) - (st : Rat) * (n : Rat) ≤ (n : Rat) := by
      rcases Nat.lt_or_ge 0 st with h | h
      · have : st = 1 := by omega
        subst this
        rw [e1]; grind
      · have h0 : st = 0 := by omega
        have : r = 0 := hst0 h0
        subst this; subst h0
        have e0 : ((0 : Nat) : Rat) = 0 := rfl
        rw [e0]; grind
    generalize (2 * (d : Rat) + (st : Rat)) * p2 (i - j - (more : Int) - 1) - z = err at *
    generalize p2 (i - j - (more : Int) - 1) = e at *
    rcases hsmall with he | hm
    · have m1 := Rat.mul_le_mul_of_nonneg_right (c := e) (show (st : Rat) * (n : Rat) - 2 * (r : Rat) ≤ (n : Rat) by grind) (Rat.le_of_lt hpe)
      have m2 := Rat.mul_le_mul_of_nonneg_right (c := e) (show -(n : Rat) ≤ (st : Rat) * (n : Rat) - 2 * (r : Rat) by grind) (Rat.le_of_lt hpe)
      have l1 : (n : Rat) * err ≤ (n : Rat) * e := by grind
      have l2 : (n : Rat) * (-e) ≤ (n : Rat) * err := by grind
      have l1' := Rat.le_of_mul_le_mul_left l1 hnp
      have l2' := Rat.le_of_mul_le_mul_left l2 hnp
      constructor <;> grind
    · subst hm
      have hr0 : r = 0 := by rw [← hR, Nat.zero_mul, Nat.zero_mod]
      have hst' : st = 0 := by rw [← hS, hr0]; rfl
      subst hr0; subst hst'
      have e0 : ((0 : Nat) : Rat) = 0 := rfl
      rw [e0] at key
      have hz' : (n : Rat) * err = 0 := by grind
      have h54 := p2_pos (-54)
      rcases Rat.mul_eq_zero.1 hz' with h | h
      · grind
      · rw [h]; constructor <;> grind
  have h54 : p2 (-54) ≤ 1/4 := by decide +kernel
  have h53 : p2 (0 - 53) + p2 (-54) ≤ p2 (-51) := by decide +kernel
  obtain ⟨c, hc, b1, b2⟩ := write_err (s ^^ false) (2 * d + st) (i - j - (more : Int) - 1) (sg s * (((2 * d + st : Nat) : Rat) * p2 (i - j - (more : Int) - 1)))
    (by rw [Bool.xor_false]) 0 (by rw [p2_zero]; unfold sg; cases s <;> simp only [Bool.false_eq_true, if_false, if_true] <;> grind)
    (by rw [p2_zero]; unfold sg; cases s <;> simp only [Bool.false_eq_true, if_false, if_true] <;> grind) (by decide) (by decide)
  refine ⟨_, c, rfl, hc, ?_⟩
  rw [hqz]
  have hsv : sg s = 1 ∨ sg s = -1 := by unfold sg; cases s <;> simp
  rcases hsv with h | h <;> rw [h] at b1 b2 ⊢ <;> constructor <;> grind
end Go.Proofs.YtlpddogcnpokfaaGreat.Lg
