/- The logarithm of a number from 1 to 2 as the program reckons it: what a square does to it, within a bound. -/
import Derived.Test.YtlpddogcnpokfaaGreatLog1
namespace Go.Proofs.YtlpddogcnpokfaaGreat.Lg

/-- twice the least number of the program's half of the square root of two -/
def CC : Rat := 6369051672525773 / 4503599627370496

def sv (x : Rat) : Rat := (x - 1) / (x + 1)

/-- 2^85 times the logarithm of a number from 1 to 2, as the program reckons it -/
def el (x : Rat) : Rat := if x ≤ CC then pev Q (sv x) else (LN : Rat) + pev Q (sv (x / 2))

theorem div_le_iff' {a b c : Rat} (hb : 0 < b) : a / b ≤ c ↔ a ≤ c * b := by
  have := Rat.lt_div_iff (a := c) (b := a) hb
  constructor
  · intro h; exact Rat.not_lt.1 fun h' => by have := this.2 h'; grind
  · intro h; exact Rat.not_lt.1 fun h' => by have := this.1 h'; grind
theorem le_div_iff' {a b c : Rat} (hb : 0 < b) : c ≤ a / b ↔ c * b ≤ a := by
  have := Rat.div_lt_iff (a := a) (c := c) hb
  constructor
  · intro h; exact Rat.not_lt.1 fun h' => by have := this.2 h'; grind
  · intro h; exact Rat.not_lt.1 fun h' => by have := this.1 h'; grind

theorem sv_sq (x : Rat) (h : 0 < x) : sv (x * x) = 2 * sv x / (1 + sv x * sv x) := by
  have := sq_nonneg x
  have h2 := sq_nonneg (x - 1)
  have hs := sq_nonneg (sv x)
  have e : sv x * (x + 1) = x - 1 := by unfold sv; grind
  have e2 : sv (x * x) * (x * x + 1) = x * x - 1 := by unfold sv; grind
  generalize sv x = s at *
  generalize sv (x * x) = t at *
  have e3 : (1 + s * s) * ((x + 1) * (x + 1)) = 2 * (x * x + 1) := by grind
  have e4 : t * (1 + s * s) = 2 * s := by
    have : (t * (1 + s * s) - 2 * s) * ((x + 1) * (x + 1)) = 0 := by grind
    rcases Rat.mul_eq_zero.1 this with h | h
    · grind
    · have : 0 < (x + 1) * (x + 1) := Rat.mul_pos (by grind) (by grind)
      grind
  grind

theorem sv_half_sq (x : Rat) (h : 0 < x) : sv (x * x / 2) = (-1 + 6 * sv x - sv x * sv x) / (3 - 2 * sv x + 3 * sv x * sv x) := by
  have := sq_nonneg x
  have hs := sq_nonneg (sv x - 1/3)
  have e : sv x * (x + 1) = x - 1 := by unfold sv; grind
  have e2 : sv (x * x / 2) * (x * x / 2 + 1) = x * x / 2 - 1 := by unfold sv; grind
  generalize sv x = s at *
  generalize sv (x * x / 2) = t at *
  have e4 : t * (3 - 2 * s + 3 * s * s) = (-1 + 6 * s - s * s) := by
    have : (t * (3 - 2 * s + 3 * s * s) - (-1 + 6 * s - s * s)) * ((x + 1) * (x + 1)) = 0 := by grind
    rcases Rat.mul_eq_zero.1 this with h | h
    · grind
    · have : 0 < (x + 1) * (x + 1) := Rat.mul_pos (by grind) (by grind)
      grind
  grind

theorem sv_inv (x : Rat) (h : 0 < x) : sv (1 / x) = - sv x := by
  have e : sv x * (x + 1) = x - 1 := by unfold sv; grind
  have hx : 1 / x * x = 1 := by grind
  have hp : 0 < 1 / x := by
    have := (Rat.lt_div_iff (a := 0) (b := 1) (c := x) h).2 (by grind); exact this
  have e2 : sv (1 / x) * (1 / x + 1) = 1 / x - 1 := by unfold sv; grind
  generalize 1 / x = y at *
  generalize sv x = s at *
  generalize sv y = t at *
  have : (t + s) * (x + 1) = 0 := by
    have : t * (1 + x) = 1 - x := by
      have h3 : (t * (y + 1)) * x = (y - 1) * x := by rw [e2]
      grind
    grind
  rcases Rat.mul_eq_zero.1 this with h | h <;> grind

/-- bounds of 'sv' -/
theorem sv_le {x c : Rat} (h : 0 < x) (hx : x * (1 - c) ≤ 1 + c) : sv x ≤ c := by
  unfold sv; rw [div_le_iff' (by grind)]; grind
theorem le_sv {x c : Rat} (h : 0 < x) (hx : 1 + c ≤ x * (1 - c)) : c ≤ sv x := by
  unfold sv; rw [le_div_iff' (by grind)]; grind

theorem mul_mono {a b c d : Rat} (h0 : 0 ≤ a) (h1 : a ≤ b) (h2 : 0 ≤ c) (h3 : c ≤ d) : a * c ≤ b * d := by
  have p := Rat.mul_nonneg (a := b - a) (b := d) (by grind) (by grind)
  have p2 := Rat.mul_nonneg (a := a) (b := d - c) (by grind) (by grind)
  grind

/-- a square at most that of a number above 0 -/
theorem le_of_sq_le {a b : Rat} (hb : 0 ≤ b) (h : a * a ≤ b * b) : a ≤ b := by
  refine Rat.not_lt.1 fun h' => ?_
  have p := Rat.mul_pos (a := a - b) (b := a + b) (by grind) (by grind)
  grind
theorem lt_of_sq_lt {a b : Rat} (hb : 0 ≤ b) (h : a * a < b * b) : a < b := by
  refine Rat.not_le.1 fun h' => ?_
  have p := Rat.mul_nonneg (a := a - b) (b := a + b) (by grind) (by grind)
  grind

theorem el_lo (x : Rat) (h1 : 1 ≤ x) (h : x * x < 2) : -10300000000000 ≤ 2 * el x - el (x * x) ∧ 2 * el x - el (x * x) ≤ 10300000000000 := by
  have hx : x ≤ CC := le_of_sq_le (by unfold CC; grind) (by unfold CC; grind)
  have e1 : el x = pev Q (sv x) := by unfold el; rw [if_pos hx]
  have hs0 : 0 ≤ sv x := le_sv (by grind) (by grind)
  rw [e1]
  by_cases h2 : x * x ≤ CC
  · have e2 : el (x * x) = pev Q (sv (x * x)) := by unfold el; rw [if_pos h2]
    have hb : x ≤ 11893/10000 := le_of_sq_le (by grind) (by unfold CC at h2; grind)
    have hs1 : sv x ≤ 173/2000 := sv_le (by grind) (by grind)
    have := d1 (sv x) (by grind) hs1
    rw [e2, sv_sq x (by grind)]
    grind
  · have e2 : el (x * x) = (LN : Rat) + pev Q (sv (x * x / 2)) := by unfold el; rw [if_neg h2]
    have hb : 1174/1000 ≤ x := le_of_sq_le (by grind) (by unfold CC at h2; grind)
    have hs1 : 80/1000 ≤ sv x := le_sv (by grind) (by grind)
    have hs2 : sv x ≤ 173/1000 := sv_le (by grind) (by unfold CC at hx; grind)
    have := d2 (sv x) hs1 hs2
    rw [e2, sv_half_sq x (by grind)]
    grind

theorem el_hi (x : Rat) (h1 : 1 ≤ x) (h0 : x < 2) (h : 2 ≤ x * x) :
    -10300000000000 ≤ 2 * el x - (LN : Rat) - el (x * x / 2) ∧ 2 * el x - (LN : Rat) - el (x * x / 2) ≤ 10300000000000 := by
  by_cases hx : x ≤ CC
  · have e1 : el x = pev Q (sv x) := by unfold el; rw [if_pos hx]
    have hm := mul_mono (a := x) (b := CC) (c := x) (d := CC) (by grind) hx (by grind) hx
    have h2 : x * x / 2 ≤ CC := by unfold CC at *; grind
    have e2 : el (x * x / 2) = pev Q (sv (x * x / 2)) := by unfold el; rw [if_pos h2]
    have hb : 1174/1000 ≤ x := le_of_sq_le (by grind) (by grind)
    have hs1 : 80/1000 ≤ sv x := le_sv (by grind) (by grind)
    have hs2 : sv x ≤ 173/1000 := sv_le (by grind) (by unfold CC at hx; grind)
    have := d2 (sv x) hs1 hs2
    rw [e1, e2, sv_half_sq x (by grind)]
    grind
  · have e1 : el x = (LN : Rat) + pev Q (sv (x / 2)) := by unfold el; rw [if_neg hx]
    have hx' : CC < x := Rat.not_le.1 hx
    have hp : 0 < 1 / (x / 2) := by
      have := (Rat.lt_div_iff (a := 0) (b := 1) (c := x / 2) (by grind)).2 (by grind); exact this
    have ei := sv_inv (x / 2) (by grind)
    have ez : 1 / (x / 2) * (x / 2) = 1 := by grind
    by_cases h2 : x * x / 2 ≤ CC
    · have e2 : el (x * x / 2) = pev Q (sv (x * x / 2)) := by unfold el; rw [if_pos h2]
      -- z = 2 / x
      have hzz : 1 / (x / 2) * (1 / (x / 2)) / 2 * (x * x / 2) = 1 := by grind
      have hi : 1 / (x * x / 2) = 1 / (x / 2) * (1 / (x / 2)) / 2 := by
        have h3 : 1 / (x * x / 2) * (x * x / 2) = 1 := by grind
        generalize 1 / (x * x / 2) = p at *
        generalize 1 / (x / 2) * (1 / (x / 2)) / 2 = q at *
        have : (p - q) * (x * x / 2) = 0 := by grind
        rcases Rat.mul_eq_zero.1 this with h | h <;> grind
      have es := sv_inv (x * x / 2) (by grind)
      rw [hi, sv_half_sq _ hp, ei] at es
      have hb : x ≤ 16818/10000 := le_of_sq_le (by grind) (by unfold CC at h2; grind)
      have hs1 : sv (x / 2) ≤ -(80/1000) := sv_le (by grind) (by grind)
      have hs2 : -(173/1000) ≤ sv (x / 2) := le_sv (by grind) (by unfold CC at hx'; grind)
      have := d2 (- sv (x / 2)) (by grind) (by grind)
      rw [es, odd_Q, odd_Q] at this
      rw [e1, e2]
      grind
    · have e2 : el (x * x / 2) = (LN : Rat) + pev Q (sv (x * x / 2 / 2)) := by unfold el; rw [if_neg h2]
      have hb : 16817/10000 ≤ x := le_of_sq_le (by grind) (by unfold CC at h2; grind)
      have hs1 : -(173/2000) ≤ sv (x / 2) := le_sv (by grind) (by grind)
      have hs2 : sv (x / 2) ≤ 0 := sv_le (by grind) (by grind)
      have := d1 (sv (x / 2)) hs1 (by grind)
      rw [e1, e2, show x * x / 2 / 2 = (x / 2) * (x / 2) from by grind, sv_sq _ (by grind)]
      grind
end Go.Proofs.YtlpddogcnpokfaaGreat.Lg
