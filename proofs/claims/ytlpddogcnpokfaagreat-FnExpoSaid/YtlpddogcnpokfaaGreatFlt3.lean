/- The same in units of 2^-51, for numbers of magnitude at most 3; words and the numbers they stand for. -/
import Derived.Test.YtlpddogcnpokfaaGreatFlt2
namespace Go.Proofs.YtlpddogcnpokfaaGreat.Lg
open Ieee

/-- near a number, in units of 2^-51 -/
def A (w : Nat) (p : Rat) (n : Rat) : Prop := ∃ c, Is w c ∧ -(n * p2 (-51)) ≤ c - p ∧ c - p ≤ n * p2 (-51)

theorem e51 : p2 (-51) = 1 / 2251799813685248 := by decide +kernel
theorem e2 : p2 2 = 4 := by decide +kernel
theorem e251 : p2 (2 - 53) = p2 (-51) := by decide +kernel

theorem A.of_is {w : Nat} {c : Rat} (h : Is w c) : A w c 0 := ⟨c, h, by grind, by grind⟩
theorem A.weak {w : Nat} {p n m : Rat} (h : A w p n) (hm : n ≤ m) : A w p m := by
  obtain ⟨c, h1, h2, h3⟩ := h
  refine ⟨c, h1, ?_⟩
  rw [e51] at *
  constructor <;> grind

theorem A.add {x y : Nat} {p q n m : Rat} (hx : A x p n) (hy : A y q m) (h1 : -3 ≤ p + q) (h2 : p + q ≤ 3) (hn : n ≤ 1000) (hm : m ≤ 1000) :
    ∃ w, double.add x y = some w ∧ A w (p + q) (n + m + 1) := by
  obtain ⟨a, ha, a1, a2⟩ := hx
  obtain ⟨b, hb, b1, b2⟩ := hy
  rw [e51] at a1 a2 b1 b2
  obtain ⟨w, c, hw, hc, c1, c2⟩ := add_err ha hb 2 (by rw [e2]; grind) (by rw [e2]; grind) (by decide) (by decide)
  rw [e251, e51] at c1 c2
  refine ⟨w, hw, c, hc, ?_⟩
  rw [e51]
  constructor <;> grind

theorem A.sub {x y : Nat} {p q n m : Rat} (hx : A x p n) (hy : A y q m) (h1 : -3 ≤ p - q) (h2 : p - q ≤ 3) (hn : n ≤ 1000) (hm : m ≤ 1000) :
    ∃ w, double.sub x y = some w ∧ A w (p - q) (n + m + 1) := by
  obtain ⟨a, ha, a1, a2⟩ := hx
  obtain ⟨b, hb, b1, b2⟩ := hy
  rw [e51] at a1 a2 b1 b2
  obtain ⟨w, c, hw, hc, c1, c2⟩ := sub_err ha hb 2 (by rw [e2]; grind) (by rw [e2]; grind) (by decide) (by decide)
  rw [e251, e51] at c1 c2
  refine ⟨w, hw, c, hc, ?_⟩
  rw [e51]
  constructor <;> grind

theorem A.mul {x y : Nat} {p q n m : Rat} (P R : Rat) (hx : A x p n) (hy : A y q m) (hp1 : -P ≤ p) (hp2 : p ≤ P) (hq1 : -R ≤ q) (hq2 : q ≤ R)
    (hn : n ≤ 1000) (hm : m ≤ 1000) (hPR : P * R ≤ 2) (hP : P ≤ 2) (hR : R ≤ 2) :
    ∃ w, double.mul x y = some w ∧ A w (p * q) (n * R + m * P + 2) := by
  obtain ⟨a, ha, a1, a2⟩ := hx
  obtain ⟨b, hb, b1, b2⟩ := hy
  rw [e51] at a1 a2 b1 b2
  have hn0 : 0 ≤ n := by grind
  have hm0 : 0 ≤ m := by grind
  have hP0 : 0 ≤ P := by grind
  have hR0 : 0 ≤ R := by grind
  -- a b - p q = (a - p) q + p (b - q) + (a - p) (b - q)
  have k1 := abs_mul_le (a := a - p) (A := n * (1 / 2251799813685248)) (b := q) (B := R) (by grind) (by grind) hq1 hq2
  have k2 := abs_mul_le (a := p) (A := P) (b := b - q) (B := m * (1 / 2251799813685248)) hp1 hp2 (by grind) (by grind)
  have k3 := abs_mul_le (a := a - p) (A := 1000 * (1 / 2251799813685248)) (b := b - q) (B := 1000 * (1 / 2251799813685248)) (by grind) (by grind) (by grind) (by grind)
  have k4 := abs_mul_le hp1 hp2 hq1 hq2
  have l1 := Rat.mul_le_mul_of_nonneg_right (c := R) hn hR0
  have l2 := Rat.mul_le_mul_of_nonneg_right (c := P) hm hP0
  have e : a * b = (a - p) * q + p * (b - q) + (a - p) * (b - q) + p * q := by grind
  obtain ⟨w, c, hw, hc, c1, c2⟩ := mul_err ha hb 2 (by rw [e2, e]; grind) (by rw [e2, e]; grind) (by decide) (by decide)
  rw [e251, e51] at c1 c2
  refine ⟨w, hw, c, hc, ?_⟩
  rw [e51]
  rw [e] at c1 c2
  constructor <;> grind

/-- a normal word -/
theorem is_word (e m : Nat) (he : 1 ≤ e) (he2 : e ≤ 2046) (hm : m < 2 ^ 52) : Is (e * 2 ^ 52 + m) (((2 ^ 52 + m : Nat) : Rat) * p2 ((e : Int) - 1075)) := by
  refine ⟨false, 2 ^ 52 + m, (e : Int) - 1075, ?_, by unfold sg; simp⟩
  unfold Format.read
  rw [sign_eq, least_eq, binade_eq, inf_eq]
  have h1 : (e * 2 ^ 52 + m) / 2 ^ 63 % 2 = 0 := by omega
  have h2 : (e * 2 ^ 52 + m) % 2 ^ 63 = e * 2 ^ 52 + m := by omega
  rw [h1, h2]
  dsimp only
  rw [if_neg (by omega), if_pos (by omega)]
  have h3 : (e * 2 ^ 52 + m) % 2 ^ 52 = m := by omega
  have h4 : (((e * 2 ^ 52 + m) / 2 ^ 52 - 1 : Nat) : Int) = (e : Int) - 1 := by omega
  rw [h3, h4]
  congr 1
  omega

theorem is_neg {w : Nat} {v : Rat} (h : Is w v) (hw : w < 2 ^ 63) : Is (w + 2 ^ 63) (-v) := by
  obtain ⟨s, m, i, hr, rfl⟩ := h
  unfold Format.read at hr
  have h1 : w / 2 ^ 63 % 2 = 0 := by omega
  have h2 : w % 2 ^ 63 = w := by omega
  rw [sign_eq, least_eq, binade_eq, inf_eq, h1, h2] at hr
  dsimp only at hr
  have h3 : (w + 2 ^ 63) / 2 ^ 63 % 2 = 1 := by omega
  have h4 : (w + 2 ^ 63) % 2 ^ 63 = w := by omega
  refine ⟨true, m, i, ?_, ?_⟩
  · unfold Format.read
    rw [sign_eq, least_eq, binade_eq, inf_eq, h3, h4]
    dsimp only
    split at hr
    · rename_i hc; rw [if_pos hc]; cases hr; rfl
    · rename_i hc; rw [if_neg hc]
      split at hr
      · rename_i hc2; rw [if_pos hc2]; cases hr; rfl
      · split at hr <;> cases hr
  · have : s = false := by
      split at hr
      · cases hr; rfl
      · split at hr
        · cases hr; rfl
        · split at hr <;> cases hr
    subst this
    unfold sg; simp <;> grind

theorem is_zero : Is 0 0 := ⟨false, 0, -1074, by decide +kernel, by decide +kernel⟩

def one : Nat := 0x3FF0000000000000
def two : Nat := 0x4000000000000000
def half : Nat := 0x3FE0000000000000

theorem is_one : Is one 1 := by
  have := is_word 1023 0 (by decide) (by decide) (by decide)
  have e : ((2 ^ 52 + 0 : Nat) : Rat) * p2 ((1023 : Nat) - 1075 : Int) = 1 := by decide +kernel
  rw [e] at this; exact this
theorem is_two : Is two 2 := by
  have := is_word 1024 0 (by decide) (by decide) (by decide)
  have e : ((2 ^ 52 + 0 : Nat) : Rat) * p2 ((1024 : Nat) - 1075 : Int) = 2 := by decide +kernel
  rw [e] at this; exact this
theorem is_half : Is half (1/2) := by
  have := is_word 1022 0 (by decide) (by decide) (by decide)
  have e : ((2 ^ 52 + 0 : Nat) : Rat) * p2 ((1022 : Nat) - 1075 : Int) = 1/2 := by decide +kernel
  rw [e] at this; exact this

end Go.Proofs.YtlpddogcnpokfaaGreat.Lg
