/- The digits of a logarithm that are found by squares say between which two whole numbers the scaled logarithm lies, where the last square is not near 1 or 2. -/
import Derived.Test.YtlpddogcnpokfaaGreatLog2
namespace Go.Proofs.YtlpddogcnpokfaaGreat.Lg

theorem sv_diff {a b : Rat} (hb : 1/2 ≤ b) (h : b ≤ a) : 0 ≤ sv a - sv b ∧ sv a - sv b ≤ a - b := by
  have e : sv a * (a + 1) = a - 1 := by unfold sv; grind
  have e2 : sv b * (b + 1) = b - 1 := by unfold sv; grind
  generalize sv a = s at *
  generalize sv b = t at *
  have k : (s - t) * ((a + 1) * (b + 1)) = 2 * (a - b) := by grind
  have p : 0 < (a + 1) * (b + 1) := Rat.mul_pos (by grind) (by grind)
  have p2 : 9/4 ≤ (a + 1) * (b + 1) := by
    have := mul_mono (a := 3/2) (b := a + 1) (c := 3/2) (d := b + 1) (by grind) (by grind) (by grind) (by grind)
    grind
  generalize (a + 1) * (b + 1) = d at *
  have h0 : 0 ≤ s - t := by
    refine Rat.not_lt.1 fun h' => ?_
    have := Rat.mul_pos (a := t - s) (b := d) (by grind) p
    grind
  refine ⟨h0, ?_⟩
  have := Rat.mul_nonneg (a := s - t) (b := d - 9/4) h0 (by grind)
  grind

theorem Q_diff {a b : Rat} (hb : 7/10 ≤ b) (h : b ≤ a) (ha : a ≤ 3/2) (hd : a - b ≤ 1/9223372036854775808) :
    -10000000 ≤ pev Q (sv a) - pev Q (sv b) ∧ pev Q (sv a) - pev Q (sv b) ≤ 10000000 := by
  have h1 := sv_diff (a := a) (b := b) (by grind) h
  have l := lip_Q (sv a) (sv b) (le_sv (by grind) (by grind)) (sv_le (by grind) (by grind)) (by grind)
  grind

theorem jump : -300000000 ≤ pev Q (sv CC) - ((LN : Rat) + pev Q (sv (CC / 2))) ∧ pev Q (sv CC) - ((LN : Rat) + pev Q (sv (CC / 2))) ≤ 300000000 := by
  constructor <;> decide +kernel

theorem el_diff {a b : Rat} (hb : 1 ≤ b) (h : b ≤ a) (ha : a < 2) (hd : a - b ≤ 1/9223372036854775808) : -400000000 ≤ el a - el b ∧ el a - el b ≤ 400000000 := by
  by_cases h1 : a ≤ CC
  · have h2 : b ≤ CC := by grind
    unfold el; rw [if_pos h1, if_pos h2]
    have := Q_diff (a := a) (b := b) (by grind) h (by unfold CC at h1; grind) hd
    grind
  · have h1' : CC < a := Rat.not_le.1 h1
    by_cases h2 : b ≤ CC
    · unfold el; rw [if_neg h1, if_pos h2]
      have q1 := Q_diff (a := CC) (b := b) (by grind) h2 (by unfold CC; grind) (by grind)
      have q2 := Q_diff (a := a / 2) (b := CC / 2) (by unfold CC; grind) (by grind) (by grind) (by grind)
      have := jump
      grind
    · have h2' : CC < b := Rat.not_le.1 h2
      unfold el; rw [if_neg h1, if_neg h2]
      have q2 := Q_diff (a := a / 2) (b := b / 2) (by unfold CC at h2'; grind) (by grind) (by grind) (by grind)
      grind

/-- the digits of a logarithm, by squares: 2^63 is 1 -/
def sqs : Nat → Nat → Nat × Nat
  | 0, x => (0, x)
  | n + 1, x =>
    let r := sqs n x
    if 2 ^ 127 ≤ r.2 * r.2 then (2 * r.1 + 1, r.2 * r.2 / 2 ^ 64) else (2 * r.1, r.2 * r.2 / 2 ^ 63)

theorem sqs_range (n x : Nat) (h1 : 2 ^ 63 ≤ x) (h2 : x < 2 ^ 64) : 2 ^ 63 ≤ (sqs n x).2 ∧ (sqs n x).2 < 2 ^ 64 ∧ (sqs n x).1 < 2 ^ n := by
  induction n with
  | zero => exact ⟨h1, h2, by simp [sqs]⟩
  | succ n ih =>
    obtain ⟨i1, i2, i3⟩ := ih
    simp only [sqs]
    generalize (sqs n x).2 = y at *
    generalize (sqs n x).1 = k at *
    have hlo : 2 ^ 63 * 2 ^ 63 ≤ y * y := Nat.mul_le_mul i1 i1
    have hhi : y * y ≤ (2 ^ 64 - 1) * (2 ^ 64 - 1) := Nat.mul_le_mul (by omega) (by omega)
    generalize y * y = z at *
    have : 2 ^ (n + 1) = 2 * 2 ^ n := by rw [Nat.pow_succ]; omega
    split <;> dsimp only <;> refine ⟨?_, ?_, by omega⟩ <;> omega

def U : Rat := 9223372036854775808

/-- one step -/
theorem step_el (y : Nat) (h1 : 2 ^ 63 ≤ y) (h2 : y < 2 ^ 64) :
    let r : Nat × Nat := if 2 ^ 127 ≤ y * y then (1, y * y / 2 ^ 64) else (0, y * y / 2 ^ 63);
    -10301000000000 ≤ 2 * el ((y : Rat) / U) - ((r.1 : Nat) : Rat) * (LN : Rat) - el ((r.2 : Rat) / U) ∧
      2 * el ((y : Rat) / U) - ((r.1 : Nat) : Rat) * (LN : Rat) - el ((r.2 : Rat) / U) ≤ 10301000000000 := by
  have c1 := Rat.natCast_le_natCast.2 h1
  have c2 := Rat.natCast_lt_natCast.2 h2
  have u1 : 1 ≤ (y : Rat) / U := by
    rw [le_div_iff' (by unfold U; decide)]; unfold U; grind
  have u2 : (y : Rat) / U < 2 := by
    rw [Rat.div_lt_iff (by unfold U; decide)]; unfold U; grind
  have eu : (y : Rat) / U * U = y := by unfold U; grind
  dsimp only
  split
  · rename_i hs
    have c3 := Rat.natCast_le_natCast.2 hs
    rw [Rat.natCast_mul] at c3
    have s1 : 2 ≤ (y : Rat) / U * ((y : Rat) / U) := by
      unfold U at *; grind
    have hh := el_hi _ u1 u2 s1
    -- the truncation
    have q1 : y * y / 2 ^ 64 * 2 ^ 64 ≤ y * y := Nat.div_mul_le_self ..
    have q2 : y * y < (y * y / 2 ^ 64 + 1) * 2 ^ 64 := by omega
    have q3 : 2 ^ 63 ≤ y * y / 2 ^ 64 := by omega
    generalize hz : y * y / 2 ^ 64 = z at *
    have d1 := Rat.natCast_le_natCast.2 q1
    have d2 := Rat.natCast_lt_natCast.2 q2
    have d3 := Rat.natCast_le_natCast.2 q3
    simp only [Rat.natCast_mul, Rat.natCast_add] at d1 d2
    have ez : (z : Rat) / U * U = z := by unfold U; grind
    have m := mul_mono (a := (y : Rat) / U) (b := 2) (c := (y : Rat) / U) (d := 2) (by grind) (by grind) (by grind) (by grind)
    have dd := el_diff (a := (y : Rat) / U * ((y : Rat) / U) / 2) (b := (z : Rat) / U) (by unfold U at *; grind) (by unfold U at *; grind) (by
      have := Rat.mul_pos (a := 2 - (y : Rat) / U) (b := 2 + (y : Rat) / U) (by grind) (by grind)
      grind) (by unfold U at *; grind)
    dsimp only
    have e1 : ((1 : Nat) : Rat) = 1 := rfl
    rw [e1]
    grind
  · rename_i hs
    have hs' : y * y < 2 ^ 127 := by omega
    have c3 := Rat.natCast_lt_natCast.2 hs'
    rw [Rat.natCast_mul] at c3
    have s1 : (y : Rat) / U * ((y : Rat) / U) < 2 := by
      unfold U at *; grind
    have hh := el_lo _ u1 s1
    have q1 : y * y / 2 ^ 63 * 2 ^ 63 ≤ y * y := Nat.div_mul_le_self ..
    have q2 : y * y < (y * y / 2 ^ 63 + 1) * 2 ^ 63 := by omega
    have q4 : 2 ^ 63 * 2 ^ 63 ≤ y * y := Nat.mul_le_mul h1 h1
    have q3 : 2 ^ 63 ≤ y * y / 2 ^ 63 := by omega
    generalize hz : y * y / 2 ^ 63 = z at *
    have d1 := Rat.natCast_le_natCast.2 q1
    have d2 := Rat.natCast_lt_natCast.2 q2
    have d3 := Rat.natCast_le_natCast.2 q3
    simp only [Rat.natCast_mul, Rat.natCast_add] at d1 d2
    have ez : (z : Rat) / U * U = z := by unfold U; grind
    have dd := el_diff (a := (y : Rat) / U * ((y : Rat) / U)) (b := (z : Rat) / U) (by unfold U at *; grind) (by unfold U at *; grind) s1 (by unfold U at *; grind)
    dsimp only
    have e1 : ((0 : Nat) : Rat) = 0 := rfl
    rw [e1]
    grind

theorem chain (n x : Nat) (h1 : 2 ^ 63 ≤ x) (h2 : x < 2 ^ 64) :
    -((2 ^ n - 1) * 10301000000000) ≤ 2 ^ n * el ((x : Rat) / U) - (((sqs n x).1 : Nat) : Rat) * (LN : Rat) - el (((sqs n x).2 : Rat) / U) ∧
      2 ^ n * el ((x : Rat) / U) - (((sqs n x).1 : Nat) : Rat) * (LN : Rat) - el (((sqs n x).2 : Rat) / U) ≤ (2 ^ n - 1) * 10301000000000 := by
  induction n with
  | zero =>
    simp only [sqs, Rat.pow_zero]
    have e1 : ((0 : Nat) : Rat) = 0 := rfl
    rw [e1]
    constructor <;> grind
  | succ n ih =>
    obtain ⟨r1, r2, r3⟩ := sqs_range n x h1 h2
    have st := step_el _ r1 r2
    simp only [sqs, Rat.pow_succ]
    generalize (sqs n x).2 = y at *
    generalize (sqs n x).1 = k at *
    generalize (2 : Rat) ^ n = P at *
    split
    · rename_i hc
      rw [if_pos hc] at st
      dsimp only at *
      rw [Rat.natCast_add, Rat.natCast_mul]
      have e1 : ((1 : Nat) : Rat) = 1 := rfl
      have e2 : ((2 : Nat) : Rat) = 2 := rfl
      rw [e1] at *; rw [e2]
      grind
    · rename_i hc
      rw [if_neg hc] at st
      dsimp only at *
      rw [Rat.natCast_mul]
      have e1 : ((0 : Nat) : Rat) = 0 := rfl
      have e2 : ((2 : Nat) : Rat) = 2 := rfl
      rw [e1] at st; rw [e2]
      grind

theorem Q_ge (s : Rat) (h : 0 ≤ s) : 77371252455336267181195264 * s ≤ pev Q s := by
  have n2 := Rat.mul_nonneg h h
  unfold Q; simp only [pev, Rat.intCast_ofNat]
  have m (c : Rat) (hc : 0 ≤ c) (y : Rat) (hy : 0 ≤ y) : 0 ≤ c + s * (0 + s * y) := by
    have := Rat.mul_nonneg n2 hy
    grind
  have m0 : (0 : Rat) ≤ 5724775800803401859596288 + s * 0 := by grind
  have m1 := m 5924254013427871591170048 (by decide) _ m0
  have m2 := m 7034428761281873779359744 (by decide) _ m1
  have m3 := m 8596796625032193597505536 (by decide) _ m2
  have m4 := m 11053036131677770036019200 (by decide) _ m3
  have m5 := m 15474250490838783509921792 (by decide) _ m4
  have m6 := m 25790417485112353916715008 (by decide) _ m5
  have := Rat.mul_nonneg (Rat.mul_nonneg n2 h) m6
  grind

theorem el_margin (y : Nat) (h1 : 2 ^ 63 + 2 ^ 43 ≤ y) (h2 : y ≤ 2 ^ 64 - 1 - 2 ^ 43) :
    18446744073709551616 ≤ el ((y : Rat) / U) ∧ el ((y : Rat) / U) ≤ (LN : Rat) - 18446744073709551616 := by
  have c1 := Rat.natCast_le_natCast.2 h1
  have c2 := Rat.natCast_le_natCast.2 h2
  have u1 : 1048577/1048576 ≤ (y : Rat) / U := by
    rw [le_div_iff' (by unfold U; decide)]; unfold U; grind
  have u2 : (y : Rat) / U ≤ 2097151/1048576 := by
    rw [div_le_iff' (by unfold U; decide)]; unfold U; grind
  generalize (y : Rat) / U = z at *
  unfold el
  split
  · rename_i hc
    have s1 : 1/2097154 ≤ sv z := le_sv (by grind) (by grind)
    have s2 : sv z ≤ 173/1000 := sv_le (by grind) (by unfold CC at hc; grind)
    have q := Q_ge (sv z) (by grind)
    have l := lip_Q (sv z) 0 (by grind) (by grind) (by grind)
    have q0 : pev Q 0 = 0 := by decide +kernel
    have eL : (LN : Rat) = 26814832747904039722237046 := rfl
    grind
  · rename_i hc
    have hc' : CC < z := Rat.not_le.1 hc
    have s1 : sv (z / 2) ≤ -(1/4194303) := sv_le (by grind) (by grind)
    have s2 : -(173/1000) ≤ sv (z / 2) := le_sv (by grind) (by unfold CC at hc'; grind)
    have q := Q_ge (-sv (z / 2)) (by grind)
    rw [odd_Q] at q
    have l := lip_Q 0 (sv (z / 2)) (by grind) (by grind) (by grind)
    have q0 : pev Q 0 = 0 := by decide +kernel
    have eL : (LN : Rat) = 26814832747904039722237046 := rfl
    grind

theorem pow_le_pow20 (n : Nat) (h : n ≤ 20) : 1 ≤ (2 : Rat) ^ n ∧ (2 : Rat) ^ n ≤ 1048576 := by
  refine ⟨pow_ge_one (by decide) n, ?_⟩
  have : (2 : Rat) ^ n * 2 ^ (20 - n) = 1048576 := by
    have e : ∀ a b : Nat, (2 : Rat) ^ a * 2 ^ b = 2 ^ (a + b) := by
      intro a b
      induction b with
      | zero => simp
      | succ b ih => rw [← Nat.add_assoc, Rat.pow_succ, Rat.pow_succ, ← ih]; grind
    rw [e, show n + (20 - n) = 20 from by omega]; decide +kernel
  have h2 := pow_ge_one (d := (2 : Rat)) (by decide) (20 - n)
  have p : 0 < (2 : Rat) ^ n := Rat.pow_pos (by decide)
  have := Rat.mul_nonneg (a := (2 : Rat) ^ n) (b := 2 ^ (20 - n) - 1) (by grind) (by grind)
  grind

/-- what the digits say of a number near the logarithm -/
theorem digits (n x : Nat) (hn : n ≤ 20) (h1 : 2 ^ 63 ≤ x) (h2 : x < 2 ^ 64) (n1 : 2 ^ 63 + 2 ^ 43 ≤ (sqs n x).2) (n2 : (sqs n x).2 ≤ 2 ^ 64 - 1 - 2 ^ 43)
    (g : Rat) (g1 : el ((x : Rat) / U) - 7000000000000 ≤ g) (g2 : g ≤ el ((x : Rat) / U) + 7000000000000) :
    (((sqs n x).1 : Nat) : Rat) * (LN : Rat) < 2 ^ n * g ∧ 2 ^ n * g < ((((sqs n x).1 : Nat) : Rat) + 1) * (LN : Rat) := by
  have c := chain n x h1 h2
  have m := el_margin _ n1 n2
  have p := pow_le_pow20 n hn
  generalize (2 : Rat) ^ n = P at *
  generalize (((sqs n x).1 : Nat) : Rat) = k at *
  generalize el (((sqs n x).2 : Rat) / U) = t at *
  generalize el ((x : Rat) / U) = v at *
  have b1 := Rat.mul_nonneg (a := P) (b := g - (v - 7000000000000)) (by grind) (by grind)
  have b2 := Rat.mul_nonneg (a := P) (b := (v + 7000000000000) - g) (by grind) (by grind)
  constructor <;> grind
end Go.Proofs.YtlpddogcnpokfaaGreat.Lg
