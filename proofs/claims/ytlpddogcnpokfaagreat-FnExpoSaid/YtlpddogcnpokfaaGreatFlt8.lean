/- The bucket of a fraction that is reckoned by the logarithm in doubles is the one that the digits by squares say, where these are not near a bound. -/
import Derived.Test.YtlpddogcnpokfaaGreatFlt7
import Derived.Laws.FloatArith
namespace Go.Proofs.YtlpddogcnpokfaaGreat.Lg
open Ieee

theorem cut_zero (neg : Bool) (n drop : Nat) : Toward.zero.cut neg n drop = n / 2 ^ drop := by
  unfold Toward.cut
  simp only [Nat.one_shiftLeft, Bool.toNat_false, Nat.add_zero]
  by_cases hd : drop ≤ n.log2 + 2
  · rw [Nat.min_eq_left hd]
  · rw [Nat.min_eq_right (by omega)]
    have hn : n < 2 ^ (n.log2 + 1) := Nat.lt_log2_self
    have h1 : 2 ^ (n.log2 + 1) ≤ 2 ^ (n.log2 + 2) := Nat.pow_le_pow_right (by decide) (by omega)
    have h2 : 2 ^ (n.log2 + 2) ≤ 2 ^ drop := Nat.pow_le_pow_right (by decide) (by omega)
    rw [Nat.div_eq_of_lt (by omega), Nat.div_eq_of_lt (by omega)]

/-- cut towards zero: a number above j - 1 and at most j, where j is at most 0 -/
theorem trunc_neg {P : Nat} {c : Rat} (h : Is P c) (j : Int) (hj : j ≤ 0) (h1 : ((j - 1 : Int) : Rat) < c) (h2 : c ≤ (j : Rat)) : (double.read P).toInt .zero = some j := by
  obtain ⟨s, m, i, hr, rfl⟩ := h
  rw [hr]
  unfold Datum.toInt Datum.integral
  simp only [cut_zero, Nat.shiftLeft_eq]
  congr 1
  -- the magnitude
  have hv : (m : Rat) * p2 i = ((m * 2 ^ i.toNat : Nat) : Rat) / ((2 ^ (-i).toNat : Nat) : Rat) := by
    have hp : (0 : Rat) < ((2 ^ (-i).toNat : Nat) : Rat) := by rw [← p2_nat]; exact p2_pos _
    have : (m : Rat) * p2 i * ((2 ^ (-i).toNat : Nat) : Rat) = ((m * 2 ^ i.toNat : Nat) : Rat) := by
      rw [Rat.natCast_mul, ← p2_nat, ← p2_nat]
      have e : p2 (i.toNat : Int) = p2 i * p2 ((-i).toNat : Int) := by rw [← p2_add]; congr 1; omega
      rw [e]; grind
    grind
  rw [hv] at h1 h2
  have hp : 0 < 2 ^ (-i).toNat := Nat.two_pow_pos _
  generalize m * 2 ^ i.toNat = n at *
  generalize 2 ^ (-i).toNat = d at *
  have hdp : (0 : Rat) < (d : Rat) := by
    have := Rat.natCast_lt_natCast.2 hp; exact this
  have hz : (n : Rat) / (d : Rat) * (d : Rat) = n := by grind
  have hn0 : (0 : Rat) ≤ (n : Rat) := Rat.natCast_nonneg
  have hz0 : (0 : Rat) ≤ (n : Rat) / (d : Rat) := by
    rw [le_div_iff' hdp]; grind
  generalize (n : Rat) / (d : Rat) = z at *
  have hj' : (j : Rat) ≤ 0 := Rat.intCast_le_intCast.2 hj
  obtain ⟨k, hk⟩ : ∃ k : Nat, j = -(k : Int) := ⟨j.natAbs, by omega⟩
  subst hk
  have ek : ((-(k : Int) : Int) : Rat) = -(k : Rat) := by rw [Rat.intCast_neg, Rat.intCast_natCast]
  have ek1 : ((-(k : Int) - 1 : Int) : Rat) = -(k : Rat) - 1 := by
    rw [show (-(k : Int) - 1) = -((k + 1 : Nat) : Int) from by omega, Rat.intCast_neg, Rat.intCast_natCast, Rat.natCast_add]
    have : ((1 : Nat) : Rat) = 1 := rfl
    rw [this]; grind
  rw [ek] at h2 hj'
  rw [ek1] at h1
  cases s with
  | false =>
    simp only [sg, Bool.false_eq_true, if_false] at h1 h2
    have z0 : z = 0 := by grind
    have n0 : (n : Rat) = 0 := by rw [← hz, z0]; grind
    have n0' : n = 0 := by
      have : (n : Rat) = ((0 : Nat) : Rat) := n0
      exact Rat.natCast_inj.1 this
    have k0 : (k : Rat) = ((0 : Nat) : Rat) := by
      have : ((0 : Nat) : Rat) = 0 := rfl
      grind
    have k0' : k = 0 := Rat.natCast_inj.1 k0
    subst n0' k0'
    simp [signed]
  | true =>
    simp only [sg, if_true] at h1 h2
    -- k ≤ z < k + 1
    have l1 : (k : Rat) * (d : Rat) ≤ n := by
      have := Rat.mul_le_mul_of_nonneg_right (c := (d : Rat)) (show (k : Rat) ≤ z by grind) (Rat.le_of_lt hdp)
      grind
    have l2 : (n : Rat) < ((k : Rat) + 1) * (d : Rat) := by
      have := Rat.mul_lt_mul_of_pos_right (c := (d : Rat)) (show z < (k : Rat) + 1 by grind) hdp
      grind
    rw [← Rat.natCast_mul] at l1
    have l1' := Rat.natCast_le_natCast.1 l1
    have e1 : ((k : Rat) + 1) * (d : Rat) = (((k + 1) * d : Nat) : Rat) := by
      rw [Rat.natCast_mul, Rat.natCast_add]; rfl
    rw [e1] at l2
    have l2' := Rat.natCast_lt_natCast.1 l2
    have : n / d = k := by
      rw [Nat.div_eq_iff hp]
      constructor
      · exact l1'
      · have := Nat.add_mul k 1 d; omega
    rw [this]
    simp [signed]

/-- the word of the scale's factor -/
def scaleWord (S : Nat) : Nat := 0x3FF71547652B82FE + S * 2 ^ 52

theorem is_scale (S : Nat) (h : S ≤ 20) : Is (scaleWord S) (v_le * p2 S) := by
  have h1 := is_word (1023 + S) 0x71547652B82FE (by omega) (by omega) (by decide)
  have e : (1023 + S) * 2 ^ 52 + 0x71547652B82FE = scaleWord S := by unfold scaleWord; omega
  rw [e] at h1
  have e2 : ((2 ^ 52 + 0x71547652B82FE : Nat) : Rat) * p2 (((1023 + S : Nat) : Int) - 1075) = v_le * p2 S := by
    rw [show (((1023 + S : Nat) : Int) - 1075) = (S : Int) + -52 from by omega, p2_add]
    have : ((2 ^ 52 + 0x71547652B82FE : Nat) : Rat) * p2 (-52) = v_le := by decide +kernel
    rw [← this]; grind
  rw [e2] at h1
  exact h1

/-- the arithmetic of the last product -/
theorem fault {c e cp P : Rat} (hP : 1 ≤ P) (c1 : -(100 * (1 / 2251799813685248)) ≤ c - (e - (LN : Rat)) / 38685626227668133590597632) (c2 : c - (e - (LN : Rat)) / 38685626227668133590597632 ≤ 100 * (1 / 2251799813685248))
    (h0 : 0 ≤ e) (h1 : e ≤ (LN : Rat)) (p1 : -(P / 4503599627370496) ≤ cp - c * (v_le * P)) (p2 : cp - c * (v_le * P) ≤ P / 4503599627370496) :
    ∃ y, cp = y * P ∧ e - 7000000000000 ≤ (LN : Rat) * (1 + y) ∧ (LN : Rat) * (1 + y) ≤ e + 7000000000000 := by
  refine ⟨cp / P, by grind, ?_⟩
  have hy : cp / P * P = cp := by grind
  generalize cp / P = y at *
  subst hy
  have q1 : -(1 / 4503599627370496) ≤ y - c * v_le := by
    refine Rat.not_lt.1 fun h' => ?_
    have := Rat.mul_pos (a := -(1 / 4503599627370496) - (y - c * v_le)) (b := P) (by grind) (by grind)
    grind
  have q2 : y - c * v_le ≤ 1 / 4503599627370496 := by
    refine Rat.not_lt.1 fun h' => ?_
    have := Rat.mul_pos (a := (y - c * v_le) - 1 / 4503599627370496) (b := P) (by grind) (by grind)
    grind
  have eL : (LN : Rat) = 26814832747904039722237046 := rfl
  have eV : v_le = 3248660424278399 / 2251799813685248 := by decide +kernel
  clear p1 p2
  rw [eL] at c1 c2 h1 ⊢
  rw [eV] at q1 q2
  constructor <;> grind

theorem el_range (y : Rat) (h1 : 1 ≤ y) (h2 : y ≤ 2) : 0 ≤ el y ∧ el y ≤ (LN : Rat) := by
  unfold el
  have eL : (LN : Rat) = 26814832747904039722237046 := rfl
  have q0 : pev Q 0 = 0 := by decide +kernel
  split
  · rename_i hc
    have s0 : 0 ≤ sv y := le_sv (by grind) (by grind)
    have s2 : sv y ≤ 173/1000 := sv_le (by grind) (by unfold CC at hc; grind)
    have q := Q_ge (sv y) s0
    have l := lip_Q (sv y) 0 (by grind) (by grind) (by grind)
    constructor <;> grind
  · rename_i hc
    have hc' : CC < y := Rat.not_le.1 hc
    have s1 : sv (y / 2) ≤ 0 := sv_le (by grind) (by grind)
    have s2 : -(173/1000) ≤ sv (y / 2) := le_sv (by grind) (by unfold CC at hc'; grind)
    have q := Q_ge (-sv (y / 2)) (by grind)
    rw [odd_Q] at q
    have l := lip_Q 0 (sv (y / 2)) (by grind) (by grind) (by grind)
    constructor <;> grind

theorem log_x (m : Nat) : (((2 ^ 52 + m) * 2048 : Nat) : Rat) / U = ((2 ^ 53 + 2 * m : Nat) : Rat) / 9007199254740992 := by
  have e1 : (((2 ^ 52 + m) * 2048 : Nat) : Rat) = ((2 ^ 52 + m : Nat) : Rat) * 2048 := by rw [Rat.natCast_mul]; rfl
  have e2 : ((2 ^ 53 + 2 * m : Nat) : Rat) = ((2 ^ 52 + m : Nat) : Rat) * 2 := by
    rw [show 2 ^ 53 + 2 * m = (2 ^ 52 + m) * 2 from by omega, Rat.natCast_mul]; rfl
  rw [e1, e2]; unfold U; grind

theorem q_lo {k z D y cp q r : Rat} (d1 : k < z * D * (1 + y)) (ek : k = D * q + r) (hr0 : 0 ≤ r) (hD : 0 < D) (hy : cp = y * z) : q < z + cp := by
  refine Rat.not_le.1 fun h' => ?_
  have := Rat.mul_le_mul_of_nonneg_right (c := D) h' (Rat.le_of_lt hD)
  subst hy
  grind
theorem q_hi {k z D y cp q r : Rat} (d1 : z * D * (1 + y) < k + 1) (ek : k = D * q + r) (hr0 : r + 1 ≤ D) (hD : 0 < D) (hy : cp = y * z) : z + cp < q + 1 := by
  refine Rat.not_le.1 fun h' => ?_
  have := Rat.mul_le_mul_of_nonneg_right (c := D) h' (Rat.le_of_lt hD)
  subst hy
  grind

/-- THE BUCKET OF A FRACTION AT A SCALE: what the program reckons by a logarithm is what the digits by squares say. -/
theorem bin_float (m : Nat) (h0 : 0 < m) (hm : m < 2 ^ 52) (top S : Nat) (hS : S ≤ top) (ht : top ≤ 20)
    (n1 : 2 ^ 63 + 2 ^ 43 ≤ (sqs top ((2 ^ 52 + m) * 2048)).2) (n2 : (sqs top ((2 ^ 52 + m) * 2048)).2 ≤ 2 ^ 64 - 1 - 2 ^ 43) :
    ∃ w P, Go.Extern.MathLog.archLog #[.float .f64 (1022 * 2 ^ 52 + m)] = Go.Sem.pure (.float .f64 w) ∧ Go.floatBits .mul .f64 w (scaleWord S) = some P ∧
      Go.floatToIntVal .f64 P .i32 = some ((((sqs top ((2 ^ 52 + m) * 2048)).1 / 2 ^ (top - S) : Nat) : Int) + 1 - ((2 ^ S : Nat) : Int)) := by
  obtain ⟨w, hw, c, hc, c1, c2⟩ := archLog_near m h0 hm
  rw [e51] at c1 c2
  have hx1 : 2 ^ 63 ≤ (2 ^ 52 + m) * 2048 := by omega
  have hx2 : (2 ^ 52 + m) * 2048 < 2 ^ 64 := by omega
  obtain ⟨-, -, hk⟩ := sqs_range top _ hx1 hx2
  have dg := digits top _ ht hx1 hx2 n1 n2
  rw [log_x m] at dg
  have hr := el_range (((2 ^ 53 + 2 * m : Nat) : Rat) / 9007199254740992) (by
      have : 2 ^ 53 ≤ 2 ^ 53 + 2 * m := by omega
      have := Rat.natCast_le_natCast.2 this
      rw [le_div_iff' (by decide)]; grind) (by
      have : 2 ^ 53 + 2 * m ≤ 2 ^ 54 := by omega
      have := Rat.natCast_le_natCast.2 this
      rw [div_le_iff' (by decide)]; grind)
  clear n1 n2 hx1 hx2
  generalize el (((2 ^ 53 + 2 * m : Nat) : Rat) / 9007199254740992) = e at *
  generalize (sqs top ((2 ^ 52 + m) * 2048)).1 = k at *
  -- the product
  have hP1 : 1 ≤ p2 S := by have := p2_le (i := 0) (j := (S : Int)) (by omega); rw [p2_zero] at this; exact this
  have eL : (LN : Rat) = 26814832747904039722237046 := rfl
  have eV : v_le = 3248660424278399 / 2251799813685248 := by decide +kernel
  have hcl : -1 ≤ c ∧ c ≤ 1 := by
    rw [eL] at c1 c2 hr
    constructor <;> grind
  have hcm := abs_mul_le (a := c) (A := 1) (b := v_le * p2 S) (B := 2 * p2 S) hcl.1 hcl.2 (by rw [eV]; grind) (by rw [eV]; grind)
  have eK : p2 ((S : Int) + 1) = 2 * p2 S := by rw [p2_add, p2_one]; grind
  have eK2 : p2 ((S : Int) + 1 - 53) = p2 S / 4503599627370496 := by
    rw [show (S : Int) + 1 - 53 = (S : Int) + -52 from by omega, p2_add]
    have : p2 (-52) = 1 / 4503599627370496 := by decide +kernel
    rw [this]; grind
  obtain ⟨P, cp, hP, hcp, p1, p2'⟩ := mul_err hc (is_scale S (by omega)) ((S : Int) + 1) (by rw [eK]; grind) (by rw [eK]; grind) (by omega) (by omega)
  rw [eK2] at p1 p2'
  obtain ⟨y, hy, g1, g2⟩ := fault hP1 c1 c2 hr.1 hr.2 p1 p2'
  obtain ⟨d1, d2⟩ := dg _ g1 g2
  refine ⟨w, P, hw, hP, ?_⟩
  -- k < 2^top (1 + y) < k + 1
  have eT : (2 : Rat) ^ top = p2 S * (((2 ^ (top - S) : Nat)) : Rat) := by
    have : (2 : Rat) ^ top = p2 (top : Int) := by rw [p2_nat, Rat.natCast_pow]; rfl
    rw [this, ← p2_nat, ← p2_add]; congr 1; omega
  have hDpos : 0 < 2 ^ (top - S) := Nat.two_pow_pos _
  have hkD : k / 2 ^ (top - S) < 2 ^ S := by
    rw [Nat.div_lt_iff_lt_mul hDpos, ← Nat.pow_add, show S + (top - S) = top from by omega]; exact hk
  rw [eT] at d1 d2
  have hDp : (0 : Rat) < ((2 ^ (top - S) : Nat) : Rat) := by
    have := Rat.natCast_lt_natCast.2 hDpos; exact this
  have hdm := Nat.div_add_mod k (2 ^ (top - S))
  have hml := Nat.mod_lt k hDpos
  generalize hD : 2 ^ (top - S) = D at *
  generalize hq : k / D = q at *
  generalize k % D = rr at *
  have d1' : (k : Rat) < p2 S * (D : Rat) * (1 + y) := by
    refine Rat.not_le.1 fun h' => ?_
    have := Rat.mul_le_mul_of_nonneg_right (c := (LN : Rat)) h' (by rw [eL]; decide)
    grind
  have d2' : p2 S * (D : Rat) * (1 + y) < (k : Rat) + 1 := by
    refine Rat.not_le.1 fun h' => ?_
    have := Rat.mul_le_mul_of_nonneg_right (c := (LN : Rat)) h' (by rw [eL]; decide)
    grind
  -- (q : Rat) < p2 S + cp < q + 1
  have ek : (k : Rat) = (D : Rat) * (q : Rat) + (rr : Rat) := by rw [← hdm, Rat.natCast_add, Rat.natCast_mul]
  have hr0 : (0 : Rat) ≤ (rr : Rat) := Rat.natCast_nonneg
  have hr1 : (rr : Rat) + 1 ≤ (D : Rat) := by
    have : rr + 1 ≤ D := by omega
    have := Rat.natCast_le_natCast.2 this
    rw [Rat.natCast_add] at this; exact this
  have q1 : (q : Rat) < p2 S + cp := q_lo d1' ek hr0 hDp hy
  have q2 : p2 S + cp < (q : Rat) + 1 := q_hi d2' ek hr1 hDp hy
  have eS : p2 S = ((2 ^ S : Nat) : Rat) := p2_nat S
  have h20 : 2 ^ S ≤ 2 ^ 20 := Nat.pow_le_pow_right (by decide) (by omega)
  rw [eS] at q1 q2
  generalize 2 ^ S = Z at *
  have cast1 : (((q : Int) + 1 - (Z : Int) : Int) : Rat) = (q : Rat) + 1 - (Z : Rat) := by
    rw [Rat.intCast_sub, Rat.intCast_add, Rat.intCast_natCast, Rat.intCast_natCast]; rfl
  have cast2 : (((q : Int) + 1 - (Z : Int) - 1 : Int) : Rat) = (q : Rat) - (Z : Rat) := by
    rw [show (q : Int) + 1 - (Z : Int) - 1 = (q : Int) - (Z : Int) from by omega, Rat.intCast_sub, Rat.intCast_natCast, Rat.intCast_natCast]
  have ht := trunc_neg hcp ((q : Int) + 1 - (Z : Int)) (by omega) (by rw [cast2]; grind) (by rw [cast1]; grind)
  unfold Go.floatToIntVal
  have hf : Go.FloatKind.decode .f64 P = double.read P := rfl
  rw [hf, ht]
  dsimp only
  rw [if_pos]
  constructor
  · show (-2147483648 : Int) ≤ _; omega
  · show _ ≤ (2147483647 : Int); omega
end Go.Proofs.YtlpddogcnpokfaaGreat.Lg
