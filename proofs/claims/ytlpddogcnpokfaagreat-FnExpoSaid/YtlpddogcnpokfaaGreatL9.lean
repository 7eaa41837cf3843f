/- Exact sums of multiples of 2^-20; the least and the greatest one on both sides. The reference: ExpoExact. The reference: expoSame. FnExpo: the walk of the law. -/
import Derived.Test.YtlpddogcnpokfaaGreatL8
import Derived.Deep.RegionHeld3
import Derived.Deep.MidRow
namespace Go.Proofs.YtlpddogcnpokfaaGreat.Lg
open Ieee
theorem nearest_exact (neg : Bool) (mag T : Nat) (place q : Int) (hT : T < 9007199254740992) (hv0 : (mag : Rat) * p2 place = (T : Rat) * p2 q) (hlo : -1074 ≤ q) (hhi : q ≤ 900) :
    ∃ m i, double.read (double.nearest neg mag place) = .number neg m i ∧ (m : Rat) * p2 i = (mag : Rat) * p2 place := by
  unfold Format.nearest
  by_cases h0 : mag = 0
  · rw [if_pos h0]
    obtain ⟨m, i, hr, hv⟩ := read_rung neg 0 0 (.inl rfl) (by omega) (by omega)
    simp only [Nat.zero_mul, Nat.add_zero] at hr
    refine ⟨m, i, hr, ?_⟩
    have hz : ((0 : Nat) : Rat) = 0 := rfl
    rw [hv, h0, hz]; grind
  · rw [if_neg h0]
    have hb := bit_lo mag h0
    have hb2 : mag < 2 ^ (mag.log2 + 1) := Nat.lt_log2_self
    have hlog : (mag.log2 : Int) + place ≤ q + 52 := by
      refine Int.not_lt.1 fun h' => ?_
      have h1 := Rat.natCast_le_natCast.2 hb
      rw [← p2_nat] at h1
      have h2 := Rat.mul_le_mul_of_nonneg_right (c := p2 place) h1 (Rat.le_of_lt (p2_pos _))
      rw [← p2_add, hv0] at h2
      have h3 : p2 (q + 53) ≤ p2 (mag.log2 + place) := p2_le (by omega)
      have h4 : (T : Rat) < ((9007199254740992 : Nat) : Rat) := Rat.natCast_lt_natCast.2 hT
      have h5 := Rat.mul_lt_mul_of_pos_right h4 (p2_pos q)
      have h6 : ((9007199254740992 : Nat) : Rat) * p2 q = p2 (q + 53) := by
        rw [p2_add]
        have : p2 53 = ((9007199254740992 : Nat) : Rat) := p2_nat 53
        rw [this]; grind
      grind
    have ef : (double.fractionBits : Int) = 52 := rfl
    rw [least_eq, binade_eq, inf_eq, ef]
    dsimp only
    generalize hl : max (place + (mag.log2 : Int) - 52) (-1074) = last
    have hl1 : last ≤ q := by omega
    have hl2 : -1074 ≤ last := by omega
    obtain ⟨L, hL⟩ : ∃ L : Nat, last = (L : Int) - 1074 := ⟨(last + 1074).toNat, by omega⟩
    have hL2 : (last - -1074).toNat = L := by omega
    rw [hL2]
    obtain ⟨kept, hk, k1, k2, k3, k4⟩ := cut_even neg (mag <<< (place - last).toNat) (last - place).toNat
    rw [hk]
    rw [Nat.shiftLeft_eq] at k1 k2 k3 k4
    -- the value
    have hval : -(p2 last) ≤ 2 * ((kept : Rat) * p2 last) - 2 * ((mag : Rat) * p2 place) ∧ 2 * ((kept : Rat) * p2 last) - 2 * ((mag : Rat) * p2 place) ≤ p2 last := by
      have c1 := Rat.natCast_le_natCast.2 k1
      have c2 := Rat.natCast_le_natCast.2 k2
      simp only [Rat.natCast_mul, Rat.natCast_add, ← p2_nat] at c1 c2
      by_cases hc : place ≤ last
      · have e1 : (place - last).toNat = 0 := by omega
        have e2 : ((last - place).toNat : Int) = last - place := by omega
        rw [e1, e2] at c1 c2
        have e3 : p2 last = p2 (last - place) * p2 place := by rw [← p2_add]; congr 1; omega
        have e4 : p2 ((0 : Nat) : Int) = 1 := p2_zero
        rw [e4] at c1 c2
        have e5 : ((2 : Nat) : Rat) = 2 := rfl
        rw [e5] at c1 c2
        have m1 := Rat.mul_le_mul_of_nonneg_right (c := p2 place) c1 (Rat.le_of_lt (p2_pos _))
        have m2 := Rat.mul_le_mul_of_nonneg_right (c := p2 place) c2 (Rat.le_of_lt (p2_pos _))
        rw [e3]
        constructor <;> grind
      · have e1 : (last - place).toNat = 0 := by omega
        have e2 : ((place - last).toNat : Int) = place - last := by omega
        rw [e1, e2] at c1 c2
        have e3 : p2 place = p2 (place - last) * p2 last := by rw [← p2_add]; congr 1; omega
        have e4 : p2 ((0 : Nat) : Int) = 1 := p2_zero
        rw [e4] at c1 c2
        have e5 : ((2 : Nat) : Rat) = 2 := rfl
        rw [e5] at c1 c2
        have m1 := Rat.mul_le_mul_of_nonneg_right (c := p2 last) c1 (Rat.le_of_lt (p2_pos _))
        have m2 := Rat.mul_le_mul_of_nonneg_right (c := p2 last) c2 (Rat.le_of_lt (p2_pos _))
        rw [e3]
        constructor <;> grind
    -- the bounds of what is kept
    have hq : mag * 2 ^ (place - last).toNat / 2 ^ (last - place).toNat < 2 ^ 53 := by
      rw [Nat.div_lt_iff_lt_mul (Nat.two_pow_pos _)]
      have h1 : mag * 2 ^ (place - last).toNat < 2 ^ (mag.log2 + 1) * 2 ^ (place - last).toNat := Nat.mul_lt_mul_of_pos_right hb2 (Nat.two_pow_pos _)
      rw [← Nat.pow_add] at h1
      rw [← Nat.pow_add]
      refine Nat.lt_of_lt_of_le h1 (Nat.pow_le_pow_right (by decide) ?_)
      omega
    have hq2 : L = 0 ∨ 2 ^ 52 ≤ mag * 2 ^ (place - last).toNat / 2 ^ (last - place).toNat := by
      by_cases hz : L = 0
      · exact .inl hz
      · right
        rw [Nat.le_div_iff_mul_le (Nat.two_pow_pos _), ← Nat.pow_add]
        have h1 : 2 ^ mag.log2 * 2 ^ (place - last).toNat ≤ mag * 2 ^ (place - last).toNat := Nat.mul_le_mul_right _ hb
        rw [← Nat.pow_add] at h1
        refine Nat.le_trans (Nat.pow_le_pow_right (by decide) ?_) h1
        omega
    rw [Nat.min_eq_left (by omega)]
    obtain ⟨m, i, hr, hv⟩ := read_rung neg L kept (by omega) (by omega) (by omega)
    refine ⟨m, i, hr, ?_⟩
    rw [hv, ← hL]
    obtain ⟨Z, hZ⟩ : ∃ Z : Nat, (mag : Rat) * p2 place = (Z : Rat) * p2 last := by
      refine ⟨T * 2 ^ (q - last).toNat, ?_⟩
      rw [hv0, Rat.natCast_mul, ← p2_nat, show ((q - last).toNat : Int) = q - last from by omega]
      have e : p2 q = p2 (q - last) * p2 last := by rw [← p2_add]; congr 1; omega
      rw [e]; grind
    rw [hZ] at hval ⊢
    have hpl := p2_pos last
    have u1 : 2 * (kept : Rat) * p2 last ≤ (2 * (Z : Rat) + 1) * p2 last := by grind
    have u2 : 2 * (Z : Rat) * p2 last ≤ (2 * (kept : Rat) + 1) * p2 last := by grind
    have v1 := Rat.le_of_mul_le_mul_right u1 hpl
    have v2 := Rat.le_of_mul_le_mul_right u2 hpl
    have w1 : ((2 * kept : Nat) : Rat) ≤ ((2 * Z + 1 : Nat) : Rat) := by push_cast; grind
    have w2 : ((2 * Z : Nat) : Rat) ≤ ((2 * kept + 1 : Nat) : Rat) := by push_cast; grind
    have w1' := Rat.natCast_le_natCast.1 w1
    have w2' := Rat.natCast_le_natCast.1 w2
    have : kept = Z := by omega
    rw [this]
end Go.Proofs.YtlpddogcnpokfaaGreat.Lg
namespace Go.Proofs.YtlpddogcnpokfaaGreat.Lg
open Ieee
/-- towards 0 -/
theorem cut_zero2 (s : Bool) (n d : Nat) : Toward.zero.cut s n d = n / 2 ^ d := by
  unfold Toward.cut
  simp only [Nat.one_shiftLeft, Bool.toNat_false, Nat.add_zero]
  by_cases h : d ≤ n.log2 + 2
  · rw [Nat.min_eq_left h]
  · rw [Nat.min_eq_right (by omega)]
    have hn : n < 2 ^ (n.log2 + 1) := Nat.lt_log2_self
    have h1 : 2 ^ (n.log2 + 1) ≤ 2 ^ (n.log2 + 2) := Nat.pow_le_pow_right (by decide) (by omega)
    have h2 : 2 ^ (n.log2 + 1) ≤ 2 ^ d := Nat.pow_le_pow_right (by decide) (by omega)
    rw [Nat.div_eq_of_lt (by omega), Nat.div_eq_of_lt (by omega)]
/-- what is written of a number that the format has -/
theorem write_exact (s : Bool) (m : Nat) (i : Int) (T : Nat) (q : Int) (hT : T < 9007199254740992) (hv : (m : Rat) * p2 i = (T : Rat) * p2 q) (hlo : -1074 ≤ q) (hhi : q ≤ 900) : Is (double.write (.number s m i)) (sg s * ((m : Rat) * p2 i)) := by
  obtain ⟨m', i', hr, e⟩ := nearest_exact s m T i q hT hv hlo hhi
  exact ⟨s, m', i', hr, by rw [e]⟩
/-- a multiple of 2^-20 -/
def Q20 (w : Nat) (k : Int) : Prop := Is w ((k : Rat) * p2 (-20))
theorem sg_sq (b : Bool) : sg b * sg b = 1 := by unfold sg; cases b <;> decide +kernel
theorem natAbs_val (b : Bool) (x : Rat) (k : Int) (hx : 0 ≤ x) (h : sg b * x = (k : Rat) * p2 (-20)) : x = ((k.natAbs : Nat) : Rat) * p2 (-20) := by
  have hp := p2_pos (-20)
  by_cases hk : 0 ≤ k
  · have e : (k : Rat) = ((k.natAbs : Nat) : Rat) := by rw [← Rat.intCast_natCast]; congr 1; omega
    cases b
    · rw [← e, ← h]; unfold sg; simp
    · have h' : - x = (k : Rat) * p2 (-20) := by rw [← h]; unfold sg; simp; grind
      have hk0 : (0 : Rat) ≤ (k : Rat) := by rw [e]; exact Rat.natCast_nonneg
      have := Rat.mul_nonneg hk0 (Rat.le_of_lt hp)
      rw [← e]; grind
  · have e : -(k : Rat) = ((k.natAbs : Nat) : Rat) := by rw [← Rat.intCast_neg, ← Rat.intCast_natCast]; congr 1; omega
    cases b
    · have h' : x = (k : Rat) * p2 (-20) := by rw [← h]; unfold sg; simp
      have hk0 : (0 : Rat) ≤ -(k : Rat) := by rw [e]; exact Rat.natCast_nonneg
      have := Rat.mul_nonneg hk0 (Rat.le_of_lt hp)
      rw [← e]; grind
    · have h' : - x = (k : Rat) * p2 (-20) := by rw [← h]; unfold sg; simp; grind
      rw [← e]; grind
theorem add_q20 {x y : Nat} {a b : Int} (hx : Q20 x a) (hy : Q20 y b) (h : (a + b).natAbs < 9007199254740992) : ∃ w, floatBits .add .f64 x y = some w ∧ Q20 w (a + b) := by
  obtain ⟨s, m, i, hr, e1⟩ := hx
  obtain ⟨t, n, j, hr', e2⟩ := hy
  obtain ⟨c, u, k, he, hv⟩ := add_exact (s := s) (t := t) (m := m) (n := n) (i := i) (j := j)
  have hval : sg c * ((u : Rat) * p2 k) = ((a + b : Int) : Rat) * p2 (-20) := by rw [hv, ← e1, ← e2, Rat.intCast_add]; grind
  have hn := natAbs_val c _ _ (Rat.mul_nonneg Rat.natCast_nonneg (Rat.le_of_lt (p2_pos k))) hval
  refine ⟨double.write (.number c u k), ?_, ?_⟩
  · show double.add x y = _
    unfold Format.add
    rw [hr, hr', he]; rfl
  · unfold Q20
    rw [← hval]
    exact write_exact c u k _ (-20) h hn (by decide) (by decide)
theorem int_q20 (n : Int) (h : n.natAbs < 4294967297) : Q20 (floatOfInt .f64 n) (n * 1048576) := by
  have e : ((n * 1048576 : Int) : Rat) * p2 (-20) = sg (decide (n < 0)) * ((n.natAbs : Rat) * p2 0) := by
    have h20 : (1048576 : Rat) * p2 (-20) = 1 := by
      have : p2 20 = ((2 ^ 20 : Nat) : Rat) := p2_nat 20
      have h2 : p2 (-20 + 20) = p2 (-20) * p2 20 := p2_add _ _
      rw [show (-20 + 20 : Int) = 0 from rfl, p2_zero, this] at h2
      have h3 : ((2 ^ 20 : Nat) : Rat) = 1048576 := by decide +kernel
      rw [h3] at h2; grind
    rw [Rat.intCast_mul, show ((1048576 : Int) : Rat) = (1048576 : Rat) from rfl, Rat.mul_assoc, h20, p2_zero]
    by_cases hn : n < 0
    · have e2 : ((n.natAbs : Nat) : Rat) = -(n : Rat) := by rw [← Rat.intCast_neg, ← Rat.intCast_natCast]; congr 1; omega
      rw [e2, decide_eq_true hn]; unfold sg; simp; grind
    · have e2 : ((n.natAbs : Nat) : Rat) = (n : Rat) := by rw [← Rat.intCast_natCast]; congr 1; omega
      rw [e2, decide_eq_false hn]; unfold sg; simp
  unfold Q20
  rw [e]
  exact write_exact (decide (n < 0)) n.natAbs 0 n.natAbs 0 (by omega) rfl (by decide) (by decide)
theorem p2_ne (i : Int) : p2 i ≠ 0 := fun h => by have := p2_pos i; rw [h] at this; exact absurd this (by decide)
theorem q20_inj {a b : Int} (h : (a : Rat) * p2 (-20) = (b : Rat) * p2 (-20)) : a = b := by
  have hp := p2_pos (-20)
  have h1 : (a : Rat) ≤ (b : Rat) := Rat.le_of_mul_le_mul_right (by rw [h]; exact Rat.le_refl) hp
  have h2 : (b : Rat) ≤ (a : Rat) := Rat.le_of_mul_le_mul_right (by rw [h]; exact Rat.le_refl) hp
  have h3 := Rat.intCast_le_intCast.1 h1
  have h4 := Rat.intCast_le_intCast.1 h2
  omega
theorem q20_eq {x y : Nat} {a b : Int} (hx : Q20 x a) (hy : Q20 y b) : (double.order x y == some .eq) = decide (a = b) := by
  rw [order_eq hx hy]
  congr 1
  apply propext
  exact ⟨q20_inj, fun e => by rw [e]⟩
end Go.Proofs.YtlpddogcnpokfaaGreat.Lg
namespace Go.Proofs.YtlpddogcnpokfaaGreat.Lg
open Ieee
theorem p2_nat_neg (n : Nat) : p2 (-(n : Int)) * ((2 ^ n : Nat) : Rat) = 1 := by
  rw [← p2_nat, ← p2_add, show -(n : Int) + (n : Int) = 0 from by omega, p2_zero]
/-- a number cut to a whole one is not greater -/
theorem cut_le (m : Nat) (i : Int) : (((m <<< i.toNat) / 2 ^ (-i).toNat : Nat) : Rat) ≤ (m : Rat) * p2 i := by
  rw [Nat.shiftLeft_eq]
  by_cases h : 0 ≤ i
  · have e1 : (-i).toNat = 0 := by omega
    have e2 : p2 i = ((2 ^ i.toNat : Nat) : Rat) := by rw [← p2_nat]; congr 1; omega
    rw [e1, Nat.pow_zero, Nat.div_one, Rat.natCast_mul, e2]
    exact Rat.le_refl
  · have e1 : i.toNat = 0 := by omega
    rw [e1, Nat.pow_zero, Nat.mul_one]
    have h1 : m / 2 ^ (-i).toNat * 2 ^ (-i).toNat ≤ m := Nat.div_mul_le_self _ _
    have h2 := Rat.natCast_le_natCast.2 h1
    rw [Rat.natCast_mul] at h2
    have h3 := Rat.mul_le_mul_of_nonneg_right (c := p2 i) h2 (Rat.le_of_lt (p2_pos i))
    have h4 := p2_nat_neg (-i).toNat
    rw [show -(((-i).toNat : Nat) : Int) = i from by omega] at h4
    rw [Rat.mul_assoc, Rat.mul_comm _ (p2 i), h4, Rat.mul_one] at h3
    exact h3
theorem q20_cut {w : Nat} {k : Int} (h : Q20 w k) {s : Bool} {m : Nat} {i : Int} (hr : double.read w = .number s m i) : (m <<< i.toNat) / 2 ^ (-i).toNat * 1048576 ≤ k.natAbs := by
  have hv : (m : Rat) * p2 i = ((k.natAbs : Nat) : Rat) * p2 (-20) := by
    obtain ⟨s', m', i', hr', e⟩ := h
    rw [hr] at hr'
    cases hr'
    exact natAbs_val s _ _ (Rat.mul_nonneg Rat.natCast_nonneg (Rat.le_of_lt (p2_pos i))) e.symm
  have h1 := cut_le m i
  rw [hv] at h1
  have h4 := p2_nat_neg 20
  have e : ((2 ^ 20 : Nat) : Rat) = ((1048576 : Nat) : Rat) := rfl
  rw [e, show -((20 : Nat) : Int) = -20 from rfl] at h4
  have h5 := Rat.mul_le_mul_of_nonneg_right (c := ((1048576 : Nat) : Rat)) h1 Rat.natCast_nonneg
  rw [Rat.mul_assoc, h4, Rat.mul_one, ← Rat.natCast_mul] at h5
  exact Rat.natCast_le_natCast.1 h5
theorem q20_int {w : Nat} {k : Int} (h : Q20 w k) (hk : k.natAbs < 4503599627370496) : ∃ k0, floatToIntVal .f64 w .i64 = some k0 ∧ k0.natAbs * 1048576 ≤ k.natAbs := by
  obtain ⟨s, m, i, hr, _⟩ := id h
  have hc := q20_cut h hr
  obtain ⟨N, hN⟩ : ∃ N, N = (m <<< i.toNat) / 2 ^ (-i).toNat := ⟨_, rfl⟩
  rw [← hN] at hc
  have ht : (double.read w).toInt .zero = some (signed s N 0) := by
    rw [hr]
    unfold Datum.toInt Datum.integral
    simp only [cut_zero, ← hN]
  refine ⟨signed s N 0, ?_, ?_⟩
  · unfold floatToIntVal
    rw [show (FloatKind.f64.decode w).toInt .zero = some (signed s N 0) from ht]
    have : IntKind.i64.min ≤ signed s N 0 ∧ signed s N 0 ≤ IntKind.i64.max := by
      unfold signed
      have e1 : IntKind.i64.min = -9223372036854775808 := by decide
      have e2 : IntKind.i64.max = 9223372036854775807 := by decide
      rw [e1, e2, Nat.shiftLeft_zero]
      split <;> omega
    simp only [this, and_self, if_true]
  · unfold signed
    rw [Nat.shiftLeft_zero]
    split <;> simp <;> omega
end Go.Proofs.YtlpddogcnpokfaaGreat.Lg
namespace Go.Proofs.YtlpddogcnpokfaaGreat
/-- multiples of 2^-20: their sum and the sum of their magnitudes -/
def Ex20 : List Nat → Int → Nat → Prop
  | [], s, S => s = 0 ∧ S = 0
  | v :: l, s', S' => ∃ s S k, Ex20 l s S ∧ Lg.Q20 v k ∧ s' = s + k ∧ S' = S + k.natAbs
theorem Ex20.le : ∀ {l : List Nat} {s : Int} {S : Nat}, Ex20 l s S → s.natAbs ≤ S
  | [], _, _, h => by obtain ⟨rfl, rfl⟩ := h; simp
  | v :: l, _, _, h => by
    obtain ⟨s, S, k, h1, _, rfl, rfl⟩ := h
    have := h1.le
    omega
theorem q20_zero : Lg.Q20 0 0 := by
  unfold Lg.Q20
  have : ((0 : Int) : Rat) * Lg.p2 (-20) = 0 := by
    have : ((0 : Int) : Rat) = 0 := rfl
    rw [this]; grind
  rw [this]; exact Lg.is_zero
theorem SpSum.exact : ∀ {l : List Nat} {r : Nat} {s : Int} {S : Nat}, SpSum l r → Ex20 l s S → S < 9007199254740992 → Lg.Q20 r s
  | [], _, _, _, h, hx, _ => by obtain ⟨rfl, rfl⟩ := hx; obtain rfl : _ = 0 := h; exact q20_zero
  | v :: l, _, _, _, h, hx, hS => by
    obtain ⟨s, S, k, h1, hq, rfl, rfl⟩ := hx
    obtain ⟨r0, h2, h3⟩ := h
    have hq0 := h2.exact h1 (by omega)
    have := h1.le
    obtain ⟨w, hw, hqw⟩ := Lg.add_q20 hq0 hq (by omega)
    rw [h3 w hw]; exact hqw
set_option maxRecDepth 100000 in
theorem SumRun.exact : ∀ {l : List Nat} {fb : Nat} {ni : Int} {s : Int} {S : Nat}, SumRun l fb ni → Ex20 l s S → S < 4503599627370496 → ∃ a : Int, Lg.Q20 fb a ∧ a + ni * 1048576 = s ∧ a.natAbs + ni.natAbs * 1048576 ≤ S
  | [], _, _, _, _, h, hx, _ => by obtain ⟨rfl, rfl⟩ := hx; obtain ⟨rfl, rfl⟩ := h; exact ⟨0, q20_zero, rfl, Nat.le_refl _⟩
  | v :: l, _, _, _, _, h, hx, hS => by
    obtain ⟨s, S, k, h1, hq, rfl, rfl⟩ := hx
    obtain ⟨fb, ni, h2, kk, hk, _, _, hstep⟩ := h
    obtain ⟨a, hqa, hs, hb⟩ := h2.exact h1 (by omega)
    obtain ⟨k0, hk0, hk0b⟩ := Lg.q20_int hq (by omega)
    obtain rfl := hk k0 hk0
    have hqi := Lg.int_q20 kk (by omega)
    have he := Lg.q20_eq hqi hq
    rcases hstep with ⟨e, rfl, rfl⟩ | ⟨e, rfl, hadd⟩
    · rw [show (FloatKind.f64.format.order (floatOfInt .f64 kk) v == some Ordering.eq) = decide (kk * 1048576 = k) from he] at e
      have e' := of_decide_eq_true e
      have hb1 : ni.natAbs < 4294967296 := by omega
      have hb2 : kk.natAbs < 4294967297 := by omega
      have hw : Go.RowKit.wrap64 (ni + kk) = ni + kk := by
        clear hs hb hk0b hS h1 e' e
        unfold Go.RowKit.wrap64
        rw [Int.emod_eq_of_lt (by omega) (by omega)]; omega
      rw [hw]
      have hn1 : (ni + kk).natAbs ≤ ni.natAbs + kk.natAbs := Int.natAbs_add_le _ _
      have hn2 : k.natAbs = kk.natAbs * 1048576 := by rw [← e', Int.natAbs_mul]; rfl
      have hn3 : a + (ni + kk) * 1048576 = s + k := by rw [← hs, ← e']; rw [Int.add_mul]; omega
      refine ⟨a, hqa, hn3, ?_⟩
      rw [hn2]
      have hn4 := Nat.mul_le_mul_right 1048576 hn1
      rw [Nat.add_mul] at hn4
      exact Nat.le_trans (Nat.add_le_add_left hn4 _) (by rw [← Nat.add_assoc]; exact Nat.add_le_add_right hb _)
    · obtain ⟨w, hw, hqw⟩ := Lg.add_q20 hqa hq (by omega)
      rw [hadd w hw]
      exact ⟨a + k, hqw, by omega, by omega⟩
set_option maxRecDepth 100000 in
/-- the sums of both sides are one number -/
theorem SumOf.same {l : List Nat} {r r' : Nat} {s : Int} {S : Nat} (h : SumOf l r) (h' : SpSum l.reverse r') (hx : Ex20 l.reverse s S) (hS : S < 4503599627370496) : (FloatKind.f64.format.order r r' == some .eq) = true := by
  obtain ⟨fb, ni, hrun, _, hrd⟩ := h
  obtain ⟨a, hqa, hs, hb⟩ := hrun.exact hx hS
  obtain ⟨w, hw, hqw⟩ := Lg.add_q20 hqa (Lg.int_q20 ni (by omega)) (by omega)
  rw [hrd w hw]
  rw [hs] at hqw
  have := Lg.q20_eq hqw (h'.exact hx (by omega))
  rw [show (FloatKind.f64.format.order w r' == some Ordering.eq) = decide (s = s) from this]
  simp
end Go.Proofs.YtlpddogcnpokfaaGreat
namespace Go.Proofs.YtlpddogcnpokfaaGreat
open Ieee
theorem lt_inf {x : Nat} (h : Lg.fin x) : ltW x 9218868437227405312 = true ∧ gtW x 18442240474082181120 = true := by
  have h1 : double.read 9218868437227405312 = .infinity false := by decide +kernel
  have h2 : double.read 18442240474082181120 = .infinity true := by decide +kernel
  constructor
  · show (double.order x 9218868437227405312 == some .lt) = true
    unfold Format.order; rw [Lg.read_fin h, h1]; rfl
  · show (double.order x 18442240474082181120 == some .gt) = true
    unfold Format.order; rw [Lg.read_fin h, h2]; rfl
theorem gtW_val {u v : Nat} (hu : Lg.fin u) (hv : Lg.fin v) : gtW u v = decide (Lg.val v < Lg.val u) := Lg.order_gt (Lg.is_fin hu) (Lg.is_fin hv)
theorem mm_sp (l : List Nat) : ∀ a b, Lg.fin a → Lg.fin b → Lg.val a ≤ Lg.val b → (∀ v, v ∈ l → Lg.fin v) → l.foldl (fun m v => some (mmOpt v m)) (some (a, b)) = some (l.foldl mnSt a, l.foldl mxSt b) := by
  induction l with
  | nil => intro a b _ _ _ _; rfl
  | cons x l ih =>
    intro a b ha hb hab hl
    have hx := hl x List.mem_cons_self
    have hl' : ∀ v, v ∈ l → Lg.fin v := fun v hv => hl v (List.mem_cons_of_mem _ hv)
    rw [List.foldl_cons, List.foldl_cons, List.foldl_cons]
    show l.foldl (fun m v => some (mmOpt v m)) (some (mmStep x a b)) = _
    have e : mmStep x a b = (mnSt a x, mxSt b x) := by
      unfold mmStep mnSt mxSt
      rw [ltW_val hx ha, ltW_val hb hx, gtW_val hx hb]
      by_cases h1 : Lg.val x < Lg.val a
      · have h2 : ¬ Lg.val b < Lg.val x := by grind
        simp [h1, h2]
      · by_cases h2 : Lg.val b < Lg.val x <;> simp [h1, h2]
    rw [e]
    apply ih
    · unfold mnSt; split
      · exact hx
      · exact ha
    · unfold mxSt; split
      · exact hx
      · exact hb
    · unfold mnSt mxSt
      rw [ltW_val hx ha, gtW_val hx hb]
      by_cases h1 : Lg.val x < Lg.val a <;> by_cases h2 : Lg.val b < Lg.val x <;> simp [h1, h2] <;> grind
    · exact hl'
theorem mmOf_sp {l : List Nat} {mn mx : Nat} (hl : ∀ v, v ∈ l → absW v < 2047 * 2 ^ 52) (h : mmOf l = some (mn, mx)) : mn = spMn l ∧ mx = spMx l := by
  cases l with
  | nil => cases h
  | cons x l =>
    have hx : Lg.fin x := hl x List.mem_cons_self
    have h' : l.foldl (fun m v => some (mmOpt v m)) (some (x, x)) = some (mn, mx) := h
    rw [mm_sp l x x hx hx Rat.le_refl (fun v hv => hl v (List.mem_cons_of_mem _ hv))] at h'
    injection h' with h'
    injection h' with h1 h2
    obtain ⟨i1, i2⟩ := lt_inf hx
    unfold spMn spMx
    rw [List.foldl_cons, List.foldl_cons]
    unfold mnSt mxSt at *
    rw [if_pos i1, if_pos i2]
    exact ⟨h1.symm, h2.symm⟩
end Go.Proofs.YtlpddogcnpokfaaGreat
namespace Go.Proofs.YtlpddogcnpokfaaGreat
open Go.RowKit Go.Maps Ieee
/-- a number cut to a whole one -/
def truncW (n : Nat) : Nat := FloatKind.f64.encode ((FloatKind.f64.decode n).integral .zero)
def truncOn (n : Nat) (way : Toward) (d : Datum) : Sem Value :=
  match d with
  | .nan s t =>
    if FloatKind.f64.format.quiet t = t then pure (.float .f64 n) else do
    let kept ← choose (.extern "math.Floor,Ceil,Trunc,RoundToEven.signallingNaN kept" 2)
    pure (.float .f64 (if kept == 1 then n else FloatKind.f64.encode (.nan s (FloatKind.f64.format.quiet t))))
  | d => pure (.float .f64 (FloatKind.f64.encode (d.integral way)))
theorem truncOn_eq (name : String) (n : Nat) (way : Toward) (d : Datum) (h : FloatKind.f64.decode n = d) : Extern.MathFloor.toIntegral name way #[.float .f64 n] = truncOn n way d := by
  subst h; rfl
theorem call49 (n : Nat) (w : World) : ∃ y w', (callFunc 49 #[.float .f64 n]).run Tryz.prog w = .ok (.value (.float .f64 y)) w' ∧ Dr1 w w' ∧ ((∀ s t, FloatKind.f64.decode n ≠ .nan s t) → y = truncW n) := by
  rw [run_callFunc_extern Tryz.func49 (by kernel_rfl) (by kernel_rfl) (by kernel_rfl) (e := Extern.MathFloor.toIntegral "math.archTrunc" .zero) (by kernel_rfl) #[.float .f64 n] w]
  unfold truncW
  cases h : FloatKind.f64.decode n with
  | nan s t =>
    rw [truncOn_eq _ _ _ _ h]
    unfold truncOn
    by_cases hq : FloatKind.f64.format.quiet t = t
    · exact ⟨n, w, by simp [hq], .inl rfl, fun hh => absurd rfl (hh s t)⟩
    · refine ⟨if ((Question.extern "math.Floor,Ceil,Trunc,RoundToEven.signallingNaN kept" 2).cut (w.tape w.drawn (.extern "math.Floor,Ceil,Trunc,RoundToEven.signallingNaN kept" 2)) == 1) = true then n else FloatKind.f64.encode (.nan s (FloatKind.f64.format.quiet t)), w.drew, ?_, .inr rfl, fun hh => absurd rfl (hh s t)⟩
      simp [hq, Question.forced]
  | number s m i => exact ⟨_, w, by rw [truncOn_eq _ _ _ _ h]; rfl, .inl rfl, fun _ => rfl⟩
  | infinity s => exact ⟨_, w, by rw [truncOn_eq _ _ _ _ h]; rfl, .inl rfl, fun _ => rfl⟩
set_option maxRecDepth 100000 in
theorem trunc41 (n : Nat) (w : World) : Calls Tryz.prog 41 #[.float .f64 n] w fun e w' => ∃ y, e = .returned (.float .f64 y) ∧ Kept [] w w' ∧ ((∀ s t, FloatKind.f64.decode n ≠ .nan s t) → y = truncW n) := by
  obtain ⟨y, w1, hr, hd, hy⟩ := call49 n w
  have HY := Lib.hid (And.intro hd hy)
  clear hd hy
  go_enter Tryz.func41, Tryz.ntmps41
  go_wp2_with fail
  go_ret
  exact ⟨y, rfl, hd2k HY.out.1, HY.out.2⟩
end Go.Proofs.YtlpddogcnpokfaaGreat
namespace Go.Proofs.YtlpddogcnpokfaaGreat
open Ieee
theorem read_k20 : double.read 4697254411347427328 = .number false 4503599627370496 (-32) := by decide +kernel
theorem p2_32 : Lg.p2 32 = ((4503599627370496 : Nat) : Rat) * Lg.p2 (-20) := by
  have : Lg.p2 52 = ((2 ^ 52 : Nat) : Rat) := Lg.p2_nat 52
  rw [show (4503599627370496 : Nat) = 2 ^ 52 from rfl, ← this, ← Lg.p2_add]; rfl
theorem k32 : Lg.Is 4751297606875873280 (Lg.p2 32) := by
  refine ⟨false, 4503599627370496, -20, by decide +kernel, ?_⟩
  rw [p2_32]; unfold Lg.sg; simp
theorem lt32 {x : Nat} {a : Rat} (hx : Lg.Is x a) (h1 : (FloatKind.f64.format.order x 4751297606875873280 == some .gt) = false) (h2 : (FloatKind.f64.format.order x 4751297606875873280 == some .eq) = false) : a < Lg.p2 32 := by
  rw [show (FloatKind.f64.format.order x 4751297606875873280 == some Ordering.gt) = decide (Lg.p2 32 < a) from Lg.order_gt hx k32] at h1
  rw [show (FloatKind.f64.format.order x 4751297606875873280 == some Ordering.eq) = decide (a = Lg.p2 32) from Lg.order_eq hx k32] at h2
  have g1 := of_decide_eq_false h1
  have g2 := of_decide_eq_false h2
  grind
theorem sg_ne (b : Bool) : Lg.sg b ≠ 0 := by unfold Lg.sg; cases b <;> decide +kernel
theorem exact_step (v : Nat) (hv : absW v < 2047 * 2 ^ 52) (h1 : (FloatKind.f64.format.order (absW v) 4751297606875873280 == some .gt) = false) (h2 : (FloatKind.f64.format.order (absW v) 4751297606875873280 == some .eq) = false) :
    ∃ x, floatBits .mul .f64 v 4697254411347427328 = some x ∧ (∀ s t, FloatKind.f64.decode x ≠ .nan s t) ∧
      ((FloatKind.f64.format.order x (truncW x) == some .eq) = true → ∃ k : Int, Lg.Q20 v k ∧ Lg.Q20 (absW v) k.natAbs) := by
  have hf : Lg.fin v := hv
  have hfa : Lg.fin (absW v) := by unfold Lg.fin; rw [rung_abs2]; exact hf
  have hlt := lt32 (Lg.is_fin hfa) h1 h2
  rw [val_abs] at hlt
  obtain ⟨m, hm⟩ : ∃ m, m = Lg.mag v := ⟨_, rfl⟩
  obtain ⟨i, hi⟩ : ∃ i, i = Lg.pl v := ⟨_, rfl⟩
  obtain ⟨s, hs⟩ : ∃ s, s = Lg.negW v := ⟨_, rfl⟩
  have hmb : m < 9007199254740992 := by rw [hm]; unfold Lg.mag Lg.rung; split <;> omega
  have hib : -1074 ≤ i := by rw [hi]; unfold Lg.pl Lg.rung; split <;> omega
  have hr := Lg.read_fin hf
  rw [← hm, ← hi, ← hs] at hr
  rw [← hm, ← hi] at hlt
  have hmul : double.mul v 4697254411347427328 = some (double.write (.number (s ^^ false) (m * 4503599627370496) (i + -32))) := by
    unfold Format.mul
    rw [hr, read_k20]; rfl
  have h52 : ((m * 4503599627370496 : Nat) : Rat) * Lg.p2 (i + -32) = (m : Rat) * Lg.p2 (i + 20) := by
    rw [Rat.natCast_mul, show (4503599627370496 : Nat) = 2 ^ 52 from rfl, ← Lg.p2_nat, show i + 20 = ((52 : Nat) : Int) + (i + -32) from by omega, Lg.p2_add ((52 : Nat) : Int)]
    grind
  have hX : Lg.Is (double.write (.number (s ^^ false) (m * 4503599627370496) (i + -32))) (Lg.sg (s ^^ false) * ((m : Rat) * Lg.p2 (i + 20))) := by
    rw [← h52]
    by_cases h0 : m = 0
    · refine Lg.write_exact _ _ _ 0 0 (by decide) ?_ (by decide) (by decide)
      rw [h0]; simp
    · refine Lg.write_exact _ _ _ m (i + 20) hmb h52 (by omega) ?_
      have : (1 : Rat) ≤ (m : Rat) := by
        have := Rat.natCast_le_natCast.2 (show 1 ≤ m by omega)
        exact this
      have h3 := Rat.mul_le_mul_of_nonneg_right (c := Lg.p2 i) this (Rat.le_of_lt (Lg.p2_pos i))
      have h4 : Lg.p2 i < Lg.p2 32 := by grind
      have := Lg.p2_lt_iff.1 h4
      omega
  refine ⟨_, hmul, ?_, ?_⟩
  · obtain ⟨s', m', i', hr', _⟩ := hX
    intro s t h
    rw [show FloatKind.f64.decode _ = double.read _ from rfl, hr'] at h
    cases h
  · generalize double.write (.number (s ^^ false) (m * 4503599627370496) (i + -32)) = x at hX
    rw [Bool.xor_false] at hX
    intro heq
    obtain ⟨s', m', i', hr', he⟩ := id hX
    obtain ⟨N, hN⟩ : ∃ N, N = (m' <<< i'.toNat) / 2 ^ (-i').toNat := ⟨_, rfl⟩
    have hti : (double.read x).integral .zero = .number s' N 0 := by
      rw [hr']
      unfold Datum.integral
      simp only [Lg.cut_zero2, ← hN]
    have hNle := Lg.cut_le m' i'
    rw [← hN] at hNle
    have habs : (m' : Rat) * Lg.p2 i' = (m : Rat) * Lg.p2 (i + 20) := by
      have p1 : 0 ≤ (m' : Rat) * Lg.p2 i' := Rat.mul_nonneg Rat.natCast_nonneg (Rat.le_of_lt (Lg.p2_pos _))
      have p2 : 0 ≤ (m : Rat) * Lg.p2 (i + 20) := Rat.mul_nonneg Rat.natCast_nonneg (Rat.le_of_lt (Lg.p2_pos _))
      unfold Lg.sg at he
      cases s <;> cases s' <;> simp at he <;> grind
    have e20 : Lg.p2 (i + 20) = Lg.p2 i * Lg.p2 20 := Lg.p2_add _ _
    have p20 : 0 < Lg.p2 20 := Lg.p2_pos _
    have hNlt : N < 9007199254740992 := by
      have h3 : (N : Rat) < Lg.p2 52 := by
        have e52 : Lg.p2 52 = Lg.p2 32 * Lg.p2 20 := Lg.p2_add 32 20
        have := Rat.mul_lt_mul_of_pos_right hlt p20
        rw [e52]
        rw [habs, e20] at hNle
        grind
      have h4 : Lg.p2 52 = ((2 ^ 52 : Nat) : Rat) := Lg.p2_nat 52
      rw [h4] at h3
      have := Rat.natCast_lt_natCast.1 h3
      omega
    have hT : Lg.Is (truncW x) (Lg.sg s' * ((N : Rat) * Lg.p2 0)) := by
      unfold truncW
      rw [show FloatKind.f64.decode x = double.read x from rfl, hti]
      exact Lg.write_exact s' N 0 N 0 hNlt rfl (by decide) (by decide)
    rw [show (FloatKind.f64.format.order x (truncW x) == some Ordering.eq) = decide (_ = _) from Lg.order_eq hX hT] at heq
    have hval := of_decide_eq_true heq
    rw [Lg.p2_zero, Rat.mul_one] at hval
    have hcan : Lg.p2 20 * Lg.p2 (-20) = 1 := by rw [← Lg.p2_add]; exact Lg.p2_zero
    have hmN : (m : Rat) * Lg.p2 (i + 20) = (N : Rat) := by
      have p2 : 0 ≤ (m : Rat) * Lg.p2 (i + 20) := Rat.mul_nonneg Rat.natCast_nonneg (Rat.le_of_lt (Lg.p2_pos _))
      have p3 : (0 : Rat) ≤ (N : Rat) := Rat.natCast_nonneg
      unfold Lg.sg at hval
      cases s <;> cases s' <;> simp at hval <;> grind
    have hmv : (m : Rat) * Lg.p2 i = (N : Rat) * Lg.p2 (-20) := by
      rw [← hmN, e20]
      have : (m : Rat) * (Lg.p2 i * Lg.p2 20) * Lg.p2 (-20) = (m : Rat) * Lg.p2 i * (Lg.p2 20 * Lg.p2 (-20)) := by grind
      rw [this, hcan]; grind
    refine ⟨if s then -(N : Int) else (N : Int), ⟨s, m, i, hr, ?_⟩, ?_⟩
    · rw [hmv]; unfold Lg.sg
      cases s
      · simp [Rat.intCast_natCast]
      · simp [Rat.intCast_neg, Rat.intCast_natCast]; grind
    · have hn : (if s then -(N : Int) else (N : Int)).natAbs = N := by cases s <;> simp
      rw [hn]
      have := Lg.is_fin hfa
      rw [val_abs, ← hm, ← hi, hmv] at this
      unfold Lg.Q20
      rw [Rat.intCast_natCast]
      exact this
end Go.Proofs.YtlpddogcnpokfaaGreat
namespace Go.Proofs.YtlpddogcnpokfaaGreat
open Go.RowKit Go.Maps
/-- what the running sum of magnitudes says -/
def ExRun (l : List Nat) (sum : Nat) : Prop := ∃ s S, Ex20 l.reverse s S ∧ Lg.Q20 sum S ∧ S < 4503599627370496
theorem ExRun.zero : ExRun [] 0 := ⟨0, 0, ⟨rfl, rfl⟩, q20_zero, by decide⟩
theorem q20_lt32 {x : Nat} {S : Nat} (hx : Lg.Q20 x S) (h1 : (FloatKind.f64.format.order x 4751297606875873280 == some .gt) = false) (h2 : (FloatKind.f64.format.order x 4751297606875873280 == some .eq) = false) : S < 4503599627370496 := by
  have h := lt32 hx h1 h2
  rw [p2_32, Rat.intCast_natCast] at h
  refine Nat.lt_of_not_le fun hle => ?_
  have h1 := Rat.natCast_le_natCast.2 hle
  have h2 := Rat.mul_le_mul_of_nonneg_right (c := Lg.p2 (-20)) h1 (Rat.le_of_lt (Lg.p2_pos _))
  grind
theorem ExRun.push {l : List Nat} {sum v : Nat} (h : ExRun l sum) {k : Int} (hk : Lg.Q20 v k) (hka : Lg.Q20 (absW v) k.natAbs) (hv1 : (FloatKind.f64.format.order (absW v) 4751297606875873280 == some .gt) = false) (hv2 : (FloatKind.f64.format.order (absW v) 4751297606875873280 == some .eq) = false) :
    ∃ w, floatBits .add .f64 sum (absW v) = some w ∧ ((FloatKind.f64.format.order w 4751297606875873280 == some .gt) = false → (FloatKind.f64.format.order w 4751297606875873280 == some .eq) = false → ExRun (l ++ [v]) w) := by
  obtain ⟨s, S, hx, hq, hS⟩ := h
  have hkb := q20_lt32 hka hv1 hv2
  obtain ⟨w, hw, hqw⟩ := Lg.add_q20 hq hka (by omega)
  refine ⟨w, hw, fun h1 h2 => ?_⟩
  have hqw' : Lg.Q20 w ((S + k.natAbs : Nat) : Int) := by rw [show ((S + k.natAbs : Nat) : Int) = (S : Int) + (k.natAbs : Int) from by omega]; exact hqw
  refine ⟨s + k, S + k.natAbs, ?_, hqw', q20_lt32 hqw' h1 h2⟩
  rw [List.reverse_append]
  exact ⟨s, S, k, hx, hk, rfl, rfl⟩
theorem bnot {a b : Option Ordering} (h : (a == b) = false) : ¬ a = b := by simpa using h
theorem byes {a b : Option Ordering} (h : (a == b) = true) : a = b := by simpa using h
set_option maxHeartbeats 4000000 in
set_option maxRecDepth 100000 in
theorem exact28 (l : List Nat) (V : Value) (w : World) (hl : SlAt w V (l.map Fl)) (hlt : ∀ v, v ∈ l → v < 18446744073709551616) (hfin : ∀ v, v ∈ l → absW v < 2047 * 2 ^ 52) (hll : l.length ≤ 1000) :
    Calls Tryz.prog 28 #[V] w fun e w' => ∃ b, e = .returned (.bool b) ∧ Kept [] w w' ∧ (b = true → ∃ s S, Ex20 l.reverse s S ∧ S < 4503599627370496) := by
  obtain ⟨p, c, rfl, hp⟩ := hl.read
  rw [List.length_map]
  have HL := Lib.hid (And.intro hp (And.intro hlt (And.intro hfin hll)))
  clear hp hl hlt hfin hll
  go_enter Tryz.func28, Tryz.ntmps28
  go_wp2_with fail
  go_loopw [3, 9] (fun x i wr => ∃ m s : Nat, m ≤ l.length ∧ x = .float .f64 s ∧ i = .int .i64 (m : Int) ∧ ExRun (l.take m) s ∧ Kept [] w wr) (fun _ i _ => l.length - (intOf i).toNat)
  case atStart => exact ⟨0, 0, Nat.zero_le _, rfl, rfl, ExRun.zero, Kept.refl _ _⟩
  case round =>
  obtain ⟨m, s, hm, rfl, rfl, hrun, hk⟩ := hrel
  have HI := Lib.hid (And.intro hm (And.intro hrun hk))
  clear hm hrun hk
  by_cases hmlt : m < l.length
  · obtain ⟨v, hv⟩ : ∃ v, v = l.getD m 0 := ⟨_, rfl⟩
    have hget : l[m]? = some v := by rw [hv, List.getD_eq_getElem?_getD, List.getElem?_eq_getElem hmlt]; rfl
    have hlm : (l.map Fl)[m]? = some (Fl v) := by rw [List.getElem?_map, hget]; rfl
    obtain ⟨a1, rfl, hcx⟩ := HL.out.1 m _ hlm
    have hcell : wr.cell? (a1.add m) = some (.float .f64 v) := (cellKept HI.out.2.2 (cell_lt hcx) (by simp)).trans hcx
    have hmem : v ∈ l := List.mem_of_getElem? hget
    have htk : l.take (m + 1) = l.take m ++ [v] := by
      rw [List.take_succ_eq_append_getElem hmlt, hv, List.getD_eq_getElem?_getD, List.getElem?_eq_getElem hmlt]; rfl
    have HV := Lib.hid (And.intro htk (And.intro (HL.out.2.1 v hmem) (HL.out.2.2.1 v hmem)))
    have w7 : (m : Int) < (l.length : Int) := by omega
    have w1 : IntKind.i64.wrap ((m : Int) + 1) = (m : Int) + 1 := IntWalk.i64_in _ (by have := HL.out.2.2.2; omega)
    obtain ⟨x, wx, hrx, hdx, hmx, hxl⟩ := mul_any v 4697254411347427328 wr
    have HX := Lib.hid (And.intro hdx (And.intro hmx hxl))
    clear hv hlm hcx hget hmem htk hdx hmx hxl
    go_wp2_with fail
    refine (trunc41 x _).mono ?_
    rintro e wy ⟨y, rfl, hky, hy⟩
    have HY := Lib.hid (And.intro hky hy)
    clear hky hy
    cases e0 : (FloatKind.f64.format.order x y == some Ordering.eq)
    · have q0 := bnot e0
      go_wp2_with fail
      go_ret
      exact ⟨false, rfl, HI.out.2.2.trans ((hd2k HX.out.1).trans HY.out.1), fun h => by cases h⟩
    · have q0 := byes e0
      go_wp2_with fail
      refine (abs12 v _ HV.out.2.1).mono ?_
      rintro e w' ⟨rfl, rfl⟩
      cases e1 : (FloatKind.f64.format.order (absW v) 4751297606875873280 == some Ordering.gt)
      · have q1 := bnot e1
        cases e2 : (FloatKind.f64.format.order (absW v) 4751297606875873280 == some Ordering.eq)
        · have q2 := bnot e2
          have q12 : ((FloatKind.f64.format.order (absW v) 4751297606875873280 == some Ordering.gt) = false ∧ (FloatKind.f64.format.order (absW v) 4751297606875873280 == some Ordering.eq) = false) := ⟨e1, e2⟩
          obtain ⟨r, wr2, hr2, hd2, hm2, hl2⟩ := add_any s (absW v) wy
          have H2 := Lib.hid (And.intro hd2 (And.intro hm2 (And.intro e0 (And.intro e1 e2))))
          clear hd2 hm2 hl2 e0 e1 e2
          have HKR := Lib.hid (HI.out.2.2.trans ((hd2k HX.out.1).trans (HY.out.1.trans (hd2k H2.out.1))))
          cases e3 : (FloatKind.f64.format.order r 4751297606875873280 == some Ordering.gt)
          · cases e4 : (FloatKind.f64.format.order r 4751297606875873280 == some Ordering.eq)
            · have q3 := bnot e3
              have q4 := bnot e4
              have q34 : ((FloatKind.f64.format.order r 4751297606875873280 == some Ordering.gt) = false ∧ (FloatKind.f64.format.order r 4751297606875873280 == some Ordering.eq) = false) := ⟨e3, e4⟩
              have H4 := Lib.hid (And.intro e3 e4)
              clear e3 e4
              go_wp2_with (go_at_call 12; refine (abs12 v _ HV.out.2.1).mono ?_; rintro e w' ⟨rfl, rfl⟩)
              go_roundw
              case rel =>
                obtain ⟨x0, hx0, hnn, hq⟩ := exact_step v HV.out.2.2 H2.out.2.2.2.1 H2.out.2.2.2.2
                obtain rfl := HX.out.2.1 x0 hx0
                obtain ⟨k, hk1, hk2⟩ := hq (by rw [← HY.out.2 hnn]; exact H2.out.2.2.1)
                obtain ⟨r0, hr0, hpush⟩ := HI.out.2.1.push hk1 hk2 H2.out.2.2.2.1 H2.out.2.2.2.2
                obtain rfl := H2.out.2.1 r0 hr0
                exact ⟨m + 1, r, by omega, rfl, by go_num, HV.out.1 ▸ hpush H4.out.1 H4.out.2, HKR.out⟩
              case measure => simp [intOf]; omega
            · have q4 := byes e4
              have q34 : ¬ ((FloatKind.f64.format.order r 4751297606875873280 == some Ordering.gt) = false ∧ (FloatKind.f64.format.order r 4751297606875873280 == some Ordering.eq) = false) := fun h => by rw [h.2] at e4; cases e4
              go_wp2_with (go_at_call 12; refine (abs12 v _ HV.out.2.1).mono ?_; rintro e w' ⟨rfl, rfl⟩)
              go_ret
              exact ⟨false, rfl, HKR.out, fun h => by cases h⟩
          · have q3 := byes e3
            have q34 : ¬ ((FloatKind.f64.format.order r 4751297606875873280 == some Ordering.gt) = false ∧ (FloatKind.f64.format.order r 4751297606875873280 == some Ordering.eq) = false) := fun h => by rw [h.1] at e3; cases e3
            go_wp2_with (go_at_call 12; refine (abs12 v _ HV.out.2.1).mono ?_; rintro e w' ⟨rfl, rfl⟩)
            go_ret
            exact ⟨false, rfl, HKR.out, fun h => by cases h⟩
        · have q2 := byes e2
          have q12 : ¬ ((FloatKind.f64.format.order (absW v) 4751297606875873280 == some Ordering.gt) = false ∧ (FloatKind.f64.format.order (absW v) 4751297606875873280 == some Ordering.eq) = false) := fun h => by rw [h.2] at e2; cases e2
          go_wp2_with fail
          go_ret
          exact ⟨false, rfl, HI.out.2.2.trans ((hd2k HX.out.1).trans HY.out.1), fun h => by cases h⟩
      · have q1 := byes e1
        have q12 : ¬ ((FloatKind.f64.format.order (absW v) 4751297606875873280 == some Ordering.gt) = false ∧ (FloatKind.f64.format.order (absW v) 4751297606875873280 == some Ordering.eq) = false) := fun h => by rw [h.1] at e1; cases e1
        go_wp2_with fail
        go_ret
        exact ⟨false, rfl, HI.out.2.2.trans ((hd2k HX.out.1).trans HY.out.1), fun h => by cases h⟩
  · have hml : (m : Int) = (l.length : Int) := by have := HI.out.1; omega
    have hmn : m = l.length := by omega
    subst hmn
    go_wp2_with fail
    go_ret
    refine .inr ⟨rfl, HI.out.2.2, ?_⟩
    obtain ⟨s', S, h1, _, h3⟩ := HI.out.2.1
    rw [List.take_length] at h1
    exact ⟨s', S, h1, h3⟩
end Go.Proofs.YtlpddogcnpokfaaGreat
namespace Go.Proofs.YtlpddogcnpokfaaGreat
open Go.RowKit Go.Maps
set_option maxHeartbeats 4000000 in
set_option maxRecDepth 100000 in
theorem same29 (h b : Bool) (cnt r r' mn mx zc : Nat) (sc sc' ps ps' ns ns' : Int) (va va' vb vb' : Value) (xs ys : List Nat) (w : World)
    (hb : b = true → (FloatKind.f64.format.order r r' == some .eq) = true) (h1 : SlAt w va (xs.map U)) (h2 : SlAt w va' (xs.map U)) (h3 : SlAt w vb (ys.map U)) (h4 : SlAt w vb' (ys.map U))
    (hx : xs.length ≤ 1000) (hy : ys.length ≤ 1000) (e1 : xs ≠ [] ∨ ys ≠ [] → sc = sc') (e2 : xs ≠ [] → ps = ps') (e3 : ys ≠ [] → ns = ns') :
    Calls Tryz.prog 29 #[.agg #[.bool h, U cnt, U r, U mn, U mx, .int .i32 sc, U zc, .int .i32 ps, va, .int .i32 ns, vb], .agg #[.bool h, U cnt, U r', U mn, U mx, .int .i32 sc', U zc, .int .i32 ps', va', .int .i32 ns', vb'], .bool b] w
      (fun e w' => e = .returned (.bool true) ∧ Kept [] w w') := by
  obtain ⟨pa, ca, rfl, _⟩ := h1.read
  obtain ⟨pa', ca', rfl, _⟩ := h2.read
  obtain ⟨pb, cb, rfl, _⟩ := h3.read
  obtain ⟨pb', cb', rfl, _⟩ := h4.read
  rw [List.length_map, List.length_map] at *
  have F1 := Lib.hid (fun (w' : World) (hk : Kept [] w w') => (equal13 xs xs _ _ w' (h1.kept hk) (h2.kept hk) (by omega)).mono (fun e w2 h => (show e = .returned (.bool true) ∧ Kept [] w' w2 from ⟨h.1.trans (by simp), h.2⟩)))
  have F2 := Lib.hid (fun (w' : World) (hk : Kept [] w w') => (equal13 ys ys _ _ w' (h3.kept hk) (h4.kept hk) (by omega)).mono (fun e w2 h => (show e = .returned (.bool true) ∧ Kept [] w' w2 from ⟨h.1.trans (by simp), h.2⟩)))
  have z1 : xs ≠ [] ↔ xs.length ≠ 0 := by rw [ne_eq, ne_eq, List.length_eq_zero_iff]
  have z2 : ys ≠ [] ↔ ys.length ≠ 0 := by rw [ne_eq, ne_eq, List.length_eq_zero_iff]
  rw [z1, z2] at e1
  rw [z1] at e2
  rw [z2] at e3
  clear h1 h2 h3 h4 z1 z2
  generalize xs.length = na at *
  generalize ys.length = nb at *
  have HE := Lib.hid (And.intro e1 (And.intro e2 e3))
  clear e1 e2 e3
  have g29 : Go.RowKit.wrap64 ((na : Int) + (nb : Int)) = ((na + nb : Nat) : Int) := by unfold Go.RowKit.wrap64; omega
  have HB := Lib.hid hb
  clear hb
  go_enter Tryz.func29, Tryz.ntmps29
  go_upto_region 1 with fail
  obtain ⟨P, hP⟩ : ∃ P, P = w.heap.size := ⟨_, rfl⟩
  obtain ⟨Q, hQ⟩ : ∃ Q, Q = w.heap.size + 1 := ⟨_, rfl⟩
  rw [← hQ, ← hP]
  obtain ⟨W1, hW1⟩ : ∃ W1, W1 = ((w.alloc (Obj.cells #[.bool h, U cnt, U r, U mn, U mx, .int .i32 sc, U zc, .int .i32 ps, .slice pa na ca, .int .i32 ns, .slice pb nb cb] 26)).alloc
          (Obj.cells #[.bool h, U cnt, U r', U mn, U mx, .int .i32 sc', U zc, .int .i32 ps', .slice pa' na ca', .int .i32 ns', .slice pb' nb cb'] 43)) := ⟨_, rfl⟩
  rw [← hW1]
  have hk1 : Kept [] w W1 := by rw [hW1]; exact ((Kept.refl [] w).alloc _).alloc _
  have hp : W1.heap[P]? = some (.cells #[.bool h, U cnt, U r, U mn, U mx, .int .i32 sc, U zc, .int .i32 ps, .slice pa na ca, .int .i32 ns, .slice pb nb cb] 26 (0, 0)) := by
    rw [hW1, hP, Below.heap_alloc _ _ _ (by simp)]; exact (MapKept.heap_alloc w _).1
  have hq : W1.heap[Q]? = some (.cells #[.bool h, U cnt, U r', U mn, U mx, .int .i32 sc', U zc, .int .i32 ps', .slice pa' na ca', .int .i32 ns', .slice pb' nb cb'] 43 (0, 0)) := by
    rw [hW1, hQ, show w.heap.size + 1 = (w.alloc (Obj.cells #[.bool h, U cnt, U r, U mn, U mx, .int .i32 sc, U zc, .int .i32 ps, .slice pa na ca, .int .i32 ns, .slice pb nb cb] 26)).heap.size from by simp]; exact (MapKept.heap_alloc _ _).1
  have HK := Lib.hid (And.intro hk1 (And.intro hp hq))
  clear hW1 hP hQ hk1
  have cP : ∀ w', Kept [] W1 w' → ∀ i v, #[Value.bool h, U cnt, U r, U mn, U mx, .int .i32 sc, U zc, .int .i32 ps, .slice pa na ca, .int .i32 ns, .slice pb nb cb][i]? = some v → w'.cell? ⟨P, i, none⟩ = some v := fun w' hk i v hv => cellOf (hk.obj hp (by simp)) hv
  have cQ : ∀ w', Kept [] W1 w' → ∀ i v, #[Value.bool h, U cnt, U r', U mn, U mx, .int .i32 sc', U zc, .int .i32 ps', .slice pa' na ca', .int .i32 ns', .slice pb' nb cb'][i]? = some v → w'.cell? ⟨Q, i, none⟩ = some v := fun w' hk i v hv => cellOf (hk.obj hq (by simp)) hv
  have HC := Lib.hid (And.intro cP cQ)
  clear hp hq cP cQ
  have a2 : W1.cell? ⟨P, 2, none⟩ = some (.int .u64 (r : Int)) := HC.out.1 W1 (Kept.refl _ _) 2 _ rfl
  have b2 : W1.cell? ⟨Q, 2, none⟩ = some (.int .u64 (r' : Int)) := HC.out.2 W1 (Kept.refl _ _) 2 _ rfl
  have n0 : (h != h) = false := by simp
  have n1 : ((cnt : Int) != (cnt : Int)) = false := by simp
  have n3 : ((mn : Int) != (mn : Int)) = false := by simp
  have n4 : ((mx : Int) != (mx : Int)) = false := by simp
  have n6 : ((zc : Int) != (zc : Int)) = false := by simp
  have HN := Lib.hid (And.intro n0 (And.intro n1 (And.intro n3 (And.intro n4 n6))))
  clear n0 n1 n3 n4 n6
  have go_on : ∀ wx, Kept [] W1 wx → Kept [] w wx := fun wx hk => HK.out.1.trans hk
  cases b
  all_goals
    first
      | (have hor : (FloatKind.f64.format.order r r' != some .eq) = false := by
          have := HB.out rfl
          unfold bne; rw [this]; rfl)
      | have hor : True := trivial
    first
      | (go_quiet (fail)
         rename_i K0 hK0 K1 hK1
         first | refine hK1 _ _ ?_ | refine hK0 _ _ ?_)
      | (go_region
         rename_i K0 hK0 K1 hK1
         rw [hor]
         first | refine hK1 _ _ ?_ | refine hK0 _ _ ?_)
    obtain ⟨W2, hW2, k2⟩ : ∃ W2, W2 = _ ∧ Kept [] W1 W2 := ⟨_, rfl, (Kept.refl [] W1).dr (by first | exact ⟨nq, rfl⟩ | exact ⟨1, rfl⟩)⟩
    first
      | rw [show W1.drewN nq = W2 from hW2.symm]
      | rw [show W1.drew = W2 from hW2.symm]
    clear hW2 a2 b2
    have p0 : W2.cell? ⟨P, 0, none⟩ = some (.bool h) := HC.out.1 W2 k2 0 _ rfl
    have q0 : W2.cell? ⟨Q, 0, none⟩ = some (.bool h) := HC.out.2 W2 k2 0 _ rfl
    have p1 : W2.cell? ⟨P, 1, none⟩ = some (.int .u64 (cnt : Int)) := HC.out.1 W2 k2 1 _ rfl
    have q1 : W2.cell? ⟨Q, 1, none⟩ = some (.int .u64 (cnt : Int)) := HC.out.2 W2 k2 1 _ rfl
    have p3 : W2.cell? ⟨P, 3, none⟩ = some (.int .u64 (mn : Int)) := HC.out.1 W2 k2 3 _ rfl
    have q3 : W2.cell? ⟨Q, 3, none⟩ = some (.int .u64 (mn : Int)) := HC.out.2 W2 k2 3 _ rfl
    have p4 : W2.cell? ⟨P, 4, none⟩ = some (.int .u64 (mx : Int)) := HC.out.1 W2 k2 4 _ rfl
    have q4 : W2.cell? ⟨Q, 4, none⟩ = some (.int .u64 (mx : Int)) := HC.out.2 W2 k2 4 _ rfl
    have p6 : W2.cell? ⟨P, 6, none⟩ = some (.int .u64 (zc : Int)) := HC.out.1 W2 k2 6 _ rfl
    have q6 : W2.cell? ⟨Q, 6, none⟩ = some (.int .u64 (zc : Int)) := HC.out.2 W2 k2 6 _ rfl
    have p5 : W2.cell? ⟨P, 5, none⟩ = some (.int .i32 sc) := HC.out.1 W2 k2 5 _ rfl
    have q5 : W2.cell? ⟨Q, 5, none⟩ = some (.int .i32 sc') := HC.out.2 W2 k2 5 _ rfl
    have p8 : W2.cell? ⟨P, 8, none⟩ = some (.slice pa na ca) := HC.out.1 W2 k2 8 _ rfl
    have q8 : W2.cell? ⟨Q, 8, none⟩ = some (.slice pa' na ca') := HC.out.2 W2 k2 8 _ rfl
    have p10 : W2.cell? ⟨P, 10, none⟩ = some (.slice pb nb cb) := HC.out.1 W2 k2 10 _ rfl
    have q10 : W2.cell? ⟨Q, 10, none⟩ = some (.slice pb' nb cb') := HC.out.2 W2 k2 10 _ rfl
    have n0 := HN.out.1; have n1 := HN.out.2.1; have n3 := HN.out.2.2.1; have n4 := HN.out.2.2.2.1; have n6 := HN.out.2.2.2.2
    have FF1 := Lib.hid (F1.out W2 (go_on W2 k2))
    have K2 := Lib.hid k2
    clear k2
    by_cases hna : na = 0 <;> by_cases hnb : nb = 0
    all_goals
      first
        | (subst hna; have g1 : True := trivial)
        | (have g1 : (((na : Nat) : Int) == 0) = false := by rw [beq_eq_false_iff_ne]; omega)
      first
        | (subst hnb; have g2 : True := trivial)
        | (have g2 : (((nb : Nat) : Int) == 0) = false := by rw [beq_eq_false_iff_ne]; omega)
      first
        | (have g3 : sc = sc' := HE.out.1 (by omega)
           subst g3
           have g4 : (sc != sc) = false := by simp)
        | have g4 : True := trivial
      first
        | have g5 : (0 : Int) < (na : Int) + (nb : Int) := by omega
        | have g5 : True := trivial
      first
        | have g5a : 0 < na := by omega
        | have g5a : True := trivial
      first
        | have g5b : 0 < nb := by omega
        | have g5b : True := trivial
      go_wp2_with fail
      refine FF1.out.mono ?_; rintro e w8 ⟨rfl, hk⟩
      have k8 : Kept [] W1 w8 := K2.out.trans hk
      clear p0 q0 p1 q1 p3 q3 p4 q4 p6 q6 p5 q5 p8 q8 p10 q10 n0 n1 n3 n4 n6 hk
      have p10 : w8.cell? ⟨P, 10, none⟩ = some (.slice pb _ cb) := HC.out.1 w8 k8 10 _ rfl
      have q10 : w8.cell? ⟨Q, 10, none⟩ = some (.slice pb' _ cb') := HC.out.2 w8 k8 10 _ rfl
      have FF2 := Lib.hid (F2.out w8 (go_on w8 k8))
      have K8 := Lib.hid k8
      clear k8 FF1 F1 F2
      go_wp2_with fail
      refine FF2.out.mono ?_; rintro e w9 ⟨rfl, hk⟩
      have k9 : Kept [] W1 w9 := K8.out.trans hk
      clear p10 q10 hk
      have q8 : w9.cell? ⟨Q, 8, none⟩ = some (.slice pa' _ ca') := HC.out.2 w9 k9 8 _ rfl
      have q10 : w9.cell? ⟨Q, 10, none⟩ = some (.slice pb' _ cb') := HC.out.2 w9 k9 10 _ rfl
      have p7 : w9.cell? ⟨P, 7, none⟩ = some (.int .i32 ps) := HC.out.1 w9 k9 7 _ rfl
      have q7 : w9.cell? ⟨Q, 7, none⟩ = some (.int .i32 ps') := HC.out.2 w9 k9 7 _ rfl
      have p9 : w9.cell? ⟨P, 9, none⟩ = some (.int .i32 ns) := HC.out.1 w9 k9 9 _ rfl
      have q9 : w9.cell? ⟨Q, 9, none⟩ = some (.int .i32 ns') := HC.out.2 w9 k9 9 _ rfl
      first
        | (have g6 : ps = ps' := HE.out.2.1 (by omega)
           subst g6
           have g7 : (ps == ps) = true := by simp)
        | have g7 : True := trivial
      first
        | (have g8 : ns = ns' := HE.out.2.2 (by omega)
           subst g8
           have g9 : (ns == ns) = true := by simp)
        | have g9 : True := trivial
      have K9 := Lib.hid (go_on w9 k9)
      clear k9 FF2
      go_wp2_with fail
      go_ret
      exact ⟨rfl, K9.out⟩
end Go.Proofs.YtlpddogcnpokfaaGreat
namespace Go.Proofs.YtlpddogcnpokfaaGreat
open Go.RowKit Go.Maps
theorem info24 : ∃ i, Tryz.prog.info? 24 = some i ∧ i.zero = some (.slice none 0 0) ∧ i.size = 1 ∧ i.bytes = 24 := by
  have h : (Tryz.prog.info? 24).map (fun i => (i.zero, i.size, i.bytes)) = some (some (.slice none 0 0), 1, 24) := by kernel_rfl
  cases hi : Tryz.prog.info? 24 with
  | none => rw [hi] at h; cases h
  | some i => rw [hi] at h; simp only [Option.map_some, Option.some.injEq, Prod.mk.injEq] at h; exact ⟨i, rfl, h.1, h.2.1, h.2.2⟩
theorem info43 : ∃ i, Tryz.prog.info? 43 = some i ∧ i.zero = some (.agg exZero.toArray) ∧ i.size = 11 ∧ i.bytes = 120 := by
  have h : (Tryz.prog.info? 43).map (fun i => (i.zero, i.size, i.bytes)) = some (some (.agg exZero.toArray), 11, 120) := by kernel_rfl
  cases hi : Tryz.prog.info? 43 with
  | none => rw [hi] at h; cases h
  | some i => rw [hi] at h; simp only [Option.map_some, Option.some.injEq, Prod.mk.injEq] at h; exact ⟨i, rfl, h.1, h.2.1, h.2.2⟩
theorem info4 : ∃ i, Tryz.prog.info? 4 = some i ∧ i.zero = some (.bool false) ∧ i.size = 1 ∧ i.bytes = 1 := by
  have h : (Tryz.prog.info? 4).map (fun i => (i.zero, i.size, i.bytes)) = some (some (.bool false), 1, 1) := by kernel_rfl
  cases hi : Tryz.prog.info? 4 with
  | none => rw [hi] at h; cases h
  | some i => rw [hi] at h; simp only [Option.map_some, Option.some.injEq, Prod.mk.injEq] at h; exact ⟨i, rfl, h.1, h.2.1, h.2.2⟩
/-- a round that came in -/
def FlIn (w : World) (v : Value) (l : List Nat) : Prop := (l ≠ [] ∧ SlAt w v (l.map Fl)) ∨ (l = [] ∧ (v = .slice none 0 0 ∨ ∃ a c, v = .slice (some a) 0 c))
theorem FlIn.kept {w w' : World} {v : Value} {l : List Nat} {S : List Nat} (h : FlIn w v l) (hk : Kept S w w') (hS : ∀ i, i ∈ S → w.heap.size ≤ i) : FlIn w' v l := by
  rcases h with ⟨h1, h2⟩ | h
  · exact .inl ⟨h1, h2.kept (hk.mono fun i hi => .inr (hS i hi))⟩
  · exact .inr h
theorem FlIn.form {w : World} {v : Value} {l : List Nat} (h : FlIn w v l) : ∃ p c, v = .slice p l.length c := by
  rcases h with ⟨_, h⟩ | ⟨rfl, rfl | ⟨a, c, rfl⟩⟩
  · obtain ⟨p, c, e, _⟩ := h.read
    rw [List.length_map] at e
    exact ⟨p, c, e⟩
  · exact ⟨_, _, rfl⟩
  · exact ⟨_, _, rfl⟩
set_option maxRecDepth 100000 in
theorem bits20_none (p : Option Addr) (c : Nat) (w : World) :
    Calls Tryz.prog 20 #[.slice p 0 c] w fun e w' => e = .returned (.slice none 0 0) ∧ w = w' := by
  go_enter Tryz.func20, Tryz.ntmps20
  go_wp2_with fail
  refine wp_loop_once ?_
  go_wp2_with fail
  go_ret
  exact ⟨rfl, rfl⟩
theorem bits20_in (v : Value) (l : List Nat) (w : World) (hv : FlIn w v l) (hl : l.length ≤ 1000) :
    Calls Tryz.prog 20 #[v] w fun e w' => ∃ v', e = .returned v' ∧ w'.ownsRow w.heap.size 23 1 v' l.length (l.map U) ∧ Kept [] w w' := by
  rcases hv with ⟨_, hv⟩ | ⟨rfl, hv⟩
  · exact bits20 v l w hv hl
  · have : ∃ p c, v = .slice p 0 c := by
      rcases hv with rfl | ⟨a, c, rfl⟩
      · exact ⟨_, _, rfl⟩
      · exact ⟨_, _, rfl⟩
    obtain ⟨p, c, rfl⟩ := this
    refine (bits20_none p c w).mono ?_
    rintro e w' ⟨rfl, rfl⟩
    exact ⟨_, rfl, ⟨rfl, .inl ⟨rfl, rfl⟩⟩, Kept.refl _ _⟩
set_option maxHeartbeats 1000000 in
set_option maxRecDepth 100000 in
theorem point19_any (size scale : Int) (p : Option Addr) (c : Nat) (w : World) : Calls Tryz.prog 19 #[.int .i32 size, .int .i32 scale, .slice p 0 c] w fun e w' => e = .returned (.tuple #[.agg exZero.toArray, .bool false]) ∧ Kept [] w w' := by
  go_enter Tryz.func19, Tryz.ntmps19
  go_wp2_with (refine wpList_store_row rfl 43 _ _ rfl w.heap.size exZero.toArray rfl rfl 43 exZero.toArray (MapKept.heap_alloc w _).1 exz_sz rfl exz_one ?_)
  (try simp only [Exit.inBlock, Exit.then])
  refine bodyPost_ret (res19 (g := w.heap.size) (cs := exZero.toArray) (op := false) rfl rfl (setRow_heap _ _ _ _ _ _ (MapKept.heap_alloc w _).1) rfl) rfl ?_
  exact ⟨rfl, setRow_kept ((Kept.refl [] w).alloc _) (.inr (Nat.le_refl _))⟩
theorem run_append_none (w : World) (base : Nat) (v : Value) (n : Nat) (xs : List Value) (ty : TypeId) (hown : w.ownsRow base 32 1 v n xs) (hn : n ≤ maxLen) :
    (Builtin.append_ #[22, 22] ty #[v, .slice none 0 0]).run Tryz.prog w = .ok v w := by
  obtain ⟨i0, hi, hz0, hz1, hz2⟩ := info32
  obtain ⟨hl, hr⟩ := hown
  rcases hr with ⟨rfl, rfl⟩ | ⟨g, cap, cur, rfl, h2, h3, h4, h5, h6, h7⟩
  · simp [Builtin.append_, run_underlying Tryz.underlying22, sizeOf, typeInfo, hi, Builtin.lenOf, Builtin.firstCells]
  · simp [Builtin.append_, run_underlying Tryz.underlying22, sizeOf, typeInfo, hi, Builtin.lenOf, Builtin.firstCells, h4]
    simp [storeCells]
theorem run_append_in (w : World) (base : Nat) (v : Value) (n : Nat) (xs : List Value) (ty : TypeId) (x : Value) (l : List Nat) (hown : w.ownsRow base 32 1 v n xs) (hx : FlIn w x l) (hn : n + l.length ≤ 1000) (hb : base ≤ w.heap.size) :
    ∃ v' w', (Builtin.append_ #[22, 22] ty #[v, x]).run Tryz.prog w = .ok v' w' ∧ w'.ownsRow base 32 1 v' (n + l.length) (xs ++ l.map Fl) ∧ w.grownBy w' v.ownBlock := by
  obtain ⟨i0, hi, hz0, hz1, hz2⟩ := info32
  have key : ∀ a c, x = .slice (some a) l.length c → (∀ j u, (l.map Fl)[j]? = some u → w.cell? (a.add j) = some u) → ∃ v' w', (Builtin.append_ #[22, 22] ty #[v, x]).run Tryz.prog w = .ok v' w' ∧ w'.ownsRow base 32 1 v' (n + l.length) (xs ++ l.map Fl) ∧ w.grownBy w' v.ownBlock := by
    rintro a c rfl hc
    obtain ⟨v', w', hr, h2, h3, _, _⟩ := run_append_own_at (P := Tryz.prog) w base 22 ty 32 i0 (.float .f64 0) 1 8 Tryz.underlying22 hi hz0 hz1 hz2 rfl (by decide) v n xs hown a l.length c (l.map Fl) (by simp) hc (fun u hu => by obtain ⟨k, _, rfl⟩ := List.mem_map.1 hu; rfl) (by unfold maxLen; omega) (by omega) hb
    exact ⟨v', w', hr, h2, h3⟩
  rcases hx with ⟨hne, hs⟩ | ⟨rfl, rfl | ⟨a, c, rfl⟩⟩
  · rcases hs with ⟨_, h⟩ | ⟨a, c, h1, _, _, _, h5⟩
    · exact absurd (List.map_eq_nil_iff.1 h) hne
    · rw [List.length_map] at h1
      exact key a c h1 h5
  · refine ⟨v, w, run_append_none w base v n xs ty hown (by unfold maxLen; omega), by simpa using hown, ⟨rfl, rfl, rfl, Nat.le_refl _, fun _ _ _ => rfl⟩⟩
  · exact key a c rfl (fun j u h => by simp at h)
theorem wpList_append_in {ops : Array Oper} {rest : List Oper} {o : Oper} {a : Act} {w : World} {Q : Exit → Act → World → Prop} (hgd : o.guard = none) (s x : Operand)
    (ho : o.op = .call { callee := .builtin .append, args := #[s, x], argTypes := #[22, 22] }) (base : Nat) (v : Value) (n : Nat) (xs : List Value) (hs : a.eval s = v) (hown : w.ownsRow base 32 1 v n xs)
    (xv : Value) (l : List Nat) (hx : a.eval x = xv) (hin : FlIn w xv l) (hn : n + l.length ≤ 1000) (hb : base ≤ w.heap.size)
    (h : ∀ v' w', w'.ownsRow base 32 1 v' (n + l.length) (xs ++ l.map Fl) → w.grownBy w' v.ownBlock → wpList Tryz.prog ops Q rest (a.put o.dst v') w') :
    wpList Tryz.prog ops Q (o :: rest) a w := by
  refine wpList_plain hgd fun K hK => ?_
  obtain ⟨v', w', hr, h2, h3⟩ := run_append_in w base v n xs o.type xv l hown hin hn hb
  unfold Oper.wp execOp
  simp only [ho, resolve, invoke, builtin, Sem.run_bind, Sem.run_pure, Result.andThen_ok, List.map_toArray, List.map_cons, List.map_nil, hs, hx, hr]
  exact hK _ _ (h v' w' h2 h3)
end Go.Proofs.YtlpddogcnpokfaaGreat
namespace Go.Proofs.YtlpddogcnpokfaaGreat
open Go.RowKit Go.Maps
/-- the reference's data point of a list, as it lies -/
structure Ref (w : World) (l : List Nat) (top : Nat) (size scale : Int) (cs : List Value) : Prop where
  is : (l = [] ∧ cs = exZero) ∨ (l ≠ [] ∧ Fine top size ((top : Int) - scale).toNat (top + 10) l ∧ SpPt w l top size scale cs)
  len : cs.length = 11
  one : ∀ v, v ∈ cs → v.oneCell' = true
  ty : ∀ v, v ∈ cs → ∀ a n c, v = .slice (some a) n c → ∃ cur, w.heap[a.block]? = some (.cells cur 23 (0, 0))
theorem SpPt.keptS {w w' : World} {l : List Nat} {top : Nat} {size scale : Int} {cs : List Value} {S : List Nat} (h : SpPt w l top size scale cs) (hk : Kept S w w') (hS : ∀ v, v ∈ cs → ∀ a n c, v = .slice (some a) n c → a.block ∉ S) : SpPt w' l top size scale cs := by
  obtain ⟨b, s, stp, lp, stn, ln, va, vb, h1, h2, h3, h4, h5, h6, h7, h8, h9, h10, h11⟩ := h
  exact ⟨b, s, stp, lp, stn, ln, va, vb, h1, h2, h3, h4, h5, h6, h7, h8, h9, h10.keptS hk (hS va (by rw [h9]; simp)), h11.keptS hk (hS vb (by rw [h9]; simp))⟩
/-- what changes are rows of other types -/
theorem Ref.keptS {w w' : World} {l : List Nat} {top : Nat} {size scale : Int} {cs : List Value} {S : List Nat} (h : Ref w l top size scale cs) (hk : Kept S w w') (hS : ∀ i, i ∈ S → w.heap.size ≤ i ∨ ∃ cur t, w.heap[i]? = some (.cells cur t (0, 0)) ∧ t ≠ 23) : Ref w' l top size scale cs := by
  have hno : ∀ v, v ∈ cs → ∀ a n c, v = .slice (some a) n c → a.block ∉ S := fun v hv a n c e hm => by
    obtain ⟨cur, hc⟩ := h.ty v hv a n c e
    rcases hS _ hm with h1 | ⟨cur', t, h1, h2⟩
    · have := heap_lt hc; omega
    · rw [hc] at h1; injection h1 with h1; injection h1 with _ h1; exact h2 h1.symm
  refine ⟨h.is.imp id fun ⟨h1, h2, h3⟩ => ⟨h1, h2, h3.keptS hk hno⟩, h.len, h.one, fun v hv a n c e => ?_⟩
  obtain ⟨cur, hc⟩ := h.ty v hv a n c e
  exact ⟨cur, hk.obj hc (hno v hv a n c e)⟩
theorem Ref.kept {w w' : World} {l : List Nat} {top : Nat} {size scale : Int} {cs : List Value} (h : Ref w l top size scale cs) (hk : Kept [] w w') : Ref w' l top size scale cs := h.keptS hk (by simp)
theorem Ref.of_point {w' : World} {l : List Nat} {top : Nat} {size scale : Int} {cs : List Value} {op : Bool} (hne : l ≠ []) (hF : Fine top size ((top : Int) - scale).toNat (top + 10) l) (h : SpPt w' l top size scale cs) (ht : PtTy w' (.returned (.tuple #[.agg (List.toArray cs), .bool op]))) : Ref w' l top size scale cs := by
  obtain ⟨b, s, stp, lp, stn, ln, va, vb, h1, h2, h3, h4, h5, h6, h7, h8, h9, h10, h11⟩ := id h
  refine ⟨.inr ⟨hne, hF, h⟩, by rw [h9]; rfl, fun v hv => ?_, fun v hv => ht cs op rfl v hv⟩
  have o1 := slForm h10; have o2 := slForm h11
  rw [h9] at hv
  simp [U] at hv
  rcases hv with rfl | rfl | rfl | rfl | rfl | rfl | rfl | rfl | rfl | rfl | rfl <;> first | exact o1 | exact o2 | rfl
theorem Ref.zero (w : World) (top : Nat) (size scale : Int) : Ref w [] top size scale exZero :=
  ⟨.inl ⟨rfl, rfl⟩, rfl, fun v hv => (Array.all_eq_true_iff_forall_mem.1 exz_one) v (by simpa using hv), fun v hv a n c e => by subst e; simp [exZero, U] at hv⟩
end Go.Proofs.YtlpddogcnpokfaaGreat
namespace Go.Proofs.YtlpddogcnpokfaaGreat
open Go.RowKit Go.Maps
/-- the law's rows as a round is laid: the rounds' bits, the wanted points, the exact ones, and the bits of the round at hand -/
structure T9 (B : Nat) (O : List Nat) (W0 : World) (v10 : Value) (n10 : Nat) (x10 : List Value) (v11 : Value) (n11 : Nat) (x11 : List Value) (v12 : Value) (n12 : Nat) (x12 : List Value) (v20 : Value) (x20 : List Value) (w : World) : Prop where
  k : Kept O W0 w
  o10 : w.ownsRow B 24 1 v10 n10 x10
  o11 : w.ownsRow B 43 11 v11 n11 x11
  o12 : w.ownsRow B 4 1 v12 n12 x12
  o20 : w.ownsRow 0 23 1 v20 x20.length x20
  f10 : ∀ z, v10.ownBlock = some z → z ∈ O ∨ W0.heap.size ≤ z
  f11 : ∀ z, v11.ownBlock = some z → z ∈ O ∨ W0.heap.size ≤ z
  f12 : ∀ z, v12.ownBlock = some z → z ∈ O ∨ W0.heap.size ≤ z
  b : B ≤ W0.heap.size
section
variable {B : Nat} {O : List Nat} {W0 w w' : World} {v10 v11 v12 v20 : Value} {n10 n11 n12 : Nat} {x10 x11 x12 x20 : List Value}
theorem T9.base (h : T9 B O W0 v10 n10 x10 v11 n11 x11 v12 n12 x12 v20 x20 w) : B ≤ w.heap.size := Nat.le_trans h.b h.k.size
theorem T9.kept (h : T9 B O W0 v10 n10 x10 v11 n11 x11 v12 n12 x12 v20 x20 w) (hk : Kept [] w w') : T9 B O W0 v10 n10 x10 v11 n11 x11 v12 n12 x12 v20 x20 w' :=
  ⟨h.k.trans2 hk (by simp), own_keptK h.o10 hk (by simp), own_keptK h.o11 hk (by simp), own_keptK h.o12 hk (by simp), own_keptK h.o20 hk (by simp), h.f10, h.f11, h.f12, h.b⟩
theorem T9.alloc (h : T9 B O W0 v10 n10 x10 v11 n11 x11 v12 n12 x12 v20 x20 w) (o : Obj) : T9 B O W0 v10 n10 x10 v11 n11 x11 v12 n12 x12 v20 x20 (w.alloc o) := h.kept ((Kept.refl _ _).alloc _)
theorem T9.dr (h : T9 B O W0 v10 n10 x10 v11 n11 x11 v12 n12 x12 v20 x20 w) : T9 B O W0 v10 n10 x10 v11 n11 x11 v12 n12 x12 v20 x20 w.drew := h.kept ((Kept.refl _ _).dr ⟨1, rfl⟩)
theorem T9.bits (h : T9 B O W0 v10 n10 x10 v11 n11 x11 v12 n12 x12 v20 x20 w) (hk : Kept [] w w') {v : Value} {xs : List Value} {b : Nat} (ho : w'.ownsRow b 23 1 v xs.length xs) : T9 B O W0 v10 n10 x10 v11 n11 x11 v12 n12 x12 v xs w' :=
  ⟨h.k.trans2 hk (by simp), own_keptK h.o10 hk (by simp), own_keptK h.o11 hk (by simp), own_keptK h.o12 hk (by simp), own_mono0 ho, h.f10, h.f11, h.f12, h.b⟩
theorem grow_own {v o : Value} {b1 b2 n1 n2 k1 k2 : Nat} {e1 e2 : TypeId} {xs ys : List Value} (h : w.ownsRow b1 e1 k1 v n1 xs) (ho : w.ownsRow b2 e2 k2 o n2 ys) (he : e1 ≠ e2) (hg : w.grownBy w' o.ownBlock) : w'.ownsRow b1 e1 k1 v n1 xs :=
  own_keptK h (grownBy_kept hg) fun z hz hm => by
    rcases own_ne h ho he with e | e
    · rw [e] at hz; cases hz
    · simp at hm; exact e (hz.trans hm.symm)
theorem T9.grow (h : T9 B O W0 v10 n10 x10 v11 n11 x11 v12 n12 x12 v20 x20 w) {o : Value} (hf : ∀ z, o.ownBlock = some z → z ∈ O ∨ W0.heap.size ≤ z) (hg : w.grownBy w' o.ownBlock) : Kept O W0 w' :=
  h.k.trans2 (grownBy_kept hg) fun i hi => hf i (by simpa using hi)
theorem T9.new (h : T9 B O W0 v10 n10 x10 v11 n11 x11 v12 n12 x12 v20 x20 w) {o o' : Value} (hf : ∀ z, o.ownBlock = some z → z ∈ O ∨ W0.heap.size ≤ z) (hat : o'.ownBlock = o.ownBlock ∨ o'.ownBlock = some w.heap.size) : ∀ z, o'.ownBlock = some z → z ∈ O ∨ W0.heap.size ≤ z := fun z hz => by
  rcases hat with e | e
  · exact hf z (e ▸ hz)
  · rw [e] at hz; injection hz with hz; subst hz; exact .inr h.k.size
theorem T9.app10 (h : T9 B O W0 v10 n10 x10 v11 n11 x11 v12 n12 x12 v20 x20 w) {v' : Value} {n' : Nat} {x' : List Value} (ho : w'.ownsRow B 24 1 v' n' x') (hg : w.grownBy w' v10.ownBlock) (hat : v'.ownBlock = v10.ownBlock ∨ v'.ownBlock = some w.heap.size) : T9 B O W0 v' n' x' v11 n11 x11 v12 n12 x12 v20 x20 w' :=
  ⟨h.grow h.f10 hg, ho, grow_own h.o11 h.o10 (by decide) hg, grow_own h.o12 h.o10 (by decide) hg, grow_own h.o20 h.o10 (by decide) hg, h.new h.f10 hat, h.f11, h.f12, h.b⟩
theorem T9.app11 (h : T9 B O W0 v10 n10 x10 v11 n11 x11 v12 n12 x12 v20 x20 w) {v' : Value} {n' : Nat} {x' : List Value} (ho : w'.ownsRow B 43 11 v' n' x') (hg : w.grownBy w' v11.ownBlock) (hat : v'.ownBlock = v11.ownBlock ∨ v'.ownBlock = some w.heap.size) : T9 B O W0 v10 n10 x10 v' n' x' v12 n12 x12 v20 x20 w' :=
  ⟨h.grow h.f11 hg, grow_own h.o10 h.o11 (by decide) hg, ho, grow_own h.o12 h.o11 (by decide) hg, grow_own h.o20 h.o11 (by decide) hg, h.f10, h.new h.f11 hat, h.f12, h.b⟩
theorem T9.app12 (h : T9 B O W0 v10 n10 x10 v11 n11 x11 v12 n12 x12 v20 x20 w) {v' : Value} {n' : Nat} {x' : List Value} (ho : w'.ownsRow B 4 1 v' n' x') (hg : w.grownBy w' v12.ownBlock) (hat : v'.ownBlock = v12.ownBlock ∨ v'.ownBlock = some w.heap.size) : T9 B O W0 v10 n10 x10 v11 n11 x11 v' n' x' v20 x20 w' :=
  ⟨h.grow h.f12 hg, grow_own h.o10 h.o12 (by decide) hg, grow_own h.o11 h.o12 (by decide) hg, ho, grow_own h.o20 h.o12 (by decide) hg, h.f10, h.f11, h.new h.f12 hat, h.b⟩
/-- a row of another type stays as one of them grows -/
theorem T9.row10 (h : T9 B O W0 v10 n10 x10 v11 n11 x11 v12 n12 x12 v20 x20 w) (hg : w.grownBy w' v10.ownBlock) {g : Nat} {cur : Array Value} {t : TypeId} (hc : w.heap[g]? = some (.cells cur t (0, 0))) (ht : t ≠ 24) : w'.heap[g]? = some (.cells cur t (0, 0)) :=
  (grownBy_kept hg).obj hc fun hm => by
    simp at hm
    obtain ⟨cur', hc'⟩ := own_type h.o10 hm
    rw [hc] at hc'; injection hc' with hc'; injection hc' with _ e; exact ht e
end
end Go.Proofs.YtlpddogcnpokfaaGreat
namespace Go.Proofs.YtlpddogcnpokfaaGreat
open Go.RowKit Go.Maps
/-- two data points are the same -/
def Same2 (w : World) (cs cs' : List Value) (b : Bool) : Prop :=
  ∃ (h : Bool) (cnt r r' mn mx zc : Nat) (sc sc' ps ps' ns ns' : Int) (va va' vb vb' : Value) (xs ys : List Nat),
    cs = [.bool h, U cnt, U r, U mn, U mx, .int .i32 sc, U zc, .int .i32 ps, va, .int .i32 ns, vb] ∧ cs' = [.bool h, U cnt, U r', U mn, U mx, .int .i32 sc', U zc, .int .i32 ps', va', .int .i32 ns', vb'] ∧
    (b = true → (FloatKind.f64.format.order r r' == some .eq) = true) ∧ SlAt w va (xs.map U) ∧ SlAt w va' (xs.map U) ∧ SlAt w vb (ys.map U) ∧ SlAt w vb' (ys.map U) ∧
    xs.length ≤ 1000 ∧ ys.length ≤ 1000 ∧ (xs ≠ [] ∨ ys ≠ [] → sc = sc') ∧ (xs ≠ [] → ps = ps') ∧ (ys ≠ [] → ns = ns')
theorem Same2.calls {w : World} {cs cs' : List Value} {b : Bool} (h : Same2 w cs cs' b) : Calls Tryz.prog 29 #[.agg cs.toArray, .agg cs'.toArray, .bool b] w (fun e w' => e = .returned (.bool true) ∧ Kept [] w w') := by
  obtain ⟨h, cnt, r, r', mn, mx, zc, sc, sc', ps, ps', ns, ns', va, va', vb, vb', xs, ys, rfl, rfl, h1, h2, h3, h4, h5, h6, h7, h8, h9, h10⟩ := h
  exact same29 h b cnt r r' mn mx zc sc sc' ps ps' ns ns' va va' vb vb' xs ys w h1 h2 h3 h4 h5 h6 h7 h8 h9 h10
theorem Same2.kept {w w' : World} {cs cs' : List Value} {b : Bool} (h : Same2 w cs cs' b) (hk : Kept [] w w') : Same2 w' cs cs' b := by
  obtain ⟨h, cnt, r, r', mn, mx, zc, sc, sc', ps, ps', ns, ns', va, va', vb, vb', xs, ys, rfl, rfl, h1, h2, h3, h4, h5, h6⟩ := h
  exact ⟨h, cnt, r, r', mn, mx, zc, sc, sc', ps, ps', ns, ns', va, va', vb, vb', xs, ys, rfl, rfl, h1, h2.kept hk, h3.kept hk, h4.kept hk, h5.kept hk, h6⟩
theorem same_of {w : World} {l : List Nat} {top : Nat} {size scale : Int} {cs cs' : List Value} {b : Bool} (hs : 1 ≤ size) (hs2 : size ≤ 200) (ht : top ≤ 20) (hS : scale ≤ top) (hl : l.length ≤ 1000)
    (hx : ExIs w [] top size scale l cs) (hr : Ref w l top size scale cs') (hb : b = true → ∃ s S, Ex20 l.reverse s S ∧ S < 4503599627370496) : Same2 w cs cs' b := by
  rcases hx with ⟨rfl, rfl⟩ | ⟨hne, r, mn, mx, va, vb, hmm, hsum, rfl, ha, hbv⟩
  · rcases hr.is with ⟨_, rfl⟩ | ⟨h, _⟩
    · exact ⟨false, 0, 0, 0, 0, 0, 0, 0, 0, 0, 0, 0, 0, _, _, _, _, [], [], rfl, rfl, fun _ => by decide +kernel, .inl ⟨rfl, rfl⟩, .inl ⟨rfl, rfl⟩, .inl ⟨rfl, rfl⟩, .inl ⟨rfl, rfl⟩, by decide, by decide, fun _ => rfl, fun _ => rfl, fun _ => rfl⟩
    · exact absurd rfl h
  · rcases hr.is with ⟨h, _⟩ | ⟨_, hF, hp⟩
    · exact absurd h hne
    · obtain ⟨b', s, stp, lp, stn, ln, va', vb', h1, h2, h3, h4, h5, h6, h7, h8, rfl, h10, h11⟩ := hp
      obtain ⟨b1, hbk⟩ := hF.ok hs ht hS
      obtain ⟨hlim, _, hcnt⟩ := hF.lim hs hs2 ht hS (by omega)
      have e : b1 = b' := by
        have a1 := hbk.below h1 h5 h6
        rcases Nat.lt_or_ge b1 b' with h | h
        · exact absurd ⟨hbk.fp, hbk.fn⟩ (h7 b1 hbk.le h)
        · omega
      subst e
      obtain ⟨e1, e2⟩ := hbk.sp.one h3
      obtain ⟨e3, e4⟩ := hbk.sn.one h4
      obtain ⟨m1, m2⟩ := mmOf_sp hF.fin hmm
      subst m1 m2
      refine ⟨true, l.length, r, s, spMn l, spMx l, zIs l, _, _, _, _, _, _, va, va', vb, vb', lp, ln, ?_, rfl, ?_, ?_, h10, ?_, h11, ?_, ?_, fun _ => rfl, fun _ => rfl, fun _ => rfl⟩
      · rw [hcnt]
        unfold exVals
        rw [hbk.sc, hbk.zc, e1, e3]
      · intro hbt
        obtain ⟨s0, S0, hx0, hS0⟩ := hb hbt
        exact hsum.same h8 hx0 hS0
      · rw [← e2]; exact SlAt.own ha.1
      · rw [← e4]; exact SlAt.own hbv.1
      · rw [← e2]; have := hlim.pl; omega
      · rw [← e4]; have := hlim.nl; omega
end Go.Proofs.YtlpddogcnpokfaaGreat
namespace Go.Proofs.YtlpddogcnpokfaaGreat
open Go.RowKit Go.Maps
theorem point19_all (l : List Nat) (n : Nat) (top : Nat) (size scale : Int) (V : Value) (base : Nat) (w : World) (hn : n = l.length) (hl : w.ownsRow base 32 1 V n (l.map Fl)) (hlt : ∀ v, v ∈ l → v < 18446744073709551616) (hll : l.length ≤ 1000) (h1 : 1 ≤ size) (h2 : size ≤ 200) (h3 : -10 ≤ scale) (h4 : scale ≤ 20) (ht : (top : Int) = max scale 0) :
    Calls Tryz.prog 19 #[.int .i32 size, .int .i32 scale, V] w fun e w' => ∃ cs op, e = .returned (.tuple #[.agg (List.toArray cs), .bool op]) ∧ Kept [] w w' ∧ cs.length = 11 ∧ (∀ v, v ∈ cs → v.oneCell' = true) ∧ (op = false → Ref w' l top size scale cs) := by
  subst hn
  by_cases hne : l = []
  · subst hne
    obtain ⟨ad, c, rfl⟩ := own_shape hl
    refine (point19_any size scale ad c w).mono ?_
    rintro e w' ⟨rfl, hk⟩
    exact ⟨exZero, false, rfl, hk, rfl, (Ref.zero w' top size scale).one, fun _ => Ref.zero w' top size scale⟩
  · refine (point19x l top size scale V w (SlAt.own hl) hlt hll hne h1 h2 h3 h4 ht).mono ?_
    rintro e w' ⟨⟨cs, op, rfl, hk, h⟩, hty⟩
    rcases h with ⟨rfl, rfl, _⟩ | ⟨rfl, hF, hp⟩
    · exact ⟨exZero, true, rfl, hk, rfl, (Ref.zero w' top size scale).one, fun h => by cases h⟩
    · have := Ref.of_point hne hF hp hty
      exact ⟨cs, false, rfl, hk, this.len, this.one, fun _ => this⟩
theorem floats22_all (delta : Bool) (top : Nat) (ms S : Int) (rs : List (List Nat)) (v : Value) (vs : List Value) (w : World) (hv : SlAt w v vs) (hvs : vs.length = rs.length) (hr : ∀ i, i < rs.length → SlAt w (vs.getD i undef) ((rs.getD i []).map U))
    (hf : ∀ i, i < rs.length → ∃ B, Fine top ms ((top : Int) - S).toNat B (accL delta rs i)) (hlen : rs.length ≤ 500) (htot : rs.flatten.length ≤ 500)
    (hs : 1 ≤ ms) (hs2 : ms ≤ 200) (ht : top ≤ 20) (hS : S ≤ top) (hS2 : -10 ≤ S) :
    Calls Tryz.prog 22 #[.bool delta, .int .i32 ms, .int .i32 S, v] w (ExPost w top ms S delta rs) := by
  cases delta
  · exact floats22c top ms S rs v vs w hv hvs hr hf hlen htot hs hs2 ht hS hS2 over71
  · exact floats22d top ms S rs v vs w hv hvs hr hf hlen htot hs hs2 ht hS hS2 over71
theorem Ref.fine {w : World} {l : List Nat} {top : Nat} {size scale : Int} {cs : List Value} (h : Ref w l top size scale cs) (_hS : scale ≤ top) (hS2 : -10 ≤ scale) (ht : (top : Int) = max scale 0) : ∃ B, Fine top size ((top : Int) - scale).toNat B l := by
  rcases h.is with ⟨rfl, _⟩ | ⟨_, h, _⟩
  · exact ⟨top + 10, fun v h => (by cases h), fun v h => (by cases h), fun v h => (by cases h), by omega, Nat.le_refl _, fun x hx => by simp [pIs] at hx, fun x hx => by simp [nIs] at hx⟩
  · exact ⟨_, h⟩
theorem acc_len {delta : Bool} {rs : List (List Nat)} (h6 : rs.length ≤ 6) (h60 : ∀ i, i < rs.length → (rs.getD i []).length ≤ 60) {m : Nat} (hm : m < rs.length) : (accL delta rs m).length ≤ 1000 ∧ (preL delta rs m).length + (rs.getD m []).length = (accL delta rs m).length ∧ rs.flatten.length ≤ 500 := by
  have hfl : ∀ l : List (List Nat), (∀ x, x ∈ l → x.length ≤ 60) → l.flatten.length ≤ 60 * l.length := by
    intro l
    induction l with
    | nil => intro _; simp
    | cons x l ih =>
      intro h
      have := ih fun y hy => h y (List.mem_cons_of_mem _ hy)
      have := h x List.mem_cons_self
      simp only [List.flatten_cons, List.length_append, List.length_cons]; omega
  have hmem : ∀ x, x ∈ rs → x.length ≤ 60 := fun x hx => by
    obtain ⟨i, hi⟩ := List.getElem?_of_mem hx
    have hlt := (List.getElem?_eq_some_iff.1 hi).1
    have := h60 i hlt
    rw [List.getD_eq_getElem?_getD, hi] at this
    exact this
  have h1 := hfl rs hmem
  have h2 := hfl (rs.take m) fun x hx => hmem x (List.mem_of_mem_take hx)
  have h3 := h60 m hm
  have h4 : (rs.take m).length ≤ 6 := by rw [List.length_take]; omega
  refine ⟨?_, by unfold accL; simp, by omega⟩
  unfold accL preL
  rw [List.length_append]
  cases delta <;> simp only [Bool.false_eq_true, if_false, if_true, List.length_nil] <;> omega
theorem acc_mem {delta : Bool} {rs : List (List Nat)} {m : Nat} (hm : m < rs.length) {v : Nat} (h : v ∈ accL delta rs m) : ∃ i, i < rs.length ∧ v ∈ rs.getD i [] := by
  unfold accL at h
  rcases List.mem_append.1 h with h | h
  · unfold preL at h
    cases delta
    · simp only [Bool.false_eq_true, if_false] at h
      obtain ⟨x, hx, hv⟩ := List.mem_flatten.1 h
      obtain ⟨i, hi⟩ := List.getElem?_of_mem (List.mem_of_mem_take hx)
      exact ⟨i, (List.getElem?_eq_some_iff.1 hi).1, by rw [List.getD_eq_getElem?_getD, hi]; exact hv⟩
    · simp at h
  · exact ⟨m, hm, h⟩
/-- the law's state ahead of a round -/
structure Inv9 (w : World) (delta : Bool) (rs : List (List Nat)) (top : Nat) (size scale : Int) (m : Nat) (u9 u10 u11 u12 : Value) (wr : World) : Prop where
  k : Kept [] w wr
  all : ∃ n xs, wr.ownsRow w.heap.size 32 1 u9 n xs ∧ (delta = false → xs = (preL false rs m).map Fl ∧ n = (preL false rs m).length)
  rows : ∃ vs cs bs, wr.ownsRow w.heap.size 24 1 u10 m vs ∧ wr.ownsRow w.heap.size 43 11 u11 m (List.flatten cs) ∧ wr.ownsRow w.heap.size 4 1 u12 m (List.map Value.bool bs) ∧ cs.length = m ∧
    (∀ i, i < m → wr.ownsRow 0 23 1 (vs.getD i undef) (rs.getD i []).length ((rs.getD i []).map U)) ∧ (∀ i, i < m → Ref wr (accL delta rs i) top size scale (cs.getD i [])) ∧
    (∀ i, i < m → bs.getD i false = true → ∃ s S, Ex20 (accL delta rs i).reverse s S ∧ S < 4503599627370496)
theorem Inv9.start (w : World) (delta : Bool) (rs : List (List Nat)) (top : Nat) (size scale : Int) : Inv9 w delta rs top size scale 0 (.slice none 0 0) (.slice none 0 0) (.slice none 0 0) (.slice none 0 0) w :=
  ⟨Kept.refl _ _, ⟨0, [], World.ownsRow_nil w _ 32 1, fun _ => ⟨by rw [preL_zero]; rfl, by rw [preL_zero]; rfl⟩⟩, [], [], [], World.ownsRow_nil w _ 24 1, World.ownsRow_nil w _ 43 11, World.ownsRow_nil w _ 4 1, rfl, fun i h => by omega, fun i h => by omega, fun i h => by omega⟩
/-- the law's state behind the append of a round -/
structure Mid9 (w : World) (delta : Bool) (rs : List (List Nat)) (top : Nat) (size scale : Int) (m : Nat) (u9 u10 u11 u12 : Value) (wr : World) : Prop where
  k : Kept [] w wr
  all : wr.ownsRow w.heap.size 32 1 u9 (accL delta rs m).length ((accL delta rs m).map Fl)
  rows : ∃ vs cs bs, wr.ownsRow w.heap.size 24 1 u10 m vs ∧ wr.ownsRow w.heap.size 43 11 u11 m (List.flatten cs) ∧ wr.ownsRow w.heap.size 4 1 u12 m (List.map Value.bool bs) ∧ cs.length = m ∧
    (∀ i, i < m → wr.ownsRow 0 23 1 (vs.getD i undef) (rs.getD i []).length ((rs.getD i []).map U)) ∧ (∀ i, i < m → Ref wr (accL delta rs i) top size scale (cs.getD i [])) ∧
    (∀ i, i < m → bs.getD i false = true → ∃ s S, Ex20 (accL delta rs i).reverse s S ∧ S < 4503599627370496)
theorem Inv9.mid {w wr w1 : World} {delta : Bool} {rs : List (List Nat)} {top : Nat} {size scale : Int} {m : Nat} {u9 u10 u11 u12 x9 x9' : Value} {n : Nat} {xs : List Value} (h : Inv9 w delta rs top size scale m u9 u10 u11 u12 wr) (hx : wr.ownsRow w.heap.size 32 1 x9 n xs)
    (hg : wr.grownBy w1 x9.ownBlock) (hx' : w1.ownsRow w.heap.size 32 1 x9' (accL delta rs m).length ((accL delta rs m).map Fl)) : Mid9 w delta rs top size scale m x9' u10 u11 u12 w1 := by
  obtain ⟨vs, cs, bs, h1, h2, h3, h4, h5, h6, h7⟩ := h.rows
  refine ⟨h.k.trans2 (grownBy_kept hg) (fun i hi => .inr ?_), hx', vs, cs, bs, grow_own h1 hx (by decide) hg, grow_own h2 hx (by decide) hg, grow_own h3 hx (by decide) hg, h4, fun i hi => grow_own (h5 i hi) hx (by decide) hg, fun i hi => (h6 i hi).keptS (grownBy_kept hg) fun z hz => .inr ?_, h7⟩
  · exact (hx.lt i (by simpa using hi)).1
  · obtain ⟨cur, hc⟩ := own_type hx (by simpa using hz)
    exact ⟨cur, 32, hc, by decide⟩
theorem list11 {α : Type} {cs : List α} (h : cs.length = 11) : ∃ c0 c1 c2 c3 c4 c5 c6 c7 c8 c9 c10, cs = [c0, c1, c2, c3, c4, c5, c6, c7, c8, c9, c10] := by
  match cs, h with
  | [c0, c1, c2, c3, c4, c5, c6, c7, c8, c9, c10], _ => exact ⟨_, _, _, _, _, _, _, _, _, _, _, rfl⟩
theorem cells_alloc {w : World} {o : Obj} {a : Addr} {cs : List Value} (h : ∀ j u, cs[j]? = some u → w.cell? (a.add j) = some u) : ∀ j u, cs[j]? = some u → (w.alloc o).cell? (a.add j) = some u := fun j u hj =>
  (cellKept ((Kept.refl [] w).alloc o) (cell_lt (h j u hj)) (by simp)).trans (h j u hj)
theorem getD_snoc {α : Type} (xs : List α) (x d : α) (i : Nat) : (xs ++ [x]).getD i d = if i < xs.length then xs.getD i d else if i = xs.length then x else d := by
  by_cases h : i < xs.length
  · rw [if_pos h, List.getD_eq_getElem?_getD, List.getElem?_append_left h, ← List.getD_eq_getElem?_getD]
  · rw [if_neg h]
    by_cases h2 : i = xs.length
    · rw [if_pos h2, List.getD_eq_getElem?_getD, List.getElem?_append_right (by omega), h2, Nat.sub_self]; rfl
    · rw [if_neg h2, List.getD_eq_getElem?_getD, List.getElem?_eq_none (by simp; omega)]; rfl
theorem inv9_next {w3 wn w4 W0 wF : World} {delta : Bool} {rs : List (List Nat)} {top : Nat} {size scale : Int} {m : Nat} {v9 u10 u11 u12 v10 v11 v12 : Value} {O : List Nat} {vs : List Value} {es : List (List Value)} {bs : List Bool} {cs : List Value} {l : List Nat} {b : Bool} {ad : Option Addr} {cap : Nat}
    (mid : Mid9 w3 delta rs top size scale m v9 u10 u11 u12 wn) (hk0 : Kept [] wn W0) (hk40 : Kept [] w4 W0) (hm : m < rs.length) (hcs : Ref w4 (accL delta rs m) top size scale cs)
    (hOb : ∀ i, i ∈ O → w3.heap.size ≤ i ∧ i < wn.heap.size ∧ ∃ cur t, wn.heap[i]? = some (.cells cur t (0, 0)) ∧ t ≠ 23 ∧ t ≠ 32)
    (o10 : wn.ownsRow w3.heap.size 24 1 u10 m vs) (o12 : wn.ownsRow w3.heap.size 4 1 u12 m (bs.map Value.bool)) (hes : es.length = m)
    (hin : ∀ i, i < m → wn.ownsRow 0 23 1 (vs.getD i undef) (rs.getD i []).length ((rs.getD i []).map U)) (href : ∀ i, i < m → Ref wn (accL delta rs i) top size scale (es.getD i []))
    (hexact : ∀ i, i < m → bs.getD i false = true → ∃ s S, Ex20 (accL delta rs i).reverse s S ∧ S < 4503599627370496) (hl : l = rs.getD m [])
    (T : T9 w3.heap.size O W0 v10 (m + 1) (vs ++ [.slice ad l.length cap]) v11 (m + 1) (es.flatten ++ cs) v12 (m + 1) (bs.map .bool ++ [.bool b]) (.slice ad l.length cap) (l.map U) wF)
    (hb : b = true → ∃ s S, Ex20 (accL delta rs m).reverse s S ∧ S < 4503599627370496) : Inv9 w3 delta rs top size scale (m + 1) v9 v10 v11 v12 wF := by
  have hO0 : ∀ i, i ∈ O → W0.heap.size ≤ i ∨ ∃ cur t, W0.heap[i]? = some (.cells cur t (0, 0)) ∧ t ≠ 23 := fun i hi => by
    obtain ⟨_, _, cur, t, h, h1, _⟩ := hOb i hi
    exact .inr ⟨cur, t, hk0.obj h (by simp), h1⟩
  have own0 : ∀ {e : TypeId} {k : Nat} {v : Value} {n : Nat} {xs : List Value} {bb : Nat}, wn.ownsRow bb e k v n xs → (e = 23 ∨ e = 32) → wF.ownsRow bb e k v n xs := fun h he =>
    own_keptK (own_keptK h hk0 (by simp)) T.k fun z hz hmz => by
      obtain ⟨_, _, cur, t, h1, h2, h3⟩ := hOb z hmz
      obtain ⟨cur', h'⟩ := own_type h hz
      rw [h1] at h'; injection h' with h'; injection h' with _ e
      rcases he with he | he
      · exact h2 (e.trans he)
      · exact h3 (e.trans he)
  have hvl : vs.length = m := by have := o10.1; omega
  have hbl : bs.length = m := by have := o12.1; simp at this; omega
  refine ⟨(mid.k.trans hk0).trans2 T.k fun i hi => .inr (hOb i hi).1, ⟨_, _, own0 mid.all (.inr rfl), fun hd => ?_⟩, vs ++ [.slice ad l.length cap], es ++ [cs], bs ++ [b], T.o10, by simpa using T.o11, by simpa using T.o12, by simp [hes], fun i hi => ?_, fun i hi => ?_, fun i hi => ?_⟩
  · subst hd
    rw [preL_succ rs m hm]
    exact ⟨rfl, rfl⟩
  · rw [getD_snoc, hvl]
    by_cases h : i < m
    · rw [if_pos h]; exact own0 (hin i h) (.inl rfl)
    · obtain rfl : i = m := by omega
      rw [if_neg h, if_pos rfl, ← hl]
      have := T.o20
      rw [List.length_map] at this
      exact this
  · rw [getD_snoc, hes]
    by_cases h : i < m
    · rw [if_pos h]; exact ((href i h).kept hk0).keptS T.k hO0
    · obtain rfl : i = m := by omega
      rw [if_neg h, if_pos rfl]
      exact (hcs.kept hk40).keptS T.k hO0
  · rw [getD_snoc, hbl]
    by_cases h : i < m
    · rw [if_pos h]; exact hexact i h
    · obtain rfl : i = m := by omega
      rw [if_neg h, if_pos rfl]
      exact hb
theorem flat_row {es : List (List Value)} {k : Nat} (h : ∀ i, i < es.length → (es.getD i []).length = k) : ∀ m, m < es.length → ∀ j u, (es.getD m [])[j]? = some u → es.flatten[m * k + j]? = some u := by
  induction es with
  | nil => intro m hm; simp at hm
  | cons x es ih =>
    intro m hm j u hj
    have hx : x.length = k := h 0 (by simp)
    cases m with
    | zero =>
      have hj' : x[j]? = some u := hj
      have hjl := (List.getElem?_eq_some_iff.1 hj').1
      rw [Nat.zero_mul, Nat.zero_add, List.flatten_cons, List.getElem?_append_left hjl]
      exact hj'
    | succ m =>
      have := ih (fun i hi => h (i + 1) (by simp; omega)) m (by simp at hm; omega) j u hj
      rw [List.flatten_cons, List.getElem?_append_right (by rw [hx, Nat.succ_mul]; omega), hx, show (m + 1) * k + j - k = m * k + j from by rw [Nat.succ_mul]; omega]
      exact this
theorem own_cell {w : World} {base : Nat} {e : TypeId} {k g n cap : Nat} {xs : List Value} (h : w.ownsRow base e k (.slice (some ⟨g, 0, none⟩) n cap) n xs) {i : Nat} {u : Value} (hi : xs[i]? = some u) : w.cell? ⟨g, i, none⟩ = some u := by
  rcases h.2 with ⟨h1, _⟩ | ⟨g', cap', cur, h1, h2, h3, h4, h5, h6, h7⟩
  · cases h1
  · injection h1 with h1 _ _
    injection h1 with h1
    injection h1 with h1
    subst h1
    rw [← h7] at hi
    rw [List.getElem?_take] at hi
    split at hi
    · exact cellOf h3 (by simpa using hi)
    · cases hi
theorem own_row {w : World} {base : Nat} {e : TypeId} {k g n cap : Nat} {es : List (List Value)} (h : w.ownsRow base e k (.slice (some ⟨g, 0, none⟩) n cap) n es.flatten) (hes : ∀ i, i < es.length → (es.getD i []).length = k) {m : Nat} (hm : m < es.length) : w.rangeAt g (m * k) (es.getD m []) := fun j u hj =>
  own_cell h (flat_row hes m hm j u hj)
end Go.Proofs.YtlpddogcnpokfaaGreat
namespace Go.Proofs.YtlpddogcnpokfaaGreat
open Go.RowKit Go.Maps
set_option maxHeartbeats 4000000 in
set_option maxRecDepth 100000 in
theorem expo9 (delta : Bool) (size scale : Int) (rs : List (List Nat)) (rv : List Value) (V : Value) (w : World) (hV : SlAt w V rv) (hlen : rv.length = rs.length) (hin : ∀ i, i < rs.length → FlIn w (rv.getD i undef) (rs.getD i []))
    (hlt : ∀ i, i < rs.length → ∀ v, v ∈ rs.getD i [] → v < 18446744073709551616) (hcap : ∀ i, i < rs.length → (rs.getD i []).length ≤ maxLen) : Calls Tryz.prog 9 #[.bool delta, .int .i32 size, .int .i32 scale, V] w (LawT w) := by
  obtain ⟨p, c, rfl, hp⟩ := hV.read
  rw [hlen]
  by_cases hbig : (2147483647 : Int) < (rs.length : Int)
  · have F := Lib.hid (fun w' => fits26_big p rs.length c w' hbig)
    clear hp hin hlt hcap hV hbig
    go_enter Tryz.func9, Tryz.ntmps9
    go_wp2_with fail
    refine (F.out _).mono ?_; rintro e w1 ⟨rfl, hk⟩
    have HK := Lib.hid hk
    clear hk
    go_wp2_with fail
    go_ret
    exact ⟨rfl, HK.out⟩
  have hns : ∀ (i n : Nat), (rs.map List.length)[i]? = some n → i < rs.length ∧ n = (rs.getD i []).length := fun i n h => by
    have hi := (List.getElem?_eq_some_iff.1 h).1
    rw [List.length_map] at hi
    refine ⟨hi, ?_⟩
    rw [List.getElem?_map, List.getElem?_eq_getElem hi] at h
    rw [List.getD_eq_getElem?_getD, List.getElem?_eq_getElem hi]
    simpa using h.symm
  have hrs : ∀ (i n : Nat), (rs.map List.length)[i]? = some n → ∃ (p : Option Addr) (c : Nat), rv[i]? = some (Value.slice p n c) := fun i n h => by
    obtain ⟨hi, rfl⟩ := hns i n h
    obtain ⟨p', c', e⟩ := (hin i hi).form
    refine ⟨p', c', ?_⟩
    rw [← e, List.getD_eq_getElem?_getD, List.getElem?_eq_getElem (by omega)]; rfl
  have hmem : ∀ n, n ∈ rs.map List.length → ∃ i, i < rs.length ∧ n = (rs.getD i []).length := fun n hn => by
    obtain ⟨i, hi⟩ := List.getElem?_of_mem hn
    exact ⟨i, hns i n hi⟩
  have hmax : ∀ n, n ∈ rs.map List.length → n ≤ maxLen := fun n hn => by obtain ⟨i, hi, rfl⟩ := hmem n hn; exact hcap i hi
  have F26 := fun w' (hk : Kept [] w w') => fits26 rv (rs.map List.length) (.slice p rv.length c) w' (hV.kept hk) (by simp [hlen]) hrs (by simp; omega) hmax
  have F27 := fun w' (hk : Kept [] w w') => few27 rv (rs.map List.length) (.slice p rv.length c) w' (hV.kept hk) (by simp [hlen]) hrs (by simp; omega) hmax
  rw [hlen] at F26 F27
  have F26 := Lib.hid F26
  have F27 := Lib.hid F27
  by_cases hfit : ∀ n, n ∈ rs.map List.length → n ≤ 2147483647
  case neg =>
    rw [decide_eq_false hfit] at F26
    clear hp hin hlt hcap hV hbig hns hrs hmem hmax hfit F27
    go_enter Tryz.func9, Tryz.ntmps9
    go_wp2_with fail
    refine (F26.out _ (Kept.refl _ _)).mono ?_; rintro e w1 ⟨rfl, hk⟩
    have HK := Lib.hid hk
    clear hk F26
    go_wp2_with fail
    go_ret
    exact ⟨rfl, HK.out⟩
  rw [decide_eq_true hfit] at F26
  by_cases hr : 1 ≤ size ∧ size ≤ 200 ∧ -10 ≤ scale ∧ scale ≤ 20
  case neg =>
    have HQ := Lib.hid (decide_eq_false hr)
    clear hp hin hlt hcap hV hbig hns hrs hmem hmax hfit F27 hr
    go_enter Tryz.func9, Tryz.ntmps9
    go_wp2_with fail
    refine (F26.out _ (Kept.refl _ _)).mono ?_; rintro e w1 ⟨rfl, hk⟩
    have HK := Lib.hid hk
    clear hk F26
    go_wp2_with fail
    refine (right17 _ _ _).mono ?_; rintro e w2 ⟨rfl, hk⟩
    rw [HQ.out]
    have HK2 := Lib.hid (HK.out.trans hk)
    clear hk
    go_wp2_with fail
    refine (awake _).mono ?_; rintro e w3 ⟨rfl, hk⟩
    have HK3 := Lib.hid (HK2.out.trans hk)
    clear hk
    go_wp2_with fail
    go_ret
    exact ⟨rfl, HK3.out⟩
  have HQ := Lib.hid (decide_eq_true hr)
  by_cases hfew : (∀ n, n ∈ rs.map List.length → n ≤ 60) ∧ (rs.map List.length).length ≤ 6
  case neg =>
    rw [decide_eq_false hfew] at F27
    clear hp hin hlt hcap hV hbig hns hrs hmem hmax hfit hr hfew
    go_enter Tryz.func9, Tryz.ntmps9
    go_wp2_with fail
    refine (F26.out _ (Kept.refl _ _)).mono ?_; rintro e w1 ⟨rfl, hk⟩
    have HK := Lib.hid hk
    clear hk F26
    go_wp2_with fail
    refine (right17 _ _ _).mono ?_; rintro e w2 ⟨rfl, hk⟩
    rw [HQ.out]
    have HK2 := Lib.hid (HK.out.trans hk)
    clear hk
    go_wp2_with fail
    refine (F27.out _ HK2.out).mono ?_; rintro e w3 ⟨rfl, hk⟩
    have HK3 := Lib.hid (HK2.out.trans hk)
    clear hk
    go_wp2_with fail
    refine (awake _).mono ?_; rintro e w4 ⟨rfl, hk⟩
    have HK4 := Lib.hid (HK3.out.trans hk)
    clear hk
    go_wp2_with fail
    go_ret
    exact ⟨rfl, HK4.out⟩
  rw [decide_eq_true hfew] at F27
  have h6 : rs.length ≤ 6 := by simpa using hfew.2
  have h60 : ∀ i, i < rs.length → (rs.getD i []).length ≤ 60 := fun i hi => hfew.1 _ (by
    rw [List.getD_eq_getElem?_getD, List.getElem?_eq_getElem hi]; exact List.mem_map_of_mem (List.getElem_mem hi))
  have ht : ((topOf scale : Nat) : Int) = max scale 0 := by unfold topOf; omega
  have HR := Lib.hid (And.intro hr (And.intro h6 (And.intro h60 ht)))
  have HIN := Lib.hid (And.intro hin (And.intro hlt (And.intro hp (And.intro hlen hV))))
  clear hp hin hlt hcap hV hbig hns hrs hmem hmax hfit hr hfew h6 h60 ht
  go_enter Tryz.func9, Tryz.ntmps9
  go_wp2_with fail
  refine (F26.out _ (Kept.refl _ _)).mono ?_; rintro e w1 ⟨rfl, hk⟩
  have HK := Lib.hid hk
  clear hk F26
  go_wp2_with fail
  refine (right17 _ _ _).mono ?_; rintro e w2 ⟨rfl, hk⟩
  rw [HQ.out]
  have HK2 := Lib.hid (HK.out.trans hk)
  clear hk HK
  go_wp2_with fail
  refine (F27.out _ HK2.out).mono ?_; rintro e w3 ⟨rfl, hk⟩
  have HK3 := Lib.hid (HK2.out.trans hk)
  clear hk F27 HK2
  go_wp2_with fail
  go_loopw [9, 10, 11, 12, 35] (fun u9 u10 u11 u12 i wr => ∃ m : Nat, m ≤ rs.length ∧ i = .int .i64 (m : Int) ∧ Inv9 w3 delta rs (topOf scale) size scale m u9 u10 u11 u12 wr) (fun _ _ _ _ i _ => rs.length - (intOf i).toNat)
  case atStart => exact ⟨0, Nat.zero_le _, rfl, Inv9.start w3 delta rs (topOf scale) size scale⟩
  case round =>
  obtain ⟨m, hm, rfl, inv⟩ := hrel
  have INV := Lib.hid inv
  have HM := Lib.hid hm
  clear inv hm
  by_cases hmlt : m < rs.length
  · obtain ⟨l, hl⟩ : ∃ l, l = rs.getD m [] := ⟨_, rfl⟩
    obtain ⟨lv, hlv⟩ : ∃ lv, lv = rv.getD m undef := ⟨_, rfl⟩
    have hlm : rv[m]? = some lv := by rw [hlv, List.getD_eq_getElem?_getD, List.getElem?_eq_getElem (by have := HIN.out.2.2.2.1; omega)]; rfl
    have hfl : FlIn w lv l := by rw [hlv, hl]; exact HIN.out.1 m hmlt
    obtain ⟨p1, c1, hform⟩ := hfl.form
    obtain ⟨a1, rfl, hcx⟩ := HIN.out.2.2.1 m _ hlm
    have hcell : wr.cell? (a1.add m) = some (.slice p1 l.length c1) := hform ▸ (cellKept (HK3.out.trans INV.out.k) (cell_lt hcx) (by simp)).trans hcx
    have HL := Lib.hid (And.intro hl (And.intro hform (And.intro (hfl.kept (HK3.out.trans INV.out.k) (by simp)) hlv)))
    have w7 : (m : Int) < (rs.length : Int) := by omega
    have w1' : IntKind.i64.wrap ((m : Int) + 1) = (m : Int) + 1 := IntWalk.i64_in _ (by have := HR.out.2.1; omega)
    have HLT := Lib.hid hmlt
    clear hl hlv hlm hfl hform hcx hmlt
    obtain ⟨hacc1, hacc2, htot⟩ := acc_len (delta := delta) HR.out.2.1 HR.out.2.2.1 HLT.out
    have HACC := Lib.hid (And.intro hacc1 (And.intro hacc2 htot))
    clear hacc1 hacc2 htot
    go_upto_if 39 with fail
    go_cut [9] from 39 to 39 (fun x wx => wx = wr ∧ wr.ownsRow w3.heap.size 32 1 x (preL delta rs m).length ((preL delta rs m).map Fl))
    case first =>
      cases delta
      · go_wp2_with fail
        go_meet
        refine ⟨rfl, ?_⟩
        obtain ⟨n, xs, h1, h2⟩ := INV.out.all
        obtain ⟨rfl, rfl⟩ := h2 rfl
        exact h1
      · go_wp2_with fail
        go_meet
        exact ⟨rfl, World.ownsRow_nil wr _ 32 1⟩
    case rest =>
    obtain ⟨hwc, hown⟩ := hcut
    replace hwc := hwc.symm
    subst hwc
    have HO9 := Lib.hid hown
    have HLL := Lib.hid (show (preL delta rs m).length + l.length ≤ 1000 by have := HACC.out; rw [HL.out.1]; omega)
    have HB := Lib.hid INV.out.k.size
    clear hown
    go_wp2_with (at_builtin; refine wpList_append_in rfl _ _ rfl w3.heap.size _ _ _ rfl HO9.out lv l HL.out.2.1.symm HL.out.2.2.1 HLL.out HB.out ?_; intro v9 wn hown' hgrow)
    replace hgrow : wr.grownBy wn u9.ownBlock := hgrow
    have hacl : accL delta rs m = preL delta rs m ++ l := by unfold accL; rw [HL.out.1]
    have hmid : Mid9 w3 delta rs (topOf scale) size scale m v9 u10 u11 u12 wn := INV.out.mid HO9.out hgrow (by rw [hacl, List.length_append, List.map_append]; exact hown')
    have MID := Lib.hid hmid
    clear hgrow hown' hmid INV
    refine (point19_all (accL delta rs m) _ (topOf scale) size scale v9 _ wn rfl MID.out.all (fun v hv => by obtain ⟨i, hi, h⟩ := acc_mem HLT.out hv; exact HIN.out.2.1 i hi v h) HACC.out.1 HR.out.1.1 HR.out.1.2.1 HR.out.1.2.2.1 HR.out.1.2.2.2 HR.out.2.2.2).mono ?_
    rintro e w4 ⟨cs, op, rfl, hk4, h11, hone, href⟩
    have H43 := Lib.hid (MapKept.heap_alloc w4 (.cells exZero.toArray 43)).1
    have hone' : cs.toArray.all (·.oneCell') = true := Array.all_eq_true_iff_forall_mem.2 (fun v hv => hone v (by simpa using hv))
    have HC := Lib.hid (And.intro h11 (And.intro hone' (show exZero.toArray.size = cs.toArray.size from by rw [List.size_toArray, List.size_toArray, h11]; rfl)))
    have HREF := Lib.hid href
    have HK4 := Lib.hid (show Kept [] wn w4 from hk4)
    clear hk4 h11 hone href hone'
    cases op
    · go_upto_region 16 with (refine wpList_store_row rfl 43 _ _ rfl w4.heap.size cs.toArray rfl rfl 43 exZero.toArray H43.out (sz43 HC.out.1) HC.out.2.2 HC.out.2.1 ?_)
      obtain ⟨W0, hW0⟩ : ∃ W, W = (w4.alloc (.cells exZero.toArray 43)).setRow w4.heap.size cs.toArray := ⟨_, rfl⟩
      rw [show ((w4.alloc (.cells #[.bool false, .int .u64 0, .int .u64 0, .int .u64 0, .int .u64 0, .int .i32 0, .int .u64 0, .int .i32 0, .slice none 0 0, .int .i32 0, .slice none 0 0] 43)).setRow w4.heap.size cs.toArray) = W0 from hW0.symm]
      have hk40 : Kept [] w4 W0 := by rw [hW0]; exact setRow_kept ((Kept.refl _ _).alloc _) (.inr (Nat.le_refl _))
      have hpt : W0.heap[w4.heap.size]? = some (.cells cs.toArray 43 (0, 0)) := by rw [hW0]; exact setRow_heap _ _ _ _ _ _ H43.out
      clear hW0 H43
      obtain ⟨vs, es, bs, o10, o11, o12, hes, hin, href, hexact⟩ := MID.out.rows
      have hk0 : Kept [] wn W0 := HK4.out.trans hk40
      obtain ⟨O, hO⟩ : ∃ O, O = u10.ownBlock.toList ++ u11.ownBlock.toList ++ u12.ownBlock.toList := ⟨_, rfl⟩
      have hOb : ∀ i, i ∈ O → w3.heap.size ≤ i ∧ i < wn.heap.size ∧ ∃ cur t, wn.heap[i]? = some (.cells cur t (0, 0)) ∧ t ≠ 23 ∧ t ≠ 32 := by
        intro i hi
        rw [hO] at hi
        simp only [List.mem_append, Option.mem_toList] at hi
        rcases hi with (hi | hi) | hi
        · obtain ⟨cur, hc⟩ := own_type o10 hi
          exact ⟨(o10.lt i hi).1, (o10.lt i hi).2, cur, 24, hc, by decide, by decide⟩
        · obtain ⟨cur, hc⟩ := own_type o11 hi
          exact ⟨(o11.lt i hi).1, (o11.lt i hi).2, cur, 43, hc, by decide, by decide⟩
        · obtain ⟨cur, hc⟩ := own_type o12 hi
          exact ⟨(o12.lt i hi).1, (o12.lt i hi).2, cur, 4, hc, by decide, by decide⟩
      have hT : T9 w3.heap.size O W0 u10 m vs u11 m es.flatten u12 m (bs.map .bool) (.slice none 0 0) [] W0 :=
        ⟨Kept.refl _ _, own_keptK o10 hk0 (by simp), own_keptK o11 hk0 (by simp), own_keptK o12 hk0 (by simp), World.ownsRow_nil W0 0 23 1, fun z hz => .inl (by rw [hO]; simp [hz]), fun z hz => .inl (by rw [hO]; simp [hz]), fun z hz => .inl (by rw [hO]; simp [hz]), Nat.le_trans MID.out.k.size hk0.size⟩
      have hkw : ∀ w', Kept O W0 w' → Kept [] w w' := fun w' hk => (HK3.out.trans (MID.out.k.trans hk0)).trans2 hk fun i hi => .inr (Nat.le_trans HK3.out.size (hOb i hi).1)
      have FB := Lib.hid (show ∀ w', Kept O W0 w' → Calls Tryz.prog 20 #[.slice p1 l.length c1] w' (fun e w2 => ∃ (ad : Option Addr) (cap : Nat), e = .returned (.slice ad l.length cap) ∧ w2.ownsRow w'.heap.size 23 1 (.slice ad l.length cap) (l.map U).length (l.map U) ∧ Kept [] w' w2) from fun w' hk => by
        have hf : FlIn w' (.slice p1 l.length c1) l := by
          rw [← HL.out.2.1, HL.out.2.2.2, HL.out.1]
          exact (HIN.out.1 m HLT.out).kept (hkw w' hk) (by simp)
        refine (bits20_in _ l w' hf (by have := HACC.out; rw [HL.out.1]; omega)).mono ?_
        rintro e w2 ⟨v, rfl, ho, hk2⟩
        obtain ⟨ad, cap, rfl⟩ := own_shape ho
        exact ⟨ad, cap, rfl, by rw [List.length_map]; exact ho, hk2⟩)
      have FE := Lib.hid (show ∀ w', Kept O W0 w' → Calls Tryz.prog 28 #[v9] w' (fun e w2 => ∃ b, e = .returned (.bool b) ∧ Kept [] w' w2 ∧ (b = true → ∃ s S, Ex20 (accL delta rs m).reverse s S ∧ S < 4503599627370496)) from fun w' hk => by
        have ho9 : w'.ownsRow w3.heap.size 32 1 v9 (accL delta rs m).length ((accL delta rs m).map Fl) := own_keptK (own_keptK MID.out.all hk0 (by simp)) hk (fun z hz hm => by
          obtain ⟨_, _, cur, t, h1, _, h3⟩ := hOb z hm
          obtain ⟨cur', h1'⟩ := own_type MID.out.all hz
          rw [h1] at h1'; injection h1' with h1'; injection h1' with _ e; exact h3 e)
        refine exact28 _ _ w' (SlAt.own ho9) (fun v hv => by obtain ⟨i, hi, h⟩ := acc_mem HLT.out hv; exact HIN.out.2.1 i hi v h) (fun v hv => ?_) HACC.out.1
        have hr := HREF.out trivial
        rcases hr.is with ⟨e, _⟩ | ⟨_, hF, _⟩
        · rw [e] at hv; cases hv
        · exact hF.fin v hv)
      have RP := Lib.hid (show ∀ w', Kept O W0 w' → w'.rangeAt w4.heap.size 0 cs from fun w' hk j u hj => by
        have := hk.obj hpt (fun hm => by have := (hOb _ hm).2.1; have := HK4.out.size; omega)
        rw [Nat.zero_add]
        exact cellOf this (by simpa using hj))
      have HEND := Lib.hid (And.intro hes (And.intro hin (And.intro href (And.intro hexact (And.intro hkw (And.intro hk0 (And.intro hOb (show Kept [] w4 W0 from hk40))))))))
      have NXT := Lib.hid (show ∀ (v10 v11 v12 : Value) (b : Bool) (ad : Option Addr) (cap : Nat) (wF : World), T9 w3.heap.size O W0 v10 (m + 1) (vs ++ [.slice ad l.length cap]) v11 (m + 1) (es.flatten ++ cs) v12 (m + 1) (bs.map .bool ++ [.bool b]) (.slice ad l.length cap) (l.map U) wF →
          (b = true → ∃ s S, Ex20 (accL delta rs m).reverse s S ∧ S < 4503599627370496) → Inv9 w3 delta rs (topOf scale) size scale (m + 1) v9 v10 v11 v12 wF from fun v10 v11 v12 b ad cap wF T hb =>
        inv9_next MID.out hk0 hk40 HLT.out (HREF.out trivial) hOb o10 o12 hes hin href hexact HL.out.1 T hb)
      have T0 := Lib.hid hT
      have T := Lib.hid hT.dr
      obtain ⟨P, hP⟩ : ∃ P, P = w4.heap.size := ⟨_, rfl⟩
      rw [← hP] at RP ⊢
      obtain ⟨i24, hi24⟩ := info24
      obtain ⟨i43, hi43⟩ := info43
      obtain ⟨i4, hi4⟩ := info4
      have I24 := Lib.hid hi24
      have I43 := Lib.hid hi43
      have I4 := Lib.hid hi4
      have hs43 := sz43 HC.out.1
      obtain ⟨d0, d1, d2, d3, d4, d5, d6, d7, d8, d9, d10, rfl⟩ := list11 HC.out.1
      have SP := Lib.hid (show ∀ w', Kept O W0 w' → w'.cell? ⟨P, 0, none⟩ = some d0 ∧ w'.cell? ⟨P, 1, none⟩ = some d1 ∧ w'.cell? ⟨P, 2, none⟩ = some d2 ∧ w'.cell? ⟨P, 3, none⟩ = some d3 ∧ w'.cell? ⟨P, 4, none⟩ = some d4 ∧ w'.cell? ⟨P, 5, none⟩ = some d5 ∧ w'.cell? ⟨P, 6, none⟩ = some d6 ∧ w'.cell? ⟨P, 7, none⟩ = some d7 ∧ w'.cell? ⟨P, 8, none⟩ = some d8 ∧ w'.cell? ⟨P, 9, none⟩ = some d9 ∧ w'.cell? ⟨P, 10, none⟩ = some d10 from fun w' hk => by
        have h := RP.out w' hk
        refine ⟨?_, ?_, ?_, ?_, ?_, ?_, ?_, ?_, ?_, ?_, ?_⟩
        · exact h 0 _ rfl
        · exact h 1 _ rfl
        · exact h 2 _ rfl
        · exact h 3 _ rfl
        · exact h 4 _ rfl
        · exact h 5 _ rfl
        · exact h 6 _ rfl
        · exact h 7 _ rfl
        · exact h 8 _ rfl
        · exact h 9 _ rfl
        · exact h 10 _ rfl)
      have HPP := Lib.hid hP
      have HBD := Lib.hid (show m + 1 ≤ maxLen ∧ (m + 1) * 24 ≤ 140737488355328 ∧ (m + 1) * 120 ≤ 140737488355328 ∧ (m + 1) * 1 ≤ 140737488355328 ∧ (∀ u, u ∈ [d0, d1, d2, d3, d4, d5, d6, d7, d8, d9, d10] → u.oneCell' = true) from by
        have := HR.out.2.1; have := HLT.out
        exact ⟨by unfold maxLen; omega, by omega, by omega, by omega, fun u hu => (Array.all_eq_true_iff_forall_mem.1 HC.out.2.1) u (by simpa using hu)⟩)
      clear hk40 hpt o10 o11 o12 hes hin href hexact hk0 hOb hT hkw hi24 hi43 hi4 F26 F27 hO RP hP
      go_upto_region 18 with fail
      obtain ⟨x0, x1, x2, x3, x4, x5, x6, x7, x8, x9, x10⟩ := SP.out _ T.out.k
      go_region_held3 (fun w' => w'.cell? ⟨P, 0, none⟩ = some d0 ∧ w'.cell? ⟨P, 1, none⟩ = some d1 ∧ w'.cell? ⟨P, 2, none⟩ = some d2 ∧ w'.cell? ⟨P, 3, none⟩ = some d3 ∧ w'.cell? ⟨P, 4, none⟩ = some d4 ∧ w'.cell? ⟨P, 5, none⟩ = some d5 ∧ w'.cell? ⟨P, 6, none⟩ = some d6 ∧ w'.cell? ⟨P, 7, none⟩ = some d7 ∧ w'.cell? ⟨P, 8, none⟩ = some d8 ∧ w'.cell? ⟨P, 9, none⟩ = some d9 ∧ w'.cell? ⟨P, 10, none⟩ = some d10)
        (first | exact SP.out _ T.out.k | exact SP.out _ (T.out.alloc _).k | exact SP.out _ ((T.out.alloc _).alloc _).k)
        (first
          | (refine step_append_own rfl _ _ 30 rfl w3.heap.size 24 i24 (.slice none 0 0) 1 24 Tryz.underlying30 I24.out.1 I24.out.2.1 I24.out.2.2.1 I24.out.2.2.2 rfl (by decide) _ m vs rfl (by first | exact T.out.o10 | exact (T.out.alloc _).o10 | exact ((T.out.alloc _).alloc _).o10) _ 1 1 [.slice ad l.length cap] rfl rfl (by first | exact new_cells _ [.slice ad l.length cap] 24 | exact cells_alloc (new_cells _ [.slice ad l.length cap] 24) | exact new_cells' _ [.slice ad l.length cap] 24 _ (by simp)) (by intro u hu; simp at hu; subst hu; rfl) HBD.out.1 HBD.out.2.1 (by first | exact T.out.base | exact (T.out.alloc _).base | exact ((T.out.alloc _).alloc _).base) ?_
             intro v10 wC ho hg hat
             first
               | have HROW := Lib.hid ((T.out.alloc _).row10 hg (((Kept.refl [] _).alloc _).obj HROW.out (by simp)) (by decide))
               | have HROW := Lib.hid (((T.out.alloc _).alloc _).row10 hg (alloc_new _ _) (by decide))
               | have HROW := Lib.hid (((T.out.alloc _).alloc _).row10 hg (((Kept.refl [] _).alloc _).obj (alloc_new _ _) (by simp)) (by decide))
               | skip
             (first | replace T := Lib.hid (T.out.app10 ho hg hat) | replace T := Lib.hid ((T.out.alloc _).app10 ho hg hat) | replace T := Lib.hid (((T.out.alloc _).alloc _).app10 ho hg hat))
             clear ho hg hat)
          | (refine step_append_own rfl _ _ 58 rfl w3.heap.size 43 i43 (.agg exZero.toArray) 11 120 Tryz.underlying58 I43.out.1 I43.out.2.1 I43.out.2.2.1 I43.out.2.2.2 rfl (by decide) _ m es.flatten rfl (by first | exact T.out.o11 | exact (T.out.alloc _).o11 | exact ((T.out.alloc _).alloc _).o11) _ 1 1 [d0, d1, d2, d3, d4, d5, d6, d7, d8, d9, d10] rfl rfl (by first | exact new_cells _ [d0, d1, d2, d3, d4, d5, d6, d7, d8, d9, d10] 43 | exact fun j u hj => by rw [add0]; exact cellOf (by simpa using HROW.out) (by simpa using hj)) HBD.out.2.2.2.2 HBD.out.1 HBD.out.2.2.1 (by first | exact T.out.base | exact (T.out.alloc _).base | exact ((T.out.alloc _).alloc _).base) ?_
             intro v11 wD ho hg hat
             (first | replace T := Lib.hid (T.out.app11 ho hg hat) | replace T := Lib.hid ((T.out.alloc _).app11 ho hg hat) | replace T := Lib.hid (((T.out.alloc _).alloc _).app11 ho hg hat))
             clear ho hg hat)
          | (refine step_append_own rfl _ _ 59 rfl w3.heap.size 4 i4 (.bool false) 1 1 Tryz.underlying59 I4.out.1 I4.out.2.1 I4.out.2.2.1 I4.out.2.2.2 rfl (by decide) _ m (bs.map .bool) rfl (by first | exact T.out.o12 | exact (T.out.alloc _).o12 | exact ((T.out.alloc _).alloc _).o12) _ 1 1 [.bool b] rfl rfl (by exact new_cells _ [.bool b] 4) (by intro u hu; simp at hu; subst hu; rfl) HBD.out.1 HBD.out.2.2.2.1 (by first | exact T.out.base | exact (T.out.alloc _).base | exact ((T.out.alloc _).alloc _).base) ?_
             intro v12 wF ho hg hat
             (first | replace T := Lib.hid (T.out.app12 ho hg hat) | replace T := Lib.hid ((T.out.alloc _).app12 ho hg hat) | replace T := Lib.hid (((T.out.alloc _).alloc _).app12 ho hg hat))
             clear ho hg hat)
          | (go_at_call 28
             with_reducible refine (FE.out _ T.out.k).mono ?_
             rintro e wE ⟨b, rfl, hk, hxx⟩
             replace T := Lib.hid (T.out.kept hk)
             have HXX := Lib.hid hxx
             clear hk hxx)
          | (go_at_call 20
             first
               | (with_reducible refine (FB.out _ T.out.k).mono ?_
                  rintro e wB ⟨ad, cap, rfl, ho, hk⟩
                  replace T := Lib.hid (T.out.bits hk ho))
               | (with_reducible refine (FB.out _ (T0.out.alloc _).dr.k).mono ?_
                  rintro e wB ⟨ad, cap, rfl, ho, hk⟩
                  have HROW := Lib.hid (hk.obj (alloc_new W0 _) (by simp))
                  replace T := Lib.hid ((T0.out.alloc _).dr.bits hk ho))
             clear ho hk))
      all_goals
        clear x0 x1 x2 x3 x4 x5 x6 x7 x8 x9 x10
        (try simp only [Exit.inBlock, Exit.then])
        go_wp2_with fail
        go_roundw
        case rel => exact ⟨m + 1, by have := HLT.out; omega, by go_num, NXT.out _ _ _ _ _ _ _ T.out HXX.out⟩
        case measure => simp [intOf]; have := HLT.out; omega
    · go_wp2_with (refine wpList_store_row rfl 43 _ _ rfl w4.heap.size cs.toArray rfl rfl 43 exZero.toArray H43.out (sz43 HC.out.1) HC.out.2.2 HC.out.2.1 ?_)
      refine (awake _).mono ?_; rintro e w5 ⟨rfl, hk⟩
      have HK5 := Lib.hid ((HK3.out.trans (MID.out.k.trans (HK4.out.trans (setRow_kept ((Kept.refl _ _).alloc _) (.inr (Nat.le_refl _)))))).trans hk)
      clear hk
      go_wp2_with fail
      go_ret
      exact ⟨rfl, HK5.out⟩
  · have hml : m = rs.length := by have := HM.out; omega
    subst hml
    obtain ⟨vs, es, bs, o10, o11, o12, hes, hin, href, hexact⟩ := INV.out.rows
    have hvl : vs.length = rs.length := by have := o10.1; omega
    have hbl : bs.length = rs.length := by have := o12.1; simp at this; omega
    obtain ⟨ad10, cap10, rfl⟩ := own_shape o10
    obtain ⟨ad11, cap11, rfl⟩ := own_shape o11
    obtain ⟨ad12, cap12, rfl⟩ := own_shape o12
    have hS : scale ≤ topOf scale := by have := HR.out; omega
    have ht20 : topOf scale ≤ 20 := by have := HR.out; omega
    have htot : rs.flatten.length ≤ 500 := by
      by_cases h0 : rs.length = 0
      · rw [List.length_eq_zero_iff.1 h0]; decide
      · exact (acc_len (delta := delta) HR.out.2.1 HR.out.2.2.1 (m := 0) (by omega)).2.2
    have F22 := Lib.hid (floats22_all delta (topOf scale) size scale rs _ vs wr (SlAt.own o10) hvl (fun i hi => SlAt.own (hin i hi)) (fun i hi => (href i hi).fine hS HR.out.1.2.2.1 HR.out.2.2.2) (by have := HR.out.2.1; omega) htot HR.out.1.1 HR.out.1.2.1 ht20 hS HR.out.1.2.2.1)
    have HE := Lib.hid (And.intro o11 (And.intro o12 (And.intro hes (And.intro href (And.intro hexact (And.intro hbl (And.intro hS ht20)))))))
    have hji : ¬ (rs.length : Int) < (rs.length : Int) := by omega
    have hne : ((rs.length : Int) != (rs.length : Int)) = false := by simp
    clear o10 o11 o12 hes hin href hexact hvl hbl hS ht20 htot hmlt
    go_wp2_with fail
    refine F22.out.mono ?_
    rintro e w6 ⟨V6, es6, rfl, hres, hk6⟩
    obtain ⟨ad6, cap6, rfl⟩ := own_shape hres.own.1
    have H6 := Lib.hid (And.intro hres hk6)
    clear hres hk6
    go_wp2_with fail
    obtain ⟨wA, hwA⟩ : ∃ x, x = wr := ⟨_, rfl⟩
    subst hwA
    go_loopw [79] (fun i wx => ∃ m : Nat, m ≤ rs.length ∧ i = .int .i64 (m : Int) ∧ Kept [] w6 wx) (fun i _ => rs.length - (intOf i).toNat)
    case atStart => exact ⟨0, Nat.zero_le _, rfl, Kept.refl _ _⟩
    case round =>
    obtain ⟨m, hm, rfl, hkx⟩ := hrel
    have HX := Lib.hid (And.intro hm hkx)
    clear hm hkx
    by_cases hmlt : m < rs.length
    · obtain ⟨g6, cap6', e6⟩ := own_form H6.out.1.own.1 (by omega)
      injection e6 with e6 _ e6'
      subst e6 e6'
      obtain ⟨g11, cap11', e11⟩ := own_form HE.out.1 (by omega)
      injection e11 with e11 _ e11'
      subst e11 e11'
      obtain ⟨g12, cap12', e12⟩ := own_form HE.out.2.1 (by omega)
      injection e12 with e12 _ e12'
      subst e12 e12'
      have w7 : (m : Int) < (rs.length : Int) := by omega
      have w1' : IntKind.i64.wrap ((m : Int) + 1) = (m : Int) + 1 := IntWalk.i64_in _ (by have := HR.out.2.1; omega)
      obtain ⟨hal, hax⟩ := H6.out.1.el m hmlt
      have hbr := HE.out.2.2.2.1 m hmlt
      obtain ⟨a0, a1, a2, a3, a4, a5, a6, a7, a8, a9, a10, ea⟩ := list11 hal
      obtain ⟨b0, b1, b2, b3, b4, b5, b6, b7, b8, b9, b10, eb⟩ := list11 hbr.len
      obtain ⟨bb, hbb⟩ : ∃ bb, bb = bs.getD m false := ⟨_, rfl⟩
      have hacc := (acc_len (delta := delta) HR.out.2.1 HR.out.2.2.1 hmlt).1
      have hsame : Same2 w6 [a0, a1, a2, a3, a4, a5, a6, a7, a8, a9, a10] [b0, b1, b2, b3, b4, b5, b6, b7, b8, b9, b10] bb := by
        rw [← ea, ← eb]
        exact same_of HR.out.1.1 HR.out.1.2.1 HE.out.2.2.2.2.2.2.2 HE.out.2.2.2.2.2.2.1 hacc hax (hbr.kept H6.out.2) (hbb ▸ HE.out.2.2.2.2.1 m hmlt)
      have rA : w6.rangeAt g6 (m * 11) [a0, a1, a2, a3, a4, a5, a6, a7, a8, a9, a10] := by
        rw [← ea]
        exact own_row H6.out.1.own.1 (fun i hi => (H6.out.1.el i (by rw [← H6.out.1.len]; exact hi)).1) (by rw [H6.out.1.len]; exact hmlt)
      have rB : w6.rangeAt g11 (m * 11) [b0, b1, b2, b3, b4, b5, b6, b7, b8, b9, b10] := by
        rw [← eb]
        exact own_row (own_keptK HE.out.1 H6.out.2 (by simp)) (fun i hi => (HE.out.2.2.2.1 i (by rw [← HE.out.2.2.1]; exact hi)).len) (by rw [HE.out.2.2.1]; exact hmlt)
      have rC : w6.cell? ⟨g12, m, none⟩ = some (.bool bb) := own_cell (own_keptK HE.out.2.1 H6.out.2 (by simp)) (by
        rw [List.getElem?_map, hbb, List.getD_eq_getElem?_getD, List.getElem?_eq_getElem (by have := HE.out.2.2.2.2.2.1; omega)]; rfl)
      have oneA : (List.toArray [a0, a1, a2, a3, a4, a5, a6, a7, a8, a9, a10]).all (·.oneCell') = true := by
        obtain ⟨h, cnt, r, r', mn, mx, zc, sc, sc', ps, ps', ns, ns', va, va', vb, vb', xs, ys, e1, _, _, q1, _, q2, _⟩ := hsame
        have o1 := slForm q1; have o2 := slForm q2
        rw [e1]
        simp [U, o1, o2]; simp [Value.oneCell']
      have HSAME := Lib.hid (And.intro hsame oneA)
      have RB := Lib.hid (show ∀ w', Kept [] w6 w' → w'.cell? ⟨g11, m * 11, none⟩ = some b0 ∧ w'.cell? ⟨g11, m * 11 + 1, none⟩ = some b1 ∧ w'.cell? ⟨g11, m * 11 + 2, none⟩ = some b2 ∧ w'.cell? ⟨g11, m * 11 + 3, none⟩ = some b3 ∧ w'.cell? ⟨g11, m * 11 + 4, none⟩ = some b4 ∧ w'.cell? ⟨g11, m * 11 + 5, none⟩ = some b5 ∧ w'.cell? ⟨g11, m * 11 + 6, none⟩ = some b6 ∧ w'.cell? ⟨g11, m * 11 + 7, none⟩ = some b7 ∧ w'.cell? ⟨g11, m * 11 + 8, none⟩ = some b8 ∧ w'.cell? ⟨g11, m * 11 + 9, none⟩ = some b9 ∧ w'.cell? ⟨g11, m * 11 + 10, none⟩ = some b10 ∧ w'.cell? ⟨g12, m, none⟩ = some (.bool bb) from fun w' hk => by
        have k : ∀ j u, [b0, b1, b2, b3, b4, b5, b6, b7, b8, b9, b10][j]? = some u → w'.cell? ⟨g11, m * 11 + j, none⟩ = some u := fun j u hj => (cellKept hk (cell_lt (rB j u hj)) (by simp)).trans (rB j u hj)
        exact ⟨k 0 _ rfl, k 1 _ rfl, k 2 _ rfl, k 3 _ rfl, k 4 _ rfl, k 5 _ rfl, k 6 _ rfl, k 7 _ rfl, k 8 _ rfl, k 9 _ rfl, k 10 _ rfl, (cellKept hk (cell_lt rC) (by simp)).trans rC⟩)
      have ka : ∀ j u, [a0, a1, a2, a3, a4, a5, a6, a7, a8, a9, a10][j]? = some u → wr.cell? ⟨g6, m * 11 + j, none⟩ = some u := fun j u hj => (cellKept HX.out.2 (cell_lt (rA j u hj)) (by simp)).trans (rA j u hj)
      have y0 : wr.cell? ⟨g6, m * 11, none⟩ = some a0 := ka 0 _ rfl
      have y1 : wr.cell? ⟨g6, m * 11 + 1, none⟩ = some a1 := ka 1 _ rfl
      have y2 : wr.cell? ⟨g6, m * 11 + 2, none⟩ = some a2 := ka 2 _ rfl
      have y3 : wr.cell? ⟨g6, m * 11 + 3, none⟩ = some a3 := ka 3 _ rfl
      have y4 : wr.cell? ⟨g6, m * 11 + 4, none⟩ = some a4 := ka 4 _ rfl
      have y5 : wr.cell? ⟨g6, m * 11 + 5, none⟩ = some a5 := ka 5 _ rfl
      have y6 : wr.cell? ⟨g6, m * 11 + 6, none⟩ = some a6 := ka 6 _ rfl
      have y7 : wr.cell? ⟨g6, m * 11 + 7, none⟩ = some a7 := ka 7 _ rfl
      have y8 : wr.cell? ⟨g6, m * 11 + 8, none⟩ = some a8 := ka 8 _ rfl
      have y9 : wr.cell? ⟨g6, m * 11 + 9, none⟩ = some a9 := ka 9 _ rfl
      have y10 : wr.cell? ⟨g6, m * 11 + 10, none⟩ = some a10 := ka 10 _ rfl
      have HN := Lib.hid (MapKept.heap_alloc wr (.cells exZero.toArray 26)).1
      clear hal hax hbr ea eb hbb hacc hsame rA rB rC ka oneA F26 F27
      go_upto_region 26 with (refine wpList_store_row rfl 26 _ _ rfl wr.heap.size #[a0, a1, a2, a3, a4, a5, a6, a7, a8, a9, a10] rfl rfl 26 exZero.toArray HN.out (by kernel_rfl) rfl HSAME.out.2 ?_)
      obtain ⟨W7, hW7⟩ : ∃ W, W = (wr.alloc (.cells exZero.toArray 26)).setRow wr.heap.size #[a0, a1, a2, a3, a4, a5, a6, a7, a8, a9, a10] := ⟨_, rfl⟩
      rw [show ((wr.alloc (.cells #[.bool false, .int .u64 0, .int .u64 0, .int .u64 0, .int .u64 0, .int .i32 0, .int .u64 0, .int .i32 0, .slice none 0 0, .int .i32 0, .slice none 0 0] 26)).setRow wr.heap.size #[a0, a1, a2, a3, a4, a5, a6, a7, a8, a9, a10]) = W7 from hW7.symm]
      have hk7 : Kept [] wr W7 := by rw [hW7]; exact setRow_kept ((Kept.refl _ _).alloc _) (.inr (Nat.le_refl _))
      have hp7 : W7.heap[wr.heap.size]? = some (.cells #[a0, a1, a2, a3, a4, a5, a6, a7, a8, a9, a10] 26 (0, 0)) := by rw [hW7]; exact setRow_heap _ _ _ _ _ _ HN.out
      clear hW7 HN y0 y1 y2 y3 y4 y5 y6 y7 y8 y9 y10
      obtain ⟨P7, hP7⟩ : ∃ P, P = wr.heap.size := ⟨_, rfl⟩
      rw [← hP7] at hp7 ⊢
      clear hP7
      have HK7 := Lib.hid (HX.out.2.trans hk7)
      have ST := Lib.hid (show ∀ w', Kept [] W7 w' → w'.cell? ⟨P7, 0, none⟩ = some a0 ∧ w'.cell? ⟨P7, 1, none⟩ = some a1 ∧ w'.cell? ⟨P7, 2, none⟩ = some a2 ∧ w'.cell? ⟨P7, 3, none⟩ = some a3 ∧ w'.cell? ⟨P7, 4, none⟩ = some a4 ∧ w'.cell? ⟨P7, 5, none⟩ = some a5 ∧ w'.cell? ⟨P7, 6, none⟩ = some a6 ∧ w'.cell? ⟨P7, 7, none⟩ = some a7 ∧ w'.cell? ⟨P7, 8, none⟩ = some a8 ∧ w'.cell? ⟨P7, 9, none⟩ = some a9 ∧ w'.cell? ⟨P7, 10, none⟩ = some a10 ∧ w'.cell? ⟨g11, m * 11, none⟩ = some b0 ∧ w'.cell? ⟨g11, m * 11 + 1, none⟩ = some b1 ∧ w'.cell? ⟨g11, m * 11 + 2, none⟩ = some b2 ∧ w'.cell? ⟨g11, m * 11 + 3, none⟩ = some b3 ∧ w'.cell? ⟨g11, m * 11 + 4, none⟩ = some b4 ∧ w'.cell? ⟨g11, m * 11 + 5, none⟩ = some b5 ∧ w'.cell? ⟨g11, m * 11 + 6, none⟩ = some b6 ∧ w'.cell? ⟨g11, m * 11 + 7, none⟩ = some b7 ∧ w'.cell? ⟨g11, m * 11 + 8, none⟩ = some b8 ∧ w'.cell? ⟨g11, m * 11 + 9, none⟩ = some b9 ∧ w'.cell? ⟨g11, m * 11 + 10, none⟩ = some b10 ∧ w'.cell? ⟨g12, m, none⟩ = some (.bool bb) from fun w' hk => by
        have k : ∀ j u, #[a0, a1, a2, a3, a4, a5, a6, a7, a8, a9, a10][j]? = some u → w'.cell? ⟨P7, j, none⟩ = some u := fun j u hj => cellOf (hk.obj hp7 (by simp)) hj
        exact ⟨k 0 _ rfl, k 1 _ rfl, k 2 _ rfl, k 3 _ rfl, k 4 _ rfl, k 5 _ rfl, k 6 _ rfl, k 7 _ rfl, k 8 _ rfl, k 9 _ rfl, k 10 _ rfl, RB.out _ (HK7.out.trans hk)⟩)
      clear hk7 hp7
      have HW := Lib.hid (show Kept [] W7 W7.drew from (Kept.refl _ _).dr ⟨1, rfl⟩)
      obtain ⟨z0, z1, z2, z3, z4, z5, z6, z7, z8, z9, z10, z11, z12, z13, z14, z15, z16, z17, z18, z19, z20, z21, z22⟩ := ST.out _ HW.out
      go_region_held3 (fun w' => w'.cell? ⟨P7, 0, none⟩ = some a0 ∧ w'.cell? ⟨P7, 1, none⟩ = some a1 ∧ w'.cell? ⟨P7, 2, none⟩ = some a2 ∧ w'.cell? ⟨P7, 3, none⟩ = some a3 ∧ w'.cell? ⟨P7, 4, none⟩ = some a4 ∧ w'.cell? ⟨P7, 5, none⟩ = some a5 ∧ w'.cell? ⟨P7, 6, none⟩ = some a6 ∧ w'.cell? ⟨P7, 7, none⟩ = some a7 ∧ w'.cell? ⟨P7, 8, none⟩ = some a8 ∧ w'.cell? ⟨P7, 9, none⟩ = some a9 ∧ w'.cell? ⟨P7, 10, none⟩ = some a10 ∧ w'.cell? ⟨g11, m * 11, none⟩ = some b0 ∧ w'.cell? ⟨g11, m * 11 + 1, none⟩ = some b1 ∧ w'.cell? ⟨g11, m * 11 + 2, none⟩ = some b2 ∧ w'.cell? ⟨g11, m * 11 + 3, none⟩ = some b3 ∧ w'.cell? ⟨g11, m * 11 + 4, none⟩ = some b4 ∧ w'.cell? ⟨g11, m * 11 + 5, none⟩ = some b5 ∧ w'.cell? ⟨g11, m * 11 + 6, none⟩ = some b6 ∧ w'.cell? ⟨g11, m * 11 + 7, none⟩ = some b7 ∧ w'.cell? ⟨g11, m * 11 + 8, none⟩ = some b8 ∧ w'.cell? ⟨g11, m * 11 + 9, none⟩ = some b9 ∧ w'.cell? ⟨g11, m * 11 + 10, none⟩ = some b10 ∧ w'.cell? ⟨g12, m, none⟩ = some (.bool bb))
        (exact ST.out _ HW.out)
        (first
          | (go_at_call 29
             with_reducible refine ((HSAME.out.1.kept (HK7.out.trans HW.out)).calls).mono ?_
             rintro e w8 ⟨rfl, hk⟩
             replace HW := Lib.hid (HW.out.trans hk)
             clear hk))
      clear z0 z1 z2 z3 z4 z5 z6 z7 z8 z9 z10 z11 z12 z13 z14 z15 z16 z17 z18 z19 z20 z21 z22
      (try simp only [Exit.then])
      go_wp2_with fail
      go_roundw
      case rel => exact ⟨m + 1, by omega, by go_num, HK7.out.trans HW.out⟩
      case measure => simp [intOf]; omega
    · have hml : m = rs.length := by have := HX.out.1; omega
      subst hml
      have hji : ¬ (rs.length : Int) < (rs.length : Int) := by omega
      go_wp2_with fail
      refine (awake _).mono ?_; rintro e w9 ⟨rfl, hk⟩
      have HK9 := Lib.hid (HK3.out.trans (INV.out.k.trans (H6.out.2.trans (HX.out.2.trans hk))))
      clear hk
      go_wp2_with fail
      go_ret
      exact ⟨rfl, HK9.out⟩
end Go.Proofs.YtlpddogcnpokfaaGreat
