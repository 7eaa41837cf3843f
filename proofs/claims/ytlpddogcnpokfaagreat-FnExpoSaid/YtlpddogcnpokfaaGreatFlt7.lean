/- The logarithm of a double between one half and one is near the polynomial. -/
import Derived.Test.YtlpddogcnpokfaaGreatFlt6
namespace Go.Proofs.YtlpddogcnpokfaaGreat.Lg
open Ieee

theorem log_hi (x : Nat) (y : Rat) (hy : Is x y) (hb : v_sq < y) (hb2 : y < 1) :
    ∃ f1 f w, double.mul x one = some f1 ∧ double.sub f1 one = some f ∧ Tail f 0 w ∧ A w ((el (2 * y) - (LN : Rat)) / 38685626227668133590597632) 100 := by
  have hsq : v_sq = 6369051672525773 / 9007199254740992 := rfl
  obtain ⟨f1, hf1, af1⟩ := A.mul 1 1 (A.of_is hy) (A.of_is is_one) (by grind) (by grind) (by decide +kernel) (by decide +kernel) (by decide) (by decide) (by decide +kernel) (by decide) (by decide)
  obtain ⟨f, hf, af⟩ := A.sub af1 (A.of_is is_one) (by grind) (by grind) (by decide +kernel) (by decide)
  have af := af.weak (m := 4) (by decide +kernel)
  have hS : sv y * (2 + (y * 1 - 1)) = y * 1 - 1 := by unfold sv; grind
  obtain ⟨w, ht, aw⟩ := log_tail af is_zero (by grind) (by grind) (by decide +kernel) (by decide) hS
  refine ⟨f1, f, w, hf1, hf, ht, ?_⟩
  have : el (2 * y) - (LN : Rat) = pev Q (sv y) + 0 * (LN : Rat) := by
    have hc : ¬ 2 * y ≤ CC := by unfold CC; grind
    unfold el; rw [if_neg hc, show 2 * y / 2 = y from by grind]; grind
  rw [this]; exact aw

theorem log_lo (x : Nat) (y : Rat) (hy : Is x y) (hb1 : 1/2 < y) (hb : y ≤ v_sq) :
    ∃ f1 f w, double.mul x two = some f1 ∧ double.sub f1 one = some f ∧ Tail f 0xBFF0000000000000 w ∧ A w ((el (2 * y) - (LN : Rat)) / 38685626227668133590597632) 100 := by
  have hsq : v_sq = 6369051672525773 / 9007199254740992 := rfl
  obtain ⟨f1, hf1, af1⟩ := A.mul 1 2 (A.of_is hy) (A.of_is is_two) (by grind) (by grind) (by decide +kernel) (by decide +kernel) (by decide) (by decide) (by decide +kernel) (by decide) (by decide)
  obtain ⟨f, hf, af⟩ := A.sub af1 (A.of_is is_one) (by grind) (by grind) (by decide +kernel) (by decide)
  have af := af.weak (m := 4) (by decide +kernel)
  have hm1 : Is (0xBFF0000000000000) (-1) := is_neg is_one (by decide)
  have hS : sv (2 * y) * (2 + (y * 2 - 1)) = y * 2 - 1 := by unfold sv; grind
  obtain ⟨w, ht, aw⟩ := log_tail af hm1 (by grind) (by grind) (by decide +kernel) (by decide) hS
  refine ⟨f1, f, w, hf1, hf, ht, ?_⟩
  have : el (2 * y) - (LN : Rat) = pev Q (sv (2 * y)) + -1 * (LN : Rat) := by
    have hc : 2 * y ≤ CC := by unfold CC; grind
    unfold el; rw [if_pos hc]; grind
  rw [this]; exact aw

/-- A LOGARITHM: of a number from 1/2 (not itself) to 1. -/
theorem archLog_near (m : Nat) (h0 : 0 < m) (hm : m < 2 ^ 52) :
    ∃ w, Go.Extern.MathLog.archLog #[.float .f64 (1022 * 2 ^ 52 + m)] = Go.Sem.pure (.float .f64 w) ∧
      A w ((el (((2 ^ 53 + 2 * m : Nat) : Rat) / 9007199254740992) - (LN : Rat)) / 38685626227668133590597632) 100 := by
  have hy : Is (1022 * 2 ^ 52 + m) (((2 ^ 52 + m : Nat) : Rat) * p2 ((1022 : Nat) - 1075 : Int)) := is_word 1022 m (by decide) (by decide) hm
  have ep : p2 ((1022 : Nat) - 1075 : Int) = 1 / 9007199254740992 := by decide +kernel
  rw [ep] at hy
  have eM : ((2 ^ 53 + 2 * m : Nat) : Rat) / 9007199254740992 = 2 * (((2 ^ 52 + m : Nat) : Rat) * (1 / 9007199254740992)) := by
    have : (2 ^ 53 + 2 * m : Nat) = 2 * (2 ^ 52 + m) := by omega
    rw [this, Rat.natCast_mul]
    have e2 : ((2 : Nat) : Rat) = 2 := rfl
    rw [e2]; grind
  have hb1 : (1/2 : Rat) < ((2 ^ 52 + m : Nat) : Rat) * (1 / 9007199254740992) := by
    have : 2 ^ 52 < 2 ^ 52 + m := by omega
    have := Rat.natCast_lt_natCast.2 this
    grind
  have hb2 : ((2 ^ 52 + m : Nat) : Rat) * (1 / 9007199254740992) < 1 := by
    have : 2 ^ 52 + m < 2 ^ 53 := by omega
    have := Rat.natCast_lt_natCast.2 this
    grind
  rw [eM]
  generalize ((2 ^ 52 + m : Nat) : Rat) * (1 / 9007199254740992) = y at *
  have hlt := order_lt is_sq hy
  have g1 : ((1022 * 2 ^ 52 + m) % 2 ^ 63 == 0) = false := by
    rw [beq_eq_false_iff_ne]; omega
  have g2 : ¬ (1022 * 2 ^ 52 + m ≥ 2 ^ 63) := by omega
  have g3 : ¬ (1022 * 2 ^ 52 + m ≥ Go.Extern.MathAsm.posInf) := by unfold Go.Extern.MathAsm.posInf; omega
  have g4 : (1022 * 2 ^ 52 + m) % 2 ^ 52 + Go.Extern.MathAsm.half = 1022 * 2 ^ 52 + m := by unfold Go.Extern.MathAsm.half; omega
  have g5 : (1022 * 2 ^ 52 + m) / 2 ^ 52 = 1022 := by omega
  have g6 : Go.Extern.MathAsm.ofInt32 (Int.ofNat 1022 - 0x3FE) = 0 := by decide +kernel
  have g7 : Go.Extern.MathAsm.lt 0x3FE6A09E667F3BCD (1022 * 2 ^ 52 + m) = decide (v_sq < y) := hlt
  have hb : Go.Extern.MathLog.archLog #[.float .f64 (1022 * 2 ^ 52 + m)] = ite (_ = true) _ (ite _ _ (ite _ _ _)) := rfl
  rw [hb]
  dsimp only
  rw [g1, if_neg (by decide), if_neg g2, if_neg g3, g4, g5, g6, g7]
  clear hb g1 g2 g3 g4 g5 g6 g7 hlt eM ep hm h0
  generalize 1022 * 2 ^ 52 + m = x at *
  by_cases hs : v_sq < y
  · have hsb : decide (v_sq < y) = true := decide_eq_true hs
    rw [hsb]
    obtain ⟨f1, f, w, hf1, hf, ht, aw⟩ := log_hi x y hy hs hb2
    have q1 : Go.Extern.MathAsm.sub 0 0 = Go.Sem.pure 0 := m_sub (by decide +kernel)
    have q2 : Go.Extern.MathAsm.add 0 Go.Extern.MathAsm.one = Go.Sem.pure one := m_add (by decide +kernel)
    have q3 : Go.Extern.MathAsm.mul x one = Go.Sem.pure f1 := m_mul hf1
    have q4 : Go.Extern.MathAsm.sub f1 Go.Extern.MathAsm.one = Go.Sem.pure f := m_sub hf
    refine ⟨w, ?_, aw⟩
    obtain ⟨d, s, s2, s4, a7, b7, a5, b5, a3, b3, t1, a6, b6, a4, b4, t2, r, g, hfsq, rh, srh, lk, inner, u, v, kh,
      e1, e2, e3, e4, e5, e6, e7, e8, e9, e10, e11, e12, e13, e14, e15, e16, e17, e18, e19, e20, e21, e22, e23, e24, e25, e26, e27⟩ := ht
    simp only [Bool.not_true, Bool.false_eq_true, if_false, q1, q2, q3, q4, s_bind]
    simp only [Go.Extern.MathAsm.two, Go.Extern.MathAsm.half, ← two.eq_1, ← half.eq_1, m_add e1, m_div e2, m_mul e3, m_mul e4, m_mul e5, m_add e6, m_mul e7, m_add e8, m_mul e9, m_add e10, m_mul e11, m_mul e12, m_add e13, m_mul e14, m_add e15, m_mul e16, m_add e17,
      m_mul e18, m_mul e19, m_add e20, m_mul e21, m_mul e22, m_add e23, m_sub e24, m_sub e25, m_mul e26, m_sub e27, s_bind]
    rfl
  · have hsb : decide (v_sq < y) = false := decide_eq_false hs
    rw [hsb]
    obtain ⟨f1, f, w, hf1, hf, ht, aw⟩ := log_lo x y hy hb1 (Rat.not_lt.1 hs)
    have q1 : Go.Extern.MathAsm.sub 0 Go.Extern.MathAsm.one = Go.Sem.pure 0xBFF0000000000000 := m_sub (by decide +kernel)
    have q2 : Go.Extern.MathAsm.add Go.Extern.MathAsm.one Go.Extern.MathAsm.one = Go.Sem.pure two := m_add (by decide +kernel)
    have q3 : Go.Extern.MathAsm.mul x two = Go.Sem.pure f1 := m_mul hf1
    have q4 : Go.Extern.MathAsm.sub f1 Go.Extern.MathAsm.one = Go.Sem.pure f := m_sub hf
    refine ⟨w, ?_, aw⟩
    obtain ⟨d, s, s2, s4, a7, b7, a5, b5, a3, b3, t1, a6, b6, a4, b4, t2, r, g, hfsq, rh, srh, lk, inner, u, v, kh,
      e1, e2, e3, e4, e5, e6, e7, e8, e9, e10, e11, e12, e13, e14, e15, e16, e17, e18, e19, e20, e21, e22, e23, e24, e25, e26, e27⟩ := ht
    simp only [Bool.not_false, if_true, q1, q2, q3, q4, s_bind]
    simp only [Go.Extern.MathAsm.two, Go.Extern.MathAsm.half, ← two.eq_1, ← half.eq_1, m_add e1, m_div e2, m_mul e3, m_mul e4, m_mul e5, m_add e6, m_mul e7, m_add e8, m_mul e9, m_add e10, m_mul e11, m_mul e12, m_add e13, m_mul e14, m_add e15, m_mul e16, m_add e17,
      m_mul e18, m_mul e19, m_add e20, m_mul e21, m_mul e22, m_add e23, m_sub e24, m_sub e25, m_mul e26, m_sub e27, s_bind]
    rfl
end Go.Proofs.YtlpddogcnpokfaaGreat.Lg
