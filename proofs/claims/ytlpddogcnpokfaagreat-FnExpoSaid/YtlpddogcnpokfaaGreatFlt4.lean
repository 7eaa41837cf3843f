/- The order of doubles is that of the numbers they stand for; the model's float operations give the words named before. -/
import Derived.Test.YtlpddogcnpokfaaGreatFlt3
import GoSem.Extern.MathLog
namespace Go.Proofs.YtlpddogcnpokfaaGreat.Lg
open Ieee

theorem order_val {x y : Nat} {a b : Rat} (hx : Is x a) (hy : Is y b) :
    ∃ s t : Int, double.order x y = some (compare s t) ∧ (a < b ↔ s < t) ∧ (a = b ↔ s = t) ∧ (b < a ↔ t < s) := by
  obtain ⟨s, m, i, hr, rfl⟩ := hx
  obtain ⟨t, n, j, hr', rfl⟩ := hy
  unfold Format.order
  rw [hr, hr']
  refine ⟨_, _, rfl, ?_⟩
  have e1 : sg s * ((m : Rat) * p2 i) = ((signed s m (i - min i j).toNat : Int) : Rat) * p2 (min i j) := by
    rw [signed_val]
    have : p2 i = p2 ((i - min i j).toNat : Int) * p2 (min i j) := by rw [← p2_add]; congr 1; omega
    rw [this]; grind
  have e2 : sg t * ((n : Rat) * p2 j) = ((signed t n (j - min i j).toNat : Int) : Rat) * p2 (min i j) := by
    rw [signed_val]
    have : p2 j = p2 ((j - min i j).toNat : Int) * p2 (min i j) := by rw [← p2_add]; congr 1; omega
    rw [this]; grind
  rw [e1, e2]
  have hp := p2_pos (min i j)
  generalize p2 (min i j) = u at *
  generalize signed s m (i - min i j).toNat = p at *
  generalize signed t n (j - min i j).toNat = q at *
  refine ⟨?_, ?_, ?_⟩
  · rw [Rat.mul_lt_mul_right hp, Rat.intCast_lt_intCast]
  · constructor
    · intro h
      have h3 : ((p : Rat) - (q : Rat)) * u = 0 := by grind
      rcases Rat.mul_eq_zero.1 h3 with h | h
      · have : (p : Rat) = (q : Rat) := by grind
        exact Rat.intCast_inj.1 this
      · grind
    · intro h; rw [h]
  · rw [Rat.mul_lt_mul_right hp, Rat.intCast_lt_intCast]

theorem order_lt {x y : Nat} {a b : Rat} (hx : Is x a) (hy : Is y b) : (double.order x y == some .lt) = decide (a < b) := by
  obtain ⟨s, t, h, h1, h2, h3⟩ := order_val hx hy
  rw [h, Bool.eq_iff_iff]
  simp only [decide_eq_true_eq, h1]
  rw [beq_iff_eq, Option.some.injEq, Int.compare_eq_lt]

theorem order_eq {x y : Nat} {a b : Rat} (hx : Is x a) (hy : Is y b) : (double.order x y == some .eq) = decide (a = b) := by
  obtain ⟨s, t, h, h1, h2, h3⟩ := order_val hx hy
  rw [h, Bool.eq_iff_iff]
  simp only [decide_eq_true_eq, h2]
  rw [beq_iff_eq, Option.some.injEq, Int.compare_eq_eq]

theorem order_gt {x y : Nat} {a b : Rat} (hx : Is x a) (hy : Is y b) : (double.order x y == some .gt) = decide (b < a) := by
  obtain ⟨s, t, h, h1, h2, h3⟩ := order_val hx hy
  rw [h, Bool.eq_iff_iff]
  simp only [decide_eq_true_eq, h3]
  rw [beq_iff_eq, Option.some.injEq, Int.compare_eq_gt]

section
open Go
theorem m_add {x y w : Nat} (h : double.add x y = some w) : Extern.MathAsm.add x y = Sem.pure w := by
  unfold Extern.MathAsm.add Extern.MathAsm.arith Op.floatArith
  simp only [FloatKind.format, h]; rfl
theorem m_sub {x y w : Nat} (h : double.sub x y = some w) : Extern.MathAsm.sub x y = Sem.pure w := by
  unfold Extern.MathAsm.sub Extern.MathAsm.arith Op.floatArith
  simp only [FloatKind.format, h]; rfl
theorem m_mul {x y w : Nat} (h : double.mul x y = some w) : Extern.MathAsm.mul x y = Sem.pure w := by
  unfold Extern.MathAsm.mul Extern.MathAsm.arith Op.floatArith
  simp only [FloatKind.format, h]; rfl
theorem m_div {x y w : Nat} (h : double.div x y = some w) : Extern.MathAsm.div x y = Sem.pure w := by
  unfold Extern.MathAsm.div Extern.MathAsm.arith Op.floatArith
  simp only [FloatKind.format, h]; rfl
theorem s_bind {α β : Type} (a : α) (f : α → Sem β) : ((Sem.pure a : Sem α) >>= f) = f a := rfl
theorem s_map {α β : Type} (a : α) (f : α → β) : (f <$> (Sem.pure a : Sem α)) = Sem.pure (f a) := rfl
end

def c1 : Rat := 6004799503160723 / 9007199254740992
end Go.Proofs.YtlpddogcnpokfaaGreat.Lg
