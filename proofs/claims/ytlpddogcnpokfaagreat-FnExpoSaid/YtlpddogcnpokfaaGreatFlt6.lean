/- The operations of the logarithm from its reduced argument on: their result is near the polynomial. -/
import Derived.Test.YtlpddogcnpokfaaGreatFlt5
namespace Go.Proofs.YtlpddogcnpokfaaGreat.Lg
open Ieee

/-- what the logarithm's operations come to, from 'f' and 'k' on -/
def Tail (f k w : Nat) : Prop := ∃ d s s2 s4 a7 b7 a5 b5 a3 b3 t1 a6 b6 a4 b4 t2 r g hfsq rh srh lk inner u v kh : Nat,
      double.add two f = some d ∧ double.div f d = some s ∧ double.mul s s = some s2 ∧ double.mul s2 s2 = some s4 ∧
      double.mul 0x3FC2F112DF3E5244 s4 = some a7 ∧ double.add a7 0x3FC7466496CB03DE = some b7 ∧ double.mul b7 s4 = some a5 ∧ double.add a5 0x3FD2492494229359 = some b5 ∧
      double.mul b5 s4 = some a3 ∧ double.add a3 0x3FE5555555555593 = some b3 ∧ double.mul s2 b3 = some t1 ∧
      double.mul 0x3FC39A09D078C69F s4 = some a6 ∧ double.add a6 0x3FCC71C51D8E78AF = some b6 ∧ double.mul b6 s4 = some a4 ∧ double.add a4 0x3FD999999997FA04 = some b4 ∧ double.mul s4 b4 = some t2 ∧
      double.add t1 t2 = some r ∧ double.mul half f = some g ∧ double.mul g f = some hfsq ∧ double.add r hfsq = some rh ∧ double.mul s rh = some srh ∧
      double.mul 0x3DEA39EF35793C76 k = some lk ∧ double.add srh lk = some inner ∧ double.sub hfsq inner = some u ∧ double.sub u f = some v ∧ double.mul k 0x3FE62E42FEE00000 = some kh ∧
      double.sub kh v = some w

/-- the tail of the logarithm, from 'f' and 'k' on -/
theorem log_tail {f k : Nat} {F kk S : Rat} (hf : A f F 4) (hk : Is k kk) (hF1 : -(3/10) ≤ F) (hF2 : F ≤ 42/100) (hk1 : -1 ≤ kk) (hk2 : kk ≤ 0) (hS : S * (2 + F) = F) :
    ∃ w, Tail f k w ∧ A w ((pev Q S + kk * (LN : Rat)) / 38685626227668133590597632) 100 := by
  have hS1 : -(1/5) ≤ S := by
    refine Rat.not_lt.1 fun h' => ?_
    have := Rat.mul_pos (a := -(1/5) - S) (b := 2 + F) (by grind) (by grind)
    grind
  have hS2 : S ≤ 1/5 := by
    refine Rat.not_lt.1 fun h' => ?_
    have := Rat.mul_pos (a := S - 1/5) (b := 2 + F) (by grind) (by grind)
    grind
  obtain ⟨d, hd, ad⟩ := A.add (A.of_is is_two) hf (by grind) (by grind) (by decide) (by decide)
  obtain ⟨s, hs, as⟩ := A.div hf ad hS (by grind) (by grind) (by grind) (by decide) (by decide +kernel)
  have as := as.weak (m := 10) (by decide +kernel)
  obtain ⟨s2, hs2, as2⟩ := A.mul (1/5) (1/5) as as hS1 hS2 hS1 hS2 (by decide) (by decide) (by decide +kernel) (by decide +kernel) (by decide +kernel)
  have as2 := as2.weak (m := 6) (by decide +kernel)
  have b2 := abs_mul_le hS1 hS2 hS1 hS2
  have n2 := sq_nonneg S
  generalize hS2' : S * S = S2 at *
  obtain ⟨s4, hs4, as4⟩ := A.mul (1/25) (1/25) as2 as2 (by grind) (by grind) (by grind) (by grind) (by decide) (by decide) (by decide +kernel) (by decide +kernel) (by decide +kernel)
  have as4 := as4.weak (m := 3) (by decide +kernel)
  have b4' := bd n2 (show S2 ≤ 1/25 by grind) n2 (show S2 ≤ 1/25 by grind)
  generalize hS4' : S2 * S2 = S4 at *
  have n4 := b4'.1
  have m4 : S4 ≤ 1/625 := by grind
  have step {a : Nat} {p n : Rat} (P : Rat) (ha : A a p n) (hp : 0 ≤ p) (hpP : p ≤ P) (hP : P ≤ 1) (hn : n ≤ 10) :
      ∃ w, double.mul a s4 = some w ∧ A w (p * S4) (6) ∧ 0 ≤ p * S4 ∧ p * S4 ≤ P * (1/625) := by
    obtain ⟨w, hw, aw⟩ := A.mul P (1/625) ha as4 (by grind) hpP (by grind) m4 (by grind) (by decide) (by grind) (by grind) (by decide +kernel)
    exact ⟨w, hw, aw.weak (by grind), bd hp hpP n4 m4⟩
  obtain ⟨a7, h1, c1, n1, u1⟩ := step 1 (A.of_is is_l7) (by decide +kernel) (by decide +kernel) (by decide) (by decide)
  obtain ⟨b7, h2, c2⟩ := A.add c1 (A.of_is is_l5) (by unfold v_l5; grind) (by unfold v_l5; grind) (by decide) (by decide)
  obtain ⟨a5, h3, c3, n3, u3⟩ := step 1 c2 (by unfold v_l5; grind) (by unfold v_l5; grind) (by decide) (by decide +kernel)
  obtain ⟨b5, h4, c4⟩ := A.add c3 (A.of_is is_l3) (by unfold v_l3; grind) (by unfold v_l3; grind) (by decide) (by decide)
  obtain ⟨a3, h5, c5, n5, u5⟩ := step 1 c4 (by unfold v_l3; grind) (by unfold v_l3; grind) (by decide) (by decide +kernel)
  obtain ⟨b3, h6, c6⟩ := A.add c5 (A.of_is is_l1) (by unfold v_l1; grind) (by unfold v_l1; grind) (by decide) (by decide)
  have r3 : 0 ≤ (((v_l7 * S4) + v_l5) * S4 + v_l3) * S4 + v_l1 ∧ (((v_l7 * S4) + v_l5) * S4 + v_l3) * S4 + v_l1 ≤ 7/10 := by unfold v_l1 at *; constructor <;> grind
  obtain ⟨t1, h7, c7⟩ := A.mul (1/25) (7/10) as2 c6 (by grind) (by grind) (by grind) (by grind) (by decide) (by decide +kernel) (by decide +kernel) (by decide +kernel) (by decide +kernel)
  have c7 := c7.weak (m := 7) (by decide +kernel)
  have r4 := bd n2 (show S2 ≤ 1/25 by grind) r3.1 r3.2
  obtain ⟨a6, h8, c8, n8, u8⟩ := step 1 (A.of_is is_l6) (by decide +kernel) (by decide +kernel) (by decide) (by decide)
  obtain ⟨b6, h9, c9⟩ := A.add c8 (A.of_is is_l4) (by unfold v_l4; grind) (by unfold v_l4; grind) (by decide) (by decide)
  obtain ⟨a4, h10, c10, n10, u10⟩ := step 1 c9 (by unfold v_l4; grind) (by unfold v_l4; grind) (by decide) (by decide +kernel)
  obtain ⟨b4, h11, c11⟩ := A.add c10 (A.of_is is_l2) (by unfold v_l2; grind) (by unfold v_l2; grind) (by decide) (by decide)
  have r5 : 0 ≤ ((v_l6 * S4) + v_l4) * S4 + v_l2 ∧ ((v_l6 * S4) + v_l4) * S4 + v_l2 ≤ 1/2 := by unfold v_l2 at *; constructor <;> grind
  obtain ⟨t2, h12, c12⟩ := A.mul (1/625) (1/2) as4 c11 (by grind) (by grind) (by grind) (by grind) (by decide) (by decide +kernel) (by decide +kernel) (by decide +kernel) (by decide +kernel)
  have c12 := c12.weak (m := 6) (by decide +kernel)
  have r6 := bd n4 m4 r5.1 r5.2
  obtain ⟨r, h13, c13⟩ := A.add c7 c12 (by grind) (by grind) (by decide) (by decide)
  generalize eR : S2 * ((((v_l7 * S4) + v_l5) * S4 + v_l3) * S4 + v_l1) + S4 * (((v_l6 * S4) + v_l4) * S4 + v_l2) = R at *
  have r7 : 0 ≤ R ∧ R ≤ 3/100 := by constructor <;> grind
  obtain ⟨g, h14, c14⟩ := A.mul (1/2) (1/2) (A.of_is is_half) hf (by decide +kernel) (by decide +kernel) (by grind) (by grind) (by decide) (by decide) (by decide +kernel) (by decide +kernel) (by decide +kernel)
  have c14 := c14.weak (m := 4) (by decide +kernel)
  obtain ⟨hfsq, h15, c15⟩ := A.mul (1/4) (1/2) c14 hf (by grind) (by grind) (by grind) (by grind) (by decide) (by decide) (by decide +kernel) (by decide +kernel) (by decide +kernel)
  have c15 := c15.weak (m := 5) (by decide +kernel)
  have nF := sq_nonneg F
  have bF := abs_mul_le (show -(1/2) ≤ F by grind) (show F ≤ 1/2 by grind) (show -(1/2) ≤ F by grind) (show F ≤ 1/2 by grind)
  have r8 : 0 ≤ 1/2 * F * F ∧ 1/2 * F * F ≤ 1/8 := by constructor <;> grind
  obtain ⟨rh, h16, c16⟩ := A.add c13 c15 (by grind) (by grind) (by decide +kernel) (by decide)
  have c16 := c16.weak (m := 20) (by decide +kernel)
  obtain ⟨srh, h17, c17⟩ := A.mul (1/5) (1/5) as c16 (by grind) (by grind) (by grind) (by grind) (by decide) (by decide) (by decide +kernel) (by decide +kernel) (by decide +kernel)
  have c17 := c17.weak (m := 10) (by decide +kernel)
  have r9 := abs_mul_le hS1 hS2 (show -(1/5) ≤ R + 1/2 * F * F by grind) (show R + 1/2 * F * F ≤ 1/5 by grind)
  obtain ⟨lk, h18, c18⟩ := A.mul (1/100) 1 (A.of_is is_lo) (A.of_is hk) (by decide +kernel) (by decide +kernel) (by grind) (by grind) (by decide) (by decide) (by decide +kernel) (by decide +kernel) (by decide +kernel)
  have c18 := c18.weak (m := 2) (by decide +kernel)
  have r10 := abs_mul_le (show -(1/100) ≤ v_lo by decide +kernel) (show v_lo ≤ 1/100 by decide +kernel) (show -1 ≤ kk by grind) (show kk ≤ 1 by grind)
  obtain ⟨inner, h19, c19⟩ := A.add c17 c18 (by grind) (by grind) (by decide) (by decide)
  obtain ⟨u, h20, c20⟩ := A.sub c15 c19 (by grind) (by grind) (by decide) (by decide +kernel)
  obtain ⟨v, h21, c21⟩ := A.sub c20 hf (by grind) (by grind) (by decide +kernel) (by decide)
  obtain ⟨kh, h22, c22⟩ := A.mul 1 1 (A.of_is hk) (A.of_is is_hi) (by grind) (by grind) (by decide +kernel) (by decide +kernel) (by decide) (by decide) (by decide +kernel) (by decide) (by decide)
  have c22 := c22.weak (m := 2) (by decide +kernel)
  have r11 := abs_mul_le (show -1 ≤ kk by grind) (show kk ≤ 1 by grind) (show -1 ≤ v_hi by decide +kernel) (show v_hi ≤ 1 by decide +kernel)
  obtain ⟨w, h23, c23⟩ := A.sub c22 c21 (by grind) (by grind) (by decide) (by decide +kernel)
  refine ⟨w, ⟨d, s, s2, s4, a7, b7, a5, b5, a3, b3, t1, a6, b6, a4, b4, t2, r, g, hfsq, rh, srh, lk, inner, u, v, kh,
    hd, hs, hs2, hs4, h1, h2, h3, h4, h5, h6, h7, h8, h9, h10, h11, h12, h13, h14, h15, h16, h17, h18, h19, h20, h21, h22, h23⟩, ?_⟩
  have := log_form S F kk hS
  rw [hS2', hS4', eR] at this
  rw [← this]
  exact c23.weak (by decide +kernel)
end Go.Proofs.YtlpddogcnpokfaaGreat.Lg
