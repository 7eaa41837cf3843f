/- The constants of the logarithm, and its polynomial in the form in which it is reckoned. -/
import Derived.Test.YtlpddogcnpokfaaGreatFlt4
namespace Go.Proofs.YtlpddogcnpokfaaGreat.Lg
open Ieee

theorem cst (w e m : Nat) (hw : w = e * 2 ^ 52 + m) (he : 1 ≤ e) (he2 : e ≤ 2046) (hm : m < 2 ^ 52) : Is w (((2 ^ 52 + m : Nat) : Rat) * p2 ((e : Int) - 1075)) := by
  rw [hw]; exact is_word e m he he2 hm

def v_l1 : Rat := 6004799503160723 / 9007199254740992
theorem is_l1 : Is 0x3FE5555555555593 v_l1 := by
  have h := cst 0x3FE5555555555593 1022 1501199875790227 (by decide) (by decide) (by decide) (by decide)
  have e : ((2 ^ 52 + 1501199875790227 : Nat) : Rat) * p2 ((1022 : Nat) - 1075 : Int) = v_l1 := by decide +kernel
  rw [e] at h; exact h
def v_l2 : Rat := 1801439850921601 / 4503599627370496
theorem is_l2 : Is 0x3FD999999997FA04 v_l2 := by
  have h := cst 0x3FD999999997FA04 1021 2702159776315908 (by decide) (by decide) (by decide) (by decide)
  have e : ((2 ^ 52 + 2702159776315908 : Nat) : Rat) * p2 ((1021 : Nat) - 1075 : Int) = v_l2 := by decide +kernel
  rw [e] at h; exact h
def v_l3 : Rat := 5146971033736025 / 18014398509481984
theorem is_l3 : Is 0x3FD2492494229359 v_l3 := by
  have h := cst 0x3FD2492494229359 1021 643371406365529 (by decide) (by decide) (by decide) (by decide)
  have e : ((2 ^ 52 + 643371406365529 : Nat) : Rat) * p2 ((1021 : Nat) - 1075 : Int) = v_l3 := by decide +kernel
  rw [e] at h; exact h
def v_l4 : Rat := 8006390766270639 / 36028797018963968
theorem is_l4 : Is 0x3FCC71C51D8E78AF v_l4 := by
  have h := cst 0x3FCC71C51D8E78AF 1020 3502791138900143 (by decide) (by decide) (by decide) (by decide)
  have e : ((2 ^ 52 + 3502791138900143 : Nat) : Rat) * p2 ((1020 : Nat) - 1075 : Int) = v_l4 := by decide +kernel
  rw [e] at h; exact h
def v_l5 : Rat := 3275661152453103 / 18014398509481984
theorem is_l5 : Is 0x3FC7466496CB03DE v_l5 := by
  have h := cst 0x3FC7466496CB03DE 1020 2047722677535710 (by decide) (by decide) (by decide) (by decide)
  have e : ((2 ^ 52 + 2047722677535710 : Nat) : Rat) * p2 ((1020 : Nat) - 1075 : Int) = v_l5 := by decide +kernel
  rw [e] at h; exact h
def v_l6 : Rat := 5517391500461727 / 36028797018963968
theorem is_l6 : Is 0x3FC39A09D078C69F v_l6 := by
  have h := cst 0x3FC39A09D078C69F 1020 1013791873091231 (by decide) (by decide) (by decide) (by decide)
  have e : ((2 ^ 52 + 1013791873091231 : Nat) : Rat) * p2 ((1020 : Nat) - 1075 : Int) = v_l6 := by decide +kernel
  rw [e] at h; exact h
def v_l7 : Rat := 1332903234475153 / 9007199254740992
theorem is_l7 : Is 0x3FC2F112DF3E5244 v_l7 := by
  have h := cst 0x3FC2F112DF3E5244 1020 828013310530116 (by decide) (by decide) (by decide) (by decide)
  have e : ((2 ^ 52 + 828013310530116 : Nat) : Rat) * p2 ((1020 : Nat) - 1075 : Int) = v_l7 := by decide +kernel
  rw [e] at h; exact h
def v_hi : Rat := 2977044471 / 4294967296
theorem is_hi : Is 0x3FE62E42FEE00000 v_hi := by
  have h := cst 0x3FE62E42FEE00000 1022 1739715139076096 (by decide) (by decide) (by decide) (by decide)
  have e : ((2 ^ 52 + 1739715139076096 : Nat) : Rat) * p2 ((1022 : Nat) - 1075 : Int) = v_hi := by decide +kernel
  rw [e] at h; exact h
def v_lo : Rat := 3691024475790907 / 19342813113834066795298816
theorem is_lo : Is 0x3DEA39EF35793C76 v_lo := by
  have h := cst 0x3DEA39EF35793C76 990 2878449324211318 (by decide) (by decide) (by decide) (by decide)
  have e : ((2 ^ 52 + 2878449324211318 : Nat) : Rat) * p2 ((990 : Nat) - 1075 : Int) = v_lo := by decide +kernel
  rw [e] at h; exact h
def v_sq : Rat := 6369051672525773 / 9007199254740992
theorem is_sq : Is 0x3FE6A09E667F3BCD v_sq := by
  have h := cst 0x3FE6A09E667F3BCD 1022 1865452045155277 (by decide) (by decide) (by decide) (by decide)
  have e : ((2 ^ 52 + 1865452045155277 : Nat) : Rat) * p2 ((1022 : Nat) - 1075 : Int) = v_sq := by decide +kernel
  rw [e] at h; exact h
def v_le : Rat := 3248660424278399 / 2251799813685248
theorem is_le : Is 0x3FF71547652B82FE v_le := by
  have h := cst 0x3FF71547652B82FE 1023 1993721221186302 (by decide) (by decide) (by decide) (by decide)
  have e : ((2 ^ 52 + 1993721221186302 : Nat) : Rat) * p2 ((1023 : Nat) - 1075 : Int) = v_le := by decide +kernel
  rw [e] at h; exact h

theorem bd {a b P R : Rat} (h1 : 0 ≤ a) (h2 : a ≤ P) (h3 : 0 ≤ b) (h4 : b ≤ R) : 0 ≤ a * b ∧ a * b ≤ P * R :=
  ⟨Rat.mul_nonneg h1 h3, mul_mono h1 h2 h3 h4⟩

theorem A.div {x y : Nat} {p q n m S : Rat} (hx : A x p n) (hy : A y q m) (hS : S * q = p) (hq : 3/2 ≤ q) (h1 : -(1/4) ≤ S) (h2 : S ≤ 1/4) (hn : n ≤ 1000) (hm : m ≤ 1000) :
    ∃ w, double.div x y = some w ∧ A w S (n + m + 1) := by
  obtain ⟨a, ha, a1, a2⟩ := hx
  obtain ⟨b, hb, b1, b2⟩ := hy
  rw [e51] at a1 a2 b1 b2
  have hb1 : 1 ≤ b := by grind
  have hm0 : 0 ≤ m := by grind
  have hn0 : 0 ≤ n := by grind
  have hdq : a / b * b = a := by grind
  -- (a / b - S) b = (a - p) - S (b - q)
  have k := abs_mul_le (a := S) (A := 1/4) (b := b - q) (B := m * (1 / 2251799813685248)) h1 h2 (by grind) (by grind)
  have key : (a / b - S) * b = (a - p) - S * (b - q) := by grind
  generalize hdd : a / b = z at *
  have u1 : z - S ≤ (n + m) * (1 / 2251799813685248) := by
    refine Rat.not_lt.1 fun h' => ?_
    have p1 := Rat.mul_nonneg (a := z - S - (n + m) * (1 / 2251799813685248)) (b := b - 1) (by grind) (by grind)
    have p2 := Rat.mul_nonneg (a := (n + m) * (1 / 2251799813685248)) (b := b - 1) (by grind) (by grind)
    grind
  have u2 : -((n + m) * (1 / 2251799813685248)) ≤ z - S := by
    refine Rat.not_lt.1 fun h' => ?_
    have p1 := Rat.mul_nonneg (a := -((n + m) * (1 / 2251799813685248)) - (z - S)) (b := b - 1) (by grind) (by grind)
    have p2 := Rat.mul_nonneg (a := (n + m) * (1 / 2251799813685248)) (b := b - 1) (by grind) (by grind)
    grind
  obtain ⟨w, c, hw, hc, c1, c2⟩ := div_err ha hb z (by rw [hdq]) hb1 (by grind) (by grind)
  rw [e51] at c1 c2
  refine ⟨w, hw, c, hc, ?_⟩
  rw [e51]
  constructor <;> grind

theorem log_form (S F kk : Rat) (hS : S * (2 + F) = F) :
    kk * v_hi - ((1/2 * F * F - (S * ((S * S * ((((v_l7 * (S * S * (S * S))) + v_l5) * (S * S * (S * S)) + v_l3) * (S * S * (S * S)) + v_l1) +
      S * S * (S * S) * (((v_l6 * (S * S * (S * S))) + v_l4) * (S * S * (S * S)) + v_l2)) + 1/2 * F * F) + v_lo * kk)) - F) =
    (pev Q S + kk * (LN : Rat)) / 38685626227668133590597632 := by
  have eF : F - 1/2 * F * F + S * (1/2 * F * F) = 2 * S := by grind
  have eQ : pev Q S = 38685626227668133590597632 * (2 * S + S * (S * S * ((((v_l7 * (S * S * (S * S))) + v_l5) * (S * S * (S * S)) + v_l3) * (S * S * (S * S)) + v_l1) +
      S * S * (S * S) * (((v_l6 * (S * S * (S * S))) + v_l4) * (S * S * (S * S)) + v_l2))) := by
    unfold Q v_l1 v_l2 v_l3 v_l4 v_l5 v_l6 v_l7; simp only [pev, Rat.intCast_ofNat]; grind
  have eL : (LN : Rat) = 38685626227668133590597632 * (v_hi + v_lo) := by unfold LN v_hi v_lo; decide +kernel
  rw [eQ, eL]
  grind
end Go.Proofs.YtlpddogcnpokfaaGreat.Lg
