/- Walks of the small functions of the math package over doubles: Abs, IsNaN, IsInf, Inf, normalize, frexp, Frexp, Log, ldexp, and of the bucket of a number (getBin), for finite numbers above 0 that are not near a bound. -/
import Derived.Test.YtlpddogcnpokfaaGreatChecked
import Derived.Test.YtlpddogcnpokfaaGreatFlt
import Derived.WalkKit
import Derived.Lib.Hide
import Derived.WalkLawsBesides
import Derived.WalkSpells
import Derived.Deep.LoopGhost
import Derived.BigQuiet
import Derived.Deep.QuietTactic
import Derived.Test.YtlpddogcnpokfaaGreatIdx
namespace Go.Proofs.YtlpddogcnpokfaaGreat
open Go.RowKit

@[go_sem] theorem call30 (n : Nat) (w : World) : (callFunc 30 #[.float .f64 n]).run Tryz.prog w = .ok (.value (.int .u64 n)) w :=
  (run_callFunc_extern Tryz.func30 (by kernel_rfl) (by kernel_rfl) (by kernel_rfl) (e := Extern.MathFloatBits.float64bits) (by kernel_rfl) #[.float .f64 n] w).trans rfl

@[go_sem] theorem call23 (n : Int) (w : World) : (callFunc 23 #[.int .u64 n]).run Tryz.prog w = .ok (.value (.float .f64 n.toNat)) w :=
  (run_callFunc_extern Tryz.func23 (by kernel_rfl) (by kernel_rfl) (by kernel_rfl) (e := Extern.MathFloatBits.float64frombits) (by kernel_rfl) #[.int .u64 n] w).trans rfl

theorem call157 (n r : Nat) (w : World) (h : Extern.MathLog.archLog #[.float .f64 n] = Sem.pure (.float .f64 r)) :
    (callFunc 157 #[.float .f64 n]).run Tryz.prog w = .ok (.value (.float .f64 r)) w := by
  rw [run_callFunc_extern Tryz.func157 (by kernel_rfl) (by kernel_rfl) (by kernel_rfl) (e := Extern.MathLog.archLog) (by kernel_rfl) #[.float .f64 n] w, h]
  rfl

/-- a word without its sign -/
def absW (n : Nat) : Nat := n % 9223372036854775808

theorem andNot_sign (n : Nat) (hn : n < 18446744073709551616) : bits .andNot .u64 (n : Int) 9223372036854775808 = ((absW n : Nat) : Int) := by
  have h := u64_andNot (n : Int) 9223372036854775808 (by omega) (by omega) (by omega) (by omega)
  rw [h]
  unfold absW
  congr 1
  have e : (18446744073709551615 - (9223372036854775808 : Int).toNat : Nat) = 2 ^ 63 - 1 := by decide
  rw [e, Nat.and_two_pow_sub_one_eq_mod]
  rfl

set_option maxHeartbeats 400000 in
theorem abs12 (n : Nat) (w : World) (hn : n < 18446744073709551616) :
    Calls Tryz.prog 12 #[.float .f64 n] w fun e w' => e = .returned (.float .f64 (absW n)) ∧ w = w' := by
  have h := andNot_sign n hn
  clear hn
  go_enter Tryz.func12, Tryz.ntmps12
  go_wp2
  go_ret
  exact ⟨rfl, rfl⟩
end Go.Proofs.YtlpddogcnpokfaaGreat
namespace Go.Proofs.YtlpddogcnpokfaaGreat
open Go.RowKit

theorem isNaN_eq (n : Nat) : (FloatKind.f64.format.order n n != some .eq) = Lg.nanW n := Lg.is_nan n
theorem isInf_eq (n : Nat) : (FloatKind.f64.format.order (absW n) 9218868437227405311 == some .gt) = Lg.infW n := Lg.is_inf n

set_option maxHeartbeats 400000 in
theorem isNaN32 (n : Nat) (w : World) :
    Calls Tryz.prog 32 #[.float .f64 n] w fun e w' => e = .returned (.bool (Lg.nanW n)) ∧ w = w' := by
  rw [← isNaN_eq]
  go_enter Tryz.func32, Tryz.ntmps32
  go_wp2
  go_ret
  exact ⟨rfl, rfl⟩

set_option maxHeartbeats 400000 in
theorem isInf33 (n : Nat) (w : World) (hn : n < 18446744073709551616) :
    Calls Tryz.prog 33 #[.float .f64 n, .int .i64 0] w fun e w' => e = .returned (.bool (Lg.infW n)) ∧ w = w' := by
  rw [← isInf_eq]
  have H := Lib.hid hn
  clear hn
  go_enter Tryz.func33, Tryz.ntmps33
  go_wp2_with (go_at_call 12; refine (abs12 _ _ H.out).mono ?_; rintro e w' ⟨rfl, rfl⟩)
  go_ret
  exact ⟨rfl, rfl⟩

theorem inf31 (w : World) : Calls Tryz.prog 31 #[.int .i64 1] w fun e w' => e = .returned (.float .f64 9218868437227405312) ∧ w = w' := by
  go_enter Tryz.func31, Tryz.ntmps31
  go_wp2
  go_ret
  exact ⟨rfl, rfl⟩
theorem inf31n (w : World) : Calls Tryz.prog 31 #[.int .i64 (-1)] w fun e w' => e = .returned (.float .f64 18442240474082181120) ∧ w = w' := by
  go_enter Tryz.func31, Tryz.ntmps31
  go_wp2
  go_ret
  exact ⟨rfl, rfl⟩

theorem absW_pos {n : Nat} (h : n < 2 ^ 63) : absW n = n := by unfold absW; omega
theorem order_small {n : Nat} (h : n < 2047 * 2 ^ 52) : (FloatKind.f64.format.order n 4503599627370496 == some .lt) = decide (n < 2 ^ 52) :=
  Lg.lt_small n (by unfold Lg.fin Lg.rung; omega) (by omega)

set_option maxHeartbeats 400000 in
theorem normalize174s (n : Nat) (w : World) (h0 : 0 < n) (h : n < 2 ^ 52) :
    Calls Tryz.prog 174 #[.float .f64 n] w fun e w' => e = .returned (.tuple #[.float .f64 ((n.log2 + 1) * 2 ^ 52 + Lg.fr n), .int .i64 (-52)]) ∧ w = w' := by
  have H := Lib.hid (show n < 18446744073709551616 by omega)
  have ha : absW n = n := absW_pos (by omega)
  have ho : (FloatKind.f64.format.order n 4503599627370496 == some .lt) = true := by rw [order_small (by omega)]; simpa using h
  have hm : floatBits .mul .f64 n 4841369599423283200 = some ((n.log2 + 1) * 2 ^ 52 + Lg.fr n) := Lg.mul_small n h0 h
  have hr := fun (t : TypeId) (w : World) => run_float_arith (P := Tryz.prog) w .mul t .f64 n 4841369599423283200 _ hm
  have HA := Lib.hid ha
  generalize (n.log2 + 1) * 2 ^ 52 + Lg.fr n = y at *
  clear hm h h0 ha
  go_enter Tryz.func174, Tryz.ntmps174
  go_wp2_with (go_at_call 12; refine (abs12 _ _ H.out).mono ?_; rw [HA.out]; rintro e w' ⟨rfl, rfl⟩)
  go_ret2
  exact ⟨rfl, rfl⟩

set_option maxHeartbeats 400000 in
theorem normalize174n (n : Nat) (w : World) (h : 2 ^ 52 ≤ n) (h2 : n < 2047 * 2 ^ 52) :
    Calls Tryz.prog 174 #[.float .f64 n] w fun e w' => e = .returned (.tuple #[.float .f64 n, .int .i64 0]) ∧ w = w' := by
  have H := Lib.hid (show n < 18446744073709551616 by omega)
  have ha : absW n = n := absW_pos (by omega)
  have ho : (FloatKind.f64.format.order n 4503599627370496 == some .lt) = false := by rw [order_small h2]; simpa using h
  have HA := Lib.hid ha
  clear h h2 ha
  go_enter Tryz.func174, Tryz.ntmps174
  go_wp2_with (go_at_call 12; refine (abs12 _ _ H.out).mono ?_; rw [HA.out]; rintro e w' ⟨rfl, rfl⟩)
  go_ret2
  exact ⟨rfl, rfl⟩
end Go.Proofs.YtlpddogcnpokfaaGreat
namespace Go.Proofs.YtlpddogcnpokfaaGreat
open Go.RowKit

theorem order_pos_ne_zero {n : Nat} (h0 : 0 < n) (h : n < 2047 * 2 ^ 52) : (FloatKind.f64.format.order n 0 == some .eq) = false := by
  have := Lg.eq_zero n (by unfold Lg.fin Lg.rung; omega)
  have e : (FloatKind.f64.format.order n 0 == some .eq) = decide (Lg.rung n = 0) := this
  rw [e]; unfold Lg.rung; simp; omega

/-- the bits of 'frexp' -/
theorem frexp_bits (q m : Nat) (hm : m < 2 ^ 52) (hq : q < 2047) :
    bits .or .u64 (bits .andNot .u64 ((q * 2 ^ 52 + m : Nat) : Int) 9218868437227405312) 4602678819172646912 = ((1022 * 2 ^ 52 + m : Nat) : Int) := by
  have h := u64_andNot ((q * 2 ^ 52 + m : Nat) : Int) 9218868437227405312 (by omega) (by omega) (by omega) (by omega)
  rw [h]
  have e1 : ((q * 2 ^ 52 + m : Nat) : Int).toNat = q * 2 ^ 52 + m := by omega
  have e2 : (18446744073709551615 - (9218868437227405312 : Int).toNat : Nat) = 2 ^ 63 + (2 ^ 52 - 1) := by decide
  rw [e1, e2]
  have e3 : (q * 2 ^ 52 + m) &&& (2 ^ 63 + (2 ^ 52 - 1)) = m := by
    apply Nat.eq_of_testBit_eq
    intro i
    rw [Nat.testBit_and]
    rw [show q * 2 ^ 52 + m = 2 ^ 52 * q + m from by omega, Nat.testBit_two_pow_mul_add _ hm]
    rw [show 2 ^ 63 + (2 ^ 52 - 1) = 2 ^ 52 * 2 ^ 11 + (2 ^ 52 - 1) from by decide, Nat.testBit_two_pow_mul_add _ (by decide)]
    by_cases hi : i < 52
    · rw [if_pos hi, if_pos hi, Nat.testBit_two_pow_sub_one]
      simp [hi]
    · rw [if_neg hi, if_neg hi]
      have hm' : m.testBit i = false := Nat.testBit_lt_two_pow (Nat.lt_of_lt_of_le hm (Nat.pow_le_pow_right (by decide) (by omega)))
      rw [hm', Nat.testBit_two_pow]
      by_cases h11 : 11 = i - 52
      · rw [← h11]
        have : q.testBit 11 = false := Nat.testBit_lt_two_pow (by omega)
        simp [this]
      · simp [h11]
  rw [e3]
  have h2 := u64_or (m : Int) 4602678819172646912 (by omega) (by omega) (by omega) (by omega)
  rw [h2]
  congr 1
  have e4 : ((m : Nat) : Int).toNat = m := by omega
  have e5 : (4602678819172646912 : Int).toNat = 2 ^ 52 * 1022 := by decide
  rw [e4, e5, Nat.or_comm, ← Nat.two_pow_add_eq_or_of_lt hm]
end Go.Proofs.YtlpddogcnpokfaaGreat
namespace Go.Proofs.YtlpddogcnpokfaaGreat
open Go.RowKit

theorem ret2_eq {a b c d : Value} (h1 : a = c) (h2 : b = d) : Ending.returned (.tuple #[a, b]) = Ending.returned (.tuple #[c, d]) := by rw [h1, h2]
theorem ret_float {a b : Nat} (h : a = b) : Ending.returned (.float .f64 a) = .returned (.float .f64 b) := by rw [h]
theorem ret_int {k : IntKind} {a b : Int} (h : a = b) : Ending.returned (.int k a) = .returned (.int k b) := by rw [h]
theorem v_float {a b : Nat} (h : a = b) : Value.float .f64 a = Value.float .f64 b := by rw [h]
theorem v_int {k : IntKind} {a b : Int} (h : a = b) : Value.int k a = Value.int k b := by rw [h]

theorem exp_bits (n q m : Nat) (hn : n = q * 2 ^ 52 + m) (hm : m < 2 ^ 52) (hq : q < 2047) : bits .and .u64 ((n : Int) / 4503599627370496) 2047 = (q : Int) := by
  have e : (n : Int) / 4503599627370496 = (q : Int) := by omega
  rw [e]
  have h := u64_and (q : Int) 2047 (by omega) (by omega) (by omega) (by omega)
  rw [h]
  have e1 : ((q : Nat) : Int).toNat = q := by omega
  have e2 : (2047 : Int).toNat = 2 ^ 11 - 1 := by decide
  rw [e1, e2, Nat.and_two_pow_sub_one_eq_mod]
  omega

theorem frac_fin (n q m : Nat) (hn : n = q * 2 ^ 52 + m) (hm : m < 2 ^ 52) (hq : q < 2047) :
    (bits .or .u64 (bits .andNot .u64 (n : Int) 9218868437227405312) 4602678819172646912).toNat = 1022 * 2 ^ 52 + m := by
  rw [hn, frexp_bits q m hm hq]; omega

set_option maxHeartbeats 400000 in
theorem frexp156n (n q m : Nat) (w : World) (hn : n = q * 2 ^ 52 + m) (hm : m < 2 ^ 52) (hq1 : 1 ≤ q) (hq : q < 2047) :
    Calls Tryz.prog 156 #[.float .f64 n] w fun e w' => e = .returned (.tuple #[.float .f64 (1022 * 2 ^ 52 + m), .int .i64 ((q : Int) - 1022)]) ∧ w = w' := by
  have ho := order_pos_ne_zero (n := n) (by omega) (by omega)
  have h1 := Lib.hid (show 2 ^ 52 ≤ n by omega)
  have h2 := Lib.hid (show n < 2047 * 2 ^ 52 by omega)
  have h3 := Lib.hid (show n < 18446744073709551616 by omega)
  have h4 := Lib.hid (show Lg.nanW n = false ∧ Lg.infW n = false from (Lg.fin_iff n).1 (by unfold Lg.fin Lg.rung; omega))
  have f1 := Lib.hid (frac_fin n q m hn hm hq)
  have f2 := Lib.hid (exp_bits n q m hn hm hq)
  have HN := Lib.hid hn
  clear hn
  go_enter Tryz.func156, Tryz.ntmps156
  go_wp2_with fail
  refine (isInf33 _ _ h3.out).mono ?_; rw [h4.out.2]; rintro e w' ⟨rfl, rfl⟩
  go_wp2_with fail
  refine (isNaN32 _ _).mono ?_; rw [h4.out.1]; rintro e w' ⟨rfl, rfl⟩
  go_wp2_with fail
  refine (normalize174n _ _ h1.out h2.out).mono ?_; rintro e w' ⟨rfl, rfl⟩
  go_wp2_with fail
  go_ret2
  exact ⟨ret2_eq (v_float f1.out) (v_int (by rw [f2.out]; unfold wrap64; omega)), rfl⟩

theorem normalize174y (n y : Nat) (w : World) (h0 : 0 < n) (h : n < 2 ^ 52) (hy : (n.log2 + 1) * 2 ^ 52 + Lg.fr n = y) :
    Calls Tryz.prog 174 #[.float .f64 n] w fun e w' => e = .returned (.tuple #[.float .f64 y, .int .i64 (-52)]) ∧ w = w' := by
  rw [← hy]; exact normalize174s n w h0 h

set_option maxHeartbeats 400000 in
theorem frexp156s (n y q m : Nat) (w : World) (h0 : 0 < n) (hs : n < 2 ^ 52) (hyd : (n.log2 + 1) * 2 ^ 52 + Lg.fr n = y) (hy : y = q * 2 ^ 52 + m) (hm : m < 2 ^ 52) (hq : q < 2047) :
    Calls Tryz.prog 156 #[.float .f64 n] w fun e w' => e = .returned (.tuple #[.float .f64 (1022 * 2 ^ 52 + m), .int .i64 ((q : Int) - 1074)]) ∧ w = w' := by
  have ho := order_pos_ne_zero (n := n) (by omega) (by omega)
  have h3 := Lib.hid (show n < 18446744073709551616 by omega)
  have h4 := Lib.hid (show Lg.nanW n = false ∧ Lg.infW n = false from (Lg.fin_iff n).1 (by unfold Lg.fin Lg.rung; omega))
  have f1 := Lib.hid (frac_fin _ q m hy hm hq)
  have f2 := Lib.hid (exp_bits _ q m hy hm hq)
  have H0 := Lib.hid h0
  have HS := Lib.hid hs
  have HY := Lib.hid hyd
  clear h0 hs hy hyd
  go_enter Tryz.func156, Tryz.ntmps156
  go_wp2_with fail
  refine (isInf33 _ _ h3.out).mono ?_; rw [h4.out.2]; rintro e w' ⟨rfl, rfl⟩
  go_wp2_with fail
  refine (isNaN32 _ _).mono ?_; rw [h4.out.1]; rintro e w' ⟨rfl, rfl⟩
  go_wp2_with fail
  refine (normalize174y _ y _ H0.out HS.out HY.out).mono ?_; rintro e w' ⟨rfl, rfl⟩
  go_wp2_with fail
  go_ret2
  exact ⟨ret2_eq (v_float f1.out) (v_int (by rw [f2.out]; unfold wrap64; omega)), rfl⟩

/-- 'math.frexp' of a number above 0 -/
theorem frexp156 (n : Nat) (w : World) (h0 : 0 < n) (h : n < 2047 * 2 ^ 52) :
    Calls Tryz.prog 156 #[.float .f64 n] w fun e w' => e = .returned (.tuple #[.float .f64 (1022 * 2 ^ 52 + Lg.fr n), .int .i64 (Lg.ex n + 1)]) ∧ w = w' := by
  by_cases hs : n < 2 ^ 52
  · have hl : n.log2 < 52 := (Nat.log2_lt (by omega)).2 hs
    refine (frexp156s n _ (n.log2 + 1) (Lg.fr n) w h0 hs rfl rfl (Lg.fr_lt n h0) (by omega)).mono ?_
    rintro e w' ⟨rfl, rfl⟩
    exact ⟨ret2_eq rfl (v_int (by unfold Lg.ex; rw [if_pos hs]; omega)), rfl⟩
  · refine (frexp156n n (n / 2 ^ 52) (n % 2 ^ 52) w (by omega) (by omega) (by omega) (by omega)).mono ?_
    rintro e w' ⟨rfl, rfl⟩
    exact ⟨ret2_eq (by unfold Lg.fr; rw [if_neg hs]) (v_int (by unfold Lg.ex; rw [if_neg hs]; omega)), rfl⟩

set_option maxHeartbeats 400000 in
theorem frexp140 (n : Nat) (w : World) (h0 : 0 < n) (h : n < 2047 * 2 ^ 52) :
    Calls Tryz.prog 140 #[.float .f64 n] w fun e w' => e = .returned (.tuple #[.float .f64 (1022 * 2 ^ 52 + Lg.fr n), .int .i64 (Lg.ex n + 1)]) ∧ w = w' := by
  have H0 := Lib.hid h0
  have H := Lib.hid h
  clear h0 h
  go_enter Tryz.func140, Tryz.ntmps140
  go_wp2_with fail
  refine (frexp156 _ _ H0.out H.out).mono ?_; rintro e w' ⟨rfl, rfl⟩
  go_wp2_with fail
  go_ret2
  exact ⟨rfl, rfl⟩
end Go.Proofs.YtlpddogcnpokfaaGreat
namespace Go.Proofs.YtlpddogcnpokfaaGreat
open Go.RowKit
set_option maxHeartbeats 400000 in
theorem log141 (n r : Nat) (w : World) (h : Extern.MathLog.archLog #[.float .f64 n] = Sem.pure (.float .f64 r)) :
    Calls Tryz.prog 141 #[.float .f64 n] w fun e w' => e = .returned (.float .f64 r) ∧ w = w' := by
  have hc := fun w => call157 n r w h
  clear h
  go_enter Tryz.func141, Tryz.ntmps141
  go_wp2
  go_ret
  exact ⟨rfl, rfl⟩

theorem scale_bits (S : Nat) (h : S ≤ 20) : bits .or .u64 (bits .andNot .u64 4609176140021203710 9218868437227405312) (((S : Int) + 1023) * 4503599627370496) = ((Lg.scaleWord S : Nat) : Int) := by
  have key : ∀ S : Fin 21, bits .or .u64 (bits .andNot .u64 4609176140021203710 9218868437227405312) (((S.val : Int) + 1023) * 4503599627370496) = ((Lg.scaleWord S.val : Nat) : Int) := by decide +kernel
  exact key ⟨S, by omega⟩
theorem scale_one (S : Nat) (h : S ≤ 20) : floatBits .mul .f64 4607182418800017408 (Lg.scaleWord S) = some (Lg.scaleWord S) := by
  have key : ∀ S : Fin 21, floatBits .mul .f64 4607182418800017408 (Lg.scaleWord S.val) = some (Lg.scaleWord S.val) := by decide +kernel
  exact key ⟨S, by omega⟩

set_option maxHeartbeats 400000 in
theorem ldexp177 (S : Nat) (w : World) (h1 : 1 ≤ S) (h2 : S ≤ 20) :
    Calls Tryz.prog 177 #[.float .f64 4609176140021203710, .int .i64 (S : Int)] w fun e w' => e = .returned (.float .f64 (Lg.scaleWord S)) ∧ w = w' := by
  have ho : (FloatKind.f64.format.order 4609176140021203710 0 == some .eq) = false := by kernel_rfl
  have hb : bits .and .i64 1023 2047 = 1023 := by decide
  have hz := scale_bits S h2
  have hr := fun (t : TypeId) (w : World) => run_float_arith (P := Tryz.prog) w .mul t .f64 _ _ _ (scale_one S h2)
  go_enter Tryz.func177, Tryz.ntmps177
  go_wp2_with fail
  refine (isInf33 _ _ (by decide)).mono ?_; rw [show Lg.infW 4609176140021203710 = false by decide +kernel]; rintro e w' ⟨rfl, rfl⟩
  go_wp2_with fail
  refine (isNaN32 _ _).mono ?_; rw [show Lg.nanW 4609176140021203710 = false by decide +kernel]; rintro e w' ⟨rfl, rfl⟩
  go_wp2_with fail
  refine (normalize174n _ _ (by decide) (by decide)).mono ?_; rintro e w' ⟨rfl, rfl⟩
  go_wp2_with fail
  go_ret
  exact ⟨rfl, rfl⟩

set_option maxHeartbeats 400000 in
theorem scaleFactor142 (S : Nat) (w : World) (h1 : 1 ≤ S) (h2 : S ≤ 20) :
    Calls Tryz.prog 142 #[.int .i32 (S : Int)] w fun e w' => e = .returned (.float .f64 (Lg.scaleWord S)) ∧ w = w' := by
  go_enter Tryz.func142, Tryz.ntmps142
  go_wp2_with (first | (go_at_call 177; refine (ldexp177 _ _ h1 h2).mono ?_; rintro e w' ⟨rfl, rfl⟩) | go_in)
  go_ret
  exact ⟨rfl, rfl⟩

/-- a point's scale, and what getBin reckons -/
def binW (top : Nat) (S : Int) (x : Nat) : Int := Lg.idx top x / ((2 ^ ((top : Int) - S).toNat : Nat) : Int)

theorem half_eq (x : Nat) (h0 : 0 < x) : (FloatKind.f64.format.order (4602678819172646912 + Lg.fr x) 4602678819172646912 == some .eq) = decide (Lg.fr x = 0) := by
  have hl := Lg.fr_lt x h0
  have h := Lg.eq_half (4602678819172646912 + Lg.fr x) (by omega) (by omega)
  have e : (FloatKind.f64.format.order (4602678819172646912 + Lg.fr x) 4602678819172646912 == some .eq) = decide (4602678819172646912 + Lg.fr x = 1022 * 2 ^ 52) := h
  rw [e]; congr 1; apply propext; omega

theorem binW_low (top x : Nat) (S : Int) (h0 : 0 < x) (hS0 : S ≤ 0) : (if Lg.fr x = 0 then Lg.ex x - 1 else Lg.ex x) / ((2 : Int) ^ (-S).toNat) = binW top S x := by
  have h := Lg.bin_low top x (-S).toNat h0
  unfold binW
  rw [show ((top : Int) - S).toNat = top + (-S).toNat from by omega, ← h]
  congr 1

set_option maxHeartbeats 400000 in
theorem getBin129lo (b o x : Nat) (S : Int) (top : Nat) (w : World) (h0 : 0 < x) (hx : x < 2047 * 2 ^ 52) (hS : -10 ≤ S) (hS0 : S ≤ 0) (hc : w.cell? ⟨b, o + 10, none⟩ = some (.int .i32 S)) :
    Calls Tryz.prog 129 #[.pointer (some ⟨b, o, none⟩), .float .f64 x] w fun e w' => e = .returned (.int .i32 (binW top S x)) ∧ w = w' := by
  have hr := Lg.ex_range x h0 hx
  obtain ⟨r1, r2⟩ := hr
  have hb := Lib.hid (binW_low top x S h0 hS0)
  have hh := half_eq x h0
  have H0 := Lib.hid h0
  have H := Lib.hid hx
  clear h0 hx
  by_cases hf : Lg.fr x = 0
  · rw [decide_eq_true hf] at hh
    have HF := Lib.hid hf
    clear hf
    go_enter Tryz.func129, Tryz.ntmps129
    go_wp2_with fail
    refine (frexp140 _ _ H0.out H.out).mono ?_; rintro e w' ⟨rfl, rfl⟩
    go_wp2_with go_in
    go_ret
    exact ⟨ret_int (by rw [← hb.out, if_pos HF.out, show Lg.ex x + 1 - 2 = Lg.ex x - 1 from by omega]), rfl⟩
  · rw [decide_eq_false hf] at hh
    have HF := Lib.hid hf
    clear hf
    go_enter Tryz.func129, Tryz.ntmps129
    go_wp2_with fail
    refine (frexp140 _ _ H0.out H.out).mono ?_; rintro e w' ⟨rfl, rfl⟩
    go_wp2_with go_in
    go_ret
    exact ⟨ret_int (by rw [← hb.out, if_neg HF.out]), rfl⟩

theorem wrap_bin (e t : Int) (S : Nat) (z : Int) (h1 : -1074 ≤ e) (h2 : e ≤ 1023) (hS : S ≤ 20) (ht1 : -((2 ^ S : Nat) : Int) ≤ t) (ht2 : t ≤ 0) (hz : (e + 1) * ((2 ^ S : Nat) : Int) + t - 1 = z) :
    wrap32 (wrap32 (wrap32 ((e + 1) * 2 ^ S) + t) - 1) = z := by
  have hp : (2 : Int) ^ S = ((2 ^ S : Nat) : Int) := by simp
  rw [hp]
  have h20 : 2 ^ S ≤ 2 ^ 20 := Nat.pow_le_pow_right (by decide) hS
  have h0 : 0 < 2 ^ S := Nat.two_pow_pos _
  generalize 2 ^ S = p at *
  have m1 : (e + 1) * (p : Int) ≤ 1024 * (p : Int) := Int.mul_le_mul_of_nonneg_right (by omega) (by omega)
  have m2 : -1073 * (p : Int) ≤ (e + 1) * (p : Int) := Int.mul_le_mul_of_nonneg_right (by omega) (by omega)
  generalize (e + 1) * (p : Int) = y at *
  unfold wrap32
  omega

theorem quiet_same {P : Program} {f : FuncId} {args : Array Value} {w : World} {n : Nat} {v : Value}
    (h : Calls P f args (w.drewN n) fun e w' => e = .returned v ∧ w.drewN n = w') : Calls P f args (w.drewN n) fun e w'' => e = .returned v ∧ ∃ m, w'' = w.drewN m :=
  h.mono fun _ _ ⟨he, hm⟩ => ⟨he, n, hm.symm⟩

set_option maxHeartbeats 400000 in
theorem getBin129hi (b o x : Nat) (S : Nat) (top : Nat) (w : World) (h0 : 0 < x) (hx : x < 2047 * 2 ^ 52) (hS : S ≤ top) (ht : top ≤ 20) (hS0 : 0 < S) (hn : Lg.near top x = false)
    (hc : w.cell? ⟨b, o + 10, none⟩ = some (.int .i32 (S : Int))) :
    Calls Tryz.prog 129 #[.pointer (some ⟨b, o, none⟩), .float .f64 x] w fun e w' => e = .returned (.int .i32 (binW top S x)) ∧ ∃ n, w' = w.drewN n := by
  obtain ⟨r1, r2⟩ := Lg.ex_range x h0 hx
  obtain ⟨r, P, t, q1, q2, q3, q4, q5, q6⟩ := Lg.bin_high top x S hS ht h0 hn hS0
  have H0 := Lib.hid h0
  have H := Lib.hid hx
  have hm := fun (t : TypeId) (w : World) => run_float_arith (P := Tryz.prog) w .mul t .f64 _ _ _ q2
  have hv := fun (w : World) => run_convert_float_int (P := Tryz.prog) w 32 21 .f64 .i32 P t (by kernel_rfl) Tryz.underlying21 q3
  have Q1 := Lib.hid q1
  have h20 : 2 ^ S ≤ 2 ^ 20 := Nat.pow_le_pow_right (by decide) (by omega)
  have hfin := Lib.hid (wrap_bin (Lg.ex x) t S _ r1 r2 (by omega) q5 q6 q4)
  clear h0 hx q1 q2 q3 q4 q5 q6
  go_enter Tryz.func129, Tryz.ntmps129
  go_wp2_with fail
  refine (frexp140 _ _ H0.out H.out).mono ?_; rintro e w' ⟨rfl, rfl⟩
  go_wp2_with go_in
  go_quiet (first | (go_at_call 141; exact quiet_same (log141 _ _ _ Q1.out)) | (go_at_call 142; exact quiet_same (scaleFactor142 _ _ (by omega) (by omega))))
  all_goals first | (exfalso; omega) | skip
  go_wp2
  go_ret
  exact ⟨ret_int (by rw [hfin.out]; unfold binW; rw [show ((top : Int) - (S : Int)).toNat = top - S from by omega]), nq, rfl⟩

/-- 'getBin' -/
theorem getBin129 (b o x : Nat) (S : Int) (top : Nat) (w : World) (h0 : 0 < x) (hx : x < 2047 * 2 ^ 52) (hS : S ≤ top) (hS1 : -10 ≤ S) (ht : top ≤ 20) (hn : Lg.near top x = false)
    (hc : w.cell? ⟨b, o + 10, none⟩ = some (.int .i32 S)) :
    Calls Tryz.prog 129 #[.pointer (some ⟨b, o, none⟩), .float .f64 x] w fun e w' => e = .returned (.int .i32 (binW top S x)) ∧ ∃ n, w' = w.drewN n := by
  by_cases hS0 : S ≤ 0
  · exact (getBin129lo b o x S top w h0 hx hS1 hS0 hc).mono fun e w' ⟨h, hw⟩ => ⟨h, 0, by rw [← hw]; rfl⟩
  · obtain ⟨s, rfl⟩ : ∃ s : Nat, S = s := ⟨S.toNat, by omega⟩
    exact getBin129hi b o x s top w h0 hx (by omega) ht (by omega) hn hc
end Go.Proofs.YtlpddogcnpokfaaGreat
