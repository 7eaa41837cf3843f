/- The walk of ExpoIndex: the index of a finite number above 0, by squares. -/
import Derived.Test.YtlpddogcnpokfaaGreatPl1
import Derived.Shelf.Bits.Mul64
namespace Go.Proofs.YtlpddogcnpokfaaGreat
open Go.RowKit

set_option maxHeartbeats 1000000 in
/-- the product of two words, in two words -/
theorem mul42 (x y : Nat) (hx : x < 18446744073709551616) (hy : y < 18446744073709551616) (w : World) :
    Calls Tryz.prog 42 #[.int .u64 x, .int .u64 y] w fun e w' => e = .returned (.tuple #[.int .u64 ((x * y / 18446744073709551616 : Nat) : Int), .int .u64 ((x * y % 18446744073709551616 : Nat) : Int)]) ∧ w = w' := by
  obtain ⟨b1, b2, b3, hhi⟩ := Lib.mul64_hi x y hx hy
  have c1 := Lib.half_mul_le (a := x / 4294967296) (b := y / 4294967296) (by omega) (by omega)
  have c2 := Lib.half_mul_le (a := x / 4294967296) (b := y % 4294967296) (by omega) (by omega)
  have c3 := Lib.half_mul_le (a := x % 4294967296) (b := y / 4294967296) (by omega) (by omega)
  have n1 : x / 4294967296 * (y / 4294967296) < 18446744073709551616 := by omega
  have n2 : x / 4294967296 * (y % 4294967296) < 18446744073709551616 := by omega
  have n3 : x % 4294967296 * (y / 4294967296) < 18446744073709551616 := by omega
  have n4 : x / 4294967296 * (y / 4294967296) + (x / 4294967296 * (y % 4294967296) + x % 4294967296 * (y % 4294967296) / 4294967296) / 4294967296 < 18446744073709551616 := by omega
  have n5 : x / 4294967296 * (y / 4294967296) + (x / 4294967296 * (y % 4294967296) + x % 4294967296 * (y % 4294967296) / 4294967296) / 4294967296 + ((x / 4294967296 * (y % 4294967296) + x % 4294967296 * (y % 4294967296) / 4294967296) % 4294967296 + x % 4294967296 * (y / 4294967296)) / 4294967296 < 18446744073709551616 := by omega
  go_enter Tryz.func42, Tryz.ntmps42
  go_wp2
  simp only [Mul64.maskN x hx, Mul64.maskN y hy, Mul64.divN, Mul64.mulN, Mul64.addN, Mul64.wrapN _ b1, Mul64.wrapN _ n2, Mul64.wrapN _ b2, Mul64.maskN _ b2, Mul64.wrapN _ n3, Mul64.wrapN _ b3, Mul64.wrapN _ n1, Mul64.wrapN _ n4, Mul64.wrapN _ n5, Mul64.wrapM (x * y)]
  rw [hhi]
  go_ret2
  exact ⟨rfl, rfl⟩

/-- what stays of a word's lowest 52 bits -/
theorem mask52 (n : Nat) (hn : n < 18446744073709551616) : bits .and .u64 (n : Int) 4503599627370495 = ((n % 4503599627370496 : Nat) : Int) := by
  rw [u64_and (n : Int) 4503599627370495 (by omega) (by omega) (by omega) (by omega)]
  congr 1
  have e1 : ((n : Int)).toNat = n := by omega
  have e2 : (4503599627370495 : Int).toNat = 2 ^ 52 - 1 := by decide
  rw [e1, e2, Nat.and_two_pow_sub_one_eq_mod]
theorem or52 (m : Nat) (hm : m < 4503599627370496) : bits .or .u64 (m : Int) 4503599627370496 = ((4503599627370496 + m : Nat) : Int) := by
  rw [u64_or (m : Int) 4503599627370496 (by omega) (by omega) (by omega) (by omega)]
  congr 1
  have e1 : ((m : Int)).toNat = m := by omega
  have e2 : (4503599627370496 : Int).toNat = 2 ^ 52 * 1 := by decide
  rw [e1, e2, Nat.or_comm, ← Nat.two_pow_add_eq_or_of_lt (by omega)]
theorem or_low (a b : Nat) (ha : a < 9223372036854775808) (hb : b < 2) : bits .or .u64 ((2 * a : Nat) : Int) (b : Int) = ((2 * a + b : Nat) : Int) := by
  rw [u64_or _ _ (by omega) (by omega) (by omega) (by omega)]
  congr 1
  have e1 : (((2 * a : Nat) : Int)).toNat = 2 ^ 1 * a := by omega
  have e2 : ((b : Int)).toNat = b := by omega
  rw [e1, e2, ← Nat.two_pow_add_eq_or_of_lt (by omega)]
theorem or_lowI (a : Nat) (ha : a < 4611686018427387904) : bits .or .i64 ((2 * a : Nat) : Int) 1 = ((2 * a + 1 : Nat) : Int) := by
  show IntKind.i64.wrap ((BitVec.ofInt 64 ((2 * a : Nat) : Int) ||| BitVec.ofInt 64 ((1 : Nat) : Int)).toNat : Int) = _
  rw [BitVec.toNat_or, ofInt_u64 _ (by omega), ofInt_u64 _ (by omega)]
  have e : 2 * a ||| 1 = 2 * a + 1 := by
    have := Nat.two_pow_add_eq_or_of_lt (i := 1) (b := 1) (by decide) a
    rw [Nat.pow_one] at this
    exact this.symm
  rw [e]
  exact IntWalk.i64_in _ (by omega)
/-- an index that is at a bound, without the digits -/
def idxPost (top x : Nat) (w : World) (e : Ending) (w' : World) : Prop := e = .returned (.tuple #[.int .i64 (Lg.idx top x), .bool (Lg.near top x)]) ∧ Kept [] w w'

theorem shl_top (e : Int) (top : Nat) (h1 : -1074 ≤ e) (h2 : e ≤ 1023) (ht : top ≤ 20) : -1126170624 ≤ e * ((2 ^ top : Nat) : Int) ∧ e * ((2 ^ top : Nat) : Int) ≤ 1072693248 := by
  have hp : (2 ^ top : Nat) ≤ 2 ^ 20 := Nat.pow_le_pow_right (by decide) ht
  have hp1 : 0 < (2 ^ top : Nat) := Nat.two_pow_pos _
  generalize (2 ^ top : Nat) = p at *
  have a1 : -1074 * (p : Int) ≤ e * (p : Int) := Int.mul_le_mul_of_nonneg_right h1 (by omega)
  have a2 : e * (p : Int) ≤ 1023 * (p : Int) := Int.mul_le_mul_of_nonneg_right h2 (by omega)
  omega

set_option maxHeartbeats 2000000 in
set_option maxRecDepth 100000 in
/-- the index of a normal number -/
theorem idx34n (x q m top : Nat) (w : World) (hx : x = q * 4503599627370496 + m) (hm : m < 4503599627370496) (hq1 : 1 ≤ q) (hq : q < 2047) (ht : top ≤ 20) :
    Calls Tryz.prog 34 #[.float .f64 x, .int .i64 (top : Int)] w (idxPost top x w) := by
  have hex : Lg.ex x = (q : Int) - 1023 := by unfold Lg.ex; rw [if_neg (by omega)]; congr 1; omega
  have hfr : Lg.fr x = m := by unfold Lg.fr; rw [if_neg (by omega)]; omega
  have f1 : bits .and .u64 ((x : Int) / 4503599627370496) 2047 = (q : Int) := exp_bits x q m hx hm hq
  have f2 : bits .and .u64 (x : Int) 4503599627370495 = (m : Int) := by rw [mask52 x (by omega)]; congr 1; omega
  have f3 : bits .and .u64 (m : Int) 4503599627370495 = (m : Int) := by rw [mask52 m (by omega)]; congr 1; omega
  have HE := Lib.hid (And.intro hex hfr)
  have g1 : ¬ (q : Int) - 1023 = -1023 := by omega
  have g2 : (((q : Int) - 1023) == -1023) = false := by simpa using g1
  clear hx hex hfr
  by_cases h0 : m = 0
  · subst h0
    go_enter Tryz.func34, Tryz.ntmps34
    go_wp2_with fail
    go_ret2
    have h := shl_top ((q : Int) - 1023) top (by omega) (by omega) ht
    have hp : (2 : Int) ^ top = ((2 ^ top : Nat) : Int) := by simp
    refine ⟨?_, Kept.refl _ _⟩
    have e1 : Lg.idx top x = ((q : Int) - 1023) * ((2 ^ top : Nat) : Int) - 1 := by unfold Lg.idx; rw [HE.out.1, HE.out.2, if_pos rfl]
    have e2 : Lg.near top x = false := by unfold Lg.near; rw [HE.out.2]; rfl
    rw [e1, e2, hp]
    refine ret2_eq (v_int ?_) rfl
    generalize ((q : Int) - 1023) * ((2 ^ top : Nat) : Int) = y at *
    unfold wrap64; omega
  · have f4 := or52 m hm
    have g3 : ((m : Int) == 0) = false := by simpa using h0
    have hX : 2 ^ 63 ≤ (2 ^ 52 + m) * 2048 ∧ (2 ^ 52 + m) * 2048 < 2 ^ 64 := by omega
    have HX := Lib.hid hX
    have h0' := Lib.hid h0
    clear h0 hX
    go_enter Tryz.func34, Tryz.ntmps34
    go_wp2_with fail
    go_loopw [9, 10, 45] (fun xx kk i wr => ∃ j : Nat, j ≤ top ∧ i = .int .i64 (j : Int) ∧ xx = .int .u64 (((Lg.sqs j ((2 ^ 52 + m) * 2048)).2 : Nat) : Int) ∧ kk = .int .i64 (((Lg.sqs j ((2 ^ 52 + m) * 2048)).1 : Nat) : Int) ∧ Kept [] w wr) (fun _ _ i _ => top - (intOf i).toNat)
    case atStart => exact ⟨0, by omega, rfl, v_int (by show (4503599627370496 + (m : Int)) * 2048 = (((2 ^ 52 + m) * 2048 : Nat) : Int); omega), rfl, Kept.refl _ _⟩
    case round =>
      obtain ⟨j, hj, rfl, rfl, rfl, hk⟩ := hrel
      obtain ⟨r1, r2, r3⟩ := Lg.sqs_range j ((2 ^ 52 + m) * 2048) HX.out.1 HX.out.2
      have hp20 : (2 ^ j : Nat) ≤ 2 ^ 20 := Nat.pow_le_pow_right (by decide) (by omega)
      by_cases hlt : j < top
      · obtain ⟨y, hy⟩ : ∃ y, y = (Lg.sqs j ((2 ^ 52 + m) * 2048)).2 := ⟨_, rfl⟩
        obtain ⟨k, hkk⟩ : ∃ k, k = (Lg.sqs j ((2 ^ 52 + m) * 2048)).1 := ⟨_, rfl⟩
        rw [← hy, ← hkk]
        rw [← hy] at r1 r2
        rw [← hkk] at r3
        have w7 : (j : Int) < (top : Int) := by omega
        have w1 : IntKind.i64.wrap ((j : Int) + 1) = (j : Int) + 1 := IntWalk.i64_in _ (by omega)
        have hkb : k < 1048576 := by omega
        have HY := Lib.hid (And.intro hy hkk)
        have HK := Lib.hid hk
        have hsq : Lg.sqs (j + 1) ((2 ^ 52 + m) * 2048) = if 2 ^ 127 ≤ y * y then (2 * k + 1, y * y / 2 ^ 64) else (2 * k, y * y / 2 ^ 63) := by
          show (if 2 ^ 127 ≤ _ * _ then _ else _) = _; rw [← hy, ← hkk]
        have HSQ := Lib.hid hsq
        clear hy hkk hk hsq r3 hp20
        by_cases hbig : 2 ^ 127 ≤ y * y
        · have hhi : (((y * y / 18446744073709551616 : Nat) : Int) / 9223372036854775808 == 1) = true := by
            have h1 : y * y < 18446744073709551616 * 18446744073709551616 := Nat.mul_lt_mul'' r2 r2
            have h2 : y * y / 18446744073709551616 / 9223372036854775808 = 1 := by omega
            have : ((y * y / 18446744073709551616 : Nat) : Int) / 9223372036854775808 = ((y * y / 18446744073709551616 / 9223372036854775808 : Nat) : Int) := by omega
            rw [this, h2]; rfl
          generalize hH : y * y / 18446744073709551616 = H at *
          generalize y * y % 18446744073709551616 = L at *
          go_wp2_with (go_at_call 42; refine (mul42 _ _ r2 r2 _).mono ?_; rintro e w' ⟨rfl, rfl⟩)
          go_roundw
          case rel =>
            refine ⟨j + 1, by omega, by go_num, ?_, ?_, HK.out⟩
            · rw [HSQ.out, if_pos hbig]
            · rw [HSQ.out, if_pos hbig]
              refine v_int ?_
              rw [show (k : Int) * 2 = ((2 * k : Nat) : Int) from by omega]
              exact or_lowI k (by omega)
          case measure => simp [intOf]; omega
        · have h1 : y * y < 2 ^ 127 := by omega
          have hH : y * y / 18446744073709551616 < 9223372036854775808 := by omega
          have hhi : (((y * y / 18446744073709551616 : Nat) : Int) / 9223372036854775808 == 1) = false := by
            have : ((y * y / 18446744073709551616 : Nat) : Int) / 9223372036854775808 = ((y * y / 18446744073709551616 / 9223372036854775808 : Nat) : Int) := by omega
            rw [this, Nat.div_eq_of_lt hH]; rfl
          have hfin : 2 * (y * y / 18446744073709551616) + y * y % 18446744073709551616 / 9223372036854775808 = y * y / 2 ^ 63 := by omega
          have hL : y * y % 18446744073709551616 / 9223372036854775808 < 2 := by omega
          obtain ⟨H, hHH⟩ : ∃ H, H = y * y / 18446744073709551616 := ⟨_, rfl⟩
          obtain ⟨L, hLL⟩ : ∃ L, L = y * y % 18446744073709551616 := ⟨_, rfl⟩
          have hmul : Calls Tryz.prog 42 #[.int .u64 (y : Int), .int .u64 (y : Int)] wr fun e w' => e = .returned (.tuple #[.int .u64 (H : Int), .int .u64 (L : Int)]) ∧ wr = w' := by rw [hHH, hLL]; exact mul42 _ _ r2 r2 _
          rw [← hHH, ← hLL] at hfin
          rw [← hHH] at hH hhi
          rw [← hLL] at hL
          have HM := Lib.hid hmul
          have HF := Lib.hid hfin
          have HLL := Lib.hid hL
          clear hHH hLL hmul hfin h1 hL
          go_wp2_with (go_at_call 42; refine HM.out.mono ?_; rintro e w' ⟨rfl, rfl⟩)
          go_roundw
          case rel =>
            refine ⟨j + 1, by omega, by go_num, ?_, ?_, HK.out⟩
            · rw [HSQ.out, if_neg hbig]
              refine v_int ?_
              show _ = ((y * y / 2 ^ 63 : Nat) : Int)
              rw [← HF.out, show (H : Int) * 2 = ((2 * H : Nat) : Int) from by omega, show (L : Int) / 9223372036854775808 = ((L / 9223372036854775808 : Nat) : Int) from by omega]
              exact or_low H _ hH HLL.out
            · rw [HSQ.out, if_neg hbig]
              exact v_int (by omega)
          case measure => simp [intOf]; omega
      · obtain rfl : j = top := by omega
        have w7 : ¬ (j : Int) < (j : Int) := by omega
        obtain ⟨y, hy⟩ : ∃ y, y = (Lg.sqs j ((2 ^ 52 + m) * 2048)).2 := ⟨_, rfl⟩
        obtain ⟨k, hkk⟩ : ∃ k, k = (Lg.sqs j ((2 ^ 52 + m) * 2048)).1 := ⟨_, rfl⟩
        rw [← hy, ← hkk]
        rw [← hy] at r1 r2
        rw [← hkk] at r3
        have HY := Lib.hid (And.intro hy hkk)
        have HK := Lib.hid hk
        have HK3 := Lib.hid (And.intro r3 hp20)
        clear hy hkk hk r3 hp20
        have hnear : Lg.near j x = true ↔ (0 < j ∧ (y < 2 ^ 63 + 2 ^ 43 ∨ 2 ^ 64 - 1 - 2 ^ 43 < y)) := by
          unfold Lg.near Lg.dig
          rw [HE.out.2, ← HY.out.1]
          simp only [Bool.and_eq_true, Bool.or_eq_true, decide_eq_true_eq, bne_iff_ne]
          exact ⟨fun h => h.2, fun h => ⟨h0'.out, h⟩⟩
        have hidx : Lg.idx j x = ((q : Int) - 1023) * ((2 ^ j : Nat) : Int) + (k : Int) := by
          unfold Lg.idx Lg.dig
          rw [HE.out.1, HE.out.2, if_neg h0'.out, ← HY.out.2]
        have HI := Lib.hid (And.intro hnear hidx)
        have fin : wrap64 (wrap64 (((q : Int) - 1023) * 2 ^ j) + (k : Int)) = Lg.idx j x := by
          rw [hidx]
          have h := shl_top ((q : Int) - 1023) j (by omega) (by omega) ht
          have hp : (2 : Int) ^ j = ((2 ^ j : Nat) : Int) := by simp
          rw [hp]
          have h1 := HK3.out
          generalize ((q : Int) - 1023) * ((2 ^ j : Nat) : Int) = y at *
          unfold wrap64; omega
        have FN := Lib.hid fin
        clear hnear hidx fin
        rcases Nat.eq_zero_or_pos j with hj0 | hj0
        · have hj1 : ¬ (0 : Int) < (j : Int) := by omega
          have hb : Lg.near j x = false := Bool.eq_false_iff.2 fun h => by have := (HI.out.1.1 h).1; omega
          have HB := Lib.hid hb
          clear hj0 hb
          go_wp2_with fail
          go_ret2
          exact ⟨ret2_eq (v_int FN.out) (congrArg Value.bool HB.out.symm), HK.out⟩
        · have hj1 : (0 : Int) < (j : Int) := by omega
          by_cases hA : (y : Int) < 9223380832947798016
          · have HB := Lib.hid (HI.out.1.2 ⟨hj0, .inl (by omega)⟩)
            go_wp2_with fail
            go_ret2
            exact ⟨ret2_eq (v_int FN.out) (congrArg Value.bool HB.out.symm), HK.out⟩
          · have HA := Lib.hid hA
            go_wp2_with fail
            go_ret2
            refine ⟨ret2_eq (v_int FN.out) (congrArg Value.bool (Bool.eq_iff_iff.2 ⟨fun h => ?_, fun h => ?_⟩)), HK.out⟩
            · have := of_decide_eq_true h
              exact HI.out.1.2 ⟨hj0, .inr (by omega)⟩
            · have h2 := (HI.out.1.1 h).2
              exact decide_eq_true (by omega)
end Go.Proofs.YtlpddogcnpokfaaGreat
namespace Go.Proofs.YtlpddogcnpokfaaGreat
open Go.RowKit

set_option maxHeartbeats 2000000 in
set_option maxRecDepth 100000 in
/-- the index of a number below the normal ones -/
theorem idx34s (x m d top : Nat) (w : World) (h0x : 0 < x) (hx : x < 4503599627370496) (hxm : x * 2 ^ d = 4503599627370496 + m) (hm : m < 4503599627370496) (hsm : ∀ j, j < d → x * 2 ^ j < 4503599627370496) (hex : Lg.ex x = -1022 - (d : Int)) (hfr : Lg.fr x = m) (hdl : d ≤ 52) (ht : top ≤ 20) :
    Calls Tryz.prog 34 #[.float .f64 x, .int .i64 (top : Int)] w (idxPost top x w) := by
  have f1 : bits .and .u64 ((x : Int) / 4503599627370496) 2047 = 0 := by
    have := exp_bits x 0 x (by omega) hx (by omega)
    exact this
  have f2 : bits .and .u64 (x : Int) 4503599627370495 = (x : Int) := by rw [mask52 x (by omega)]; congr 1; omega
  have f3 : bits .and .u64 ((x * 2 ^ d : Nat) : Int) 4503599627370495 = (m : Int) := by rw [hxm, mask52 _ (by omega)]; congr 1; omega
  have HE := Lib.hid (And.intro hex hfr)
  have HSM := Lib.hid hsm
  have HBG := Lib.hid (show 4503599627370496 ≤ x * 2 ^ d by omega)
  clear hx hex hfr hsm hxm
  by_cases h0 : m = 0
  · subst h0
    go_enter Tryz.func34, Tryz.ntmps34
    go_wp2_with fail
    go_loopw [7, 8] (fun ee mm wr => ∃ j : Nat, j ≤ d ∧ ee = .int .i64 (-1022 - (j : Int)) ∧ mm = .int .u64 ((x * 2 ^ j : Nat) : Int) ∧ Kept [] w wr) (fun ee _ _ => (d + 1022 + intOf ee).toNat)
    case atStart => exact ⟨0, by omega, rfl, by simp, Kept.refl _ _⟩
    case round =>
    obtain ⟨j, hj, rfl, rfl, hk0⟩ := hrel
    have HK0 := Lib.hid hk0
    clear hk0
    by_cases hjd : j < d
    · obtain ⟨z, hz⟩ : ∃ z, z = x * 2 ^ j := ⟨_, rfl⟩
      have hlt : z < 4503599627370496 := by rw [hz]; exact HSM.out j hjd
      have hz2 : x * 2 ^ (j + 1) = 2 * z := by rw [hz, Nat.pow_succ, ← Nat.mul_assoc, Nat.mul_comm]
      rw [← hz]
      have HZ := Lib.hid hz2
      have hsh : ((z : Int) / 4503599627370496 == 0) = true := by rw [beq_iff_eq]; omega
      clear hz hz2
      go_wp2_with fail
      go_roundw
      case rel => exact ⟨j + 1, by omega, by go_num, by rw [HZ.out]; exact v_int (by omega), HK0.out⟩
      case measure => simp [intOf]; omega
    obtain rfl : d = j := by omega
    have hsh : (((x * 2 ^ d : Nat) : Int) / 4503599627370496 == 0) = false := by rw [beq_eq_false_iff_ne]; have := HBG.out; omega
    obtain ⟨z, hz⟩ : ∃ z, z = x * 2 ^ d := ⟨_, rfl⟩
    rw [← hz] at hsh f3 ⊢
    clear hz
    go_wp2_with fail
    go_ret2
    have h := shl_top (-1022 - (d : Int)) top (by omega) (by omega) ht
    have hp : (2 : Int) ^ top = ((2 ^ top : Nat) : Int) := by simp
    refine ⟨?_, HK0.out⟩
    have e1 : Lg.idx top x = (-1022 - (d : Int)) * ((2 ^ top : Nat) : Int) - 1 := by unfold Lg.idx; rw [HE.out.1, HE.out.2, if_pos rfl]
    have e2 : Lg.near top x = false := by unfold Lg.near; rw [HE.out.2]; rfl
    rw [e1, e2, hp]
    refine ret2_eq (v_int ?_) rfl
    generalize (-1022 - (d : Int)) * ((2 ^ top : Nat) : Int) = y at *
    unfold wrap64; omega
  · have f4 := or52 m hm
    have g3 : ((m : Int) == 0) = false := by simpa using h0
    have hX : 2 ^ 63 ≤ (2 ^ 52 + m) * 2048 ∧ (2 ^ 52 + m) * 2048 < 2 ^ 64 := by omega
    have HX := Lib.hid hX
    have h0' := Lib.hid h0
    clear h0 hX
    go_enter Tryz.func34, Tryz.ntmps34
    go_wp2_with fail
    go_loopw [7, 8] (fun ee mm wr => ∃ j : Nat, j ≤ d ∧ ee = .int .i64 (-1022 - (j : Int)) ∧ mm = .int .u64 ((x * 2 ^ j : Nat) : Int) ∧ Kept [] w wr) (fun ee _ _ => (d + 1022 + intOf ee).toNat)
    case atStart => exact ⟨0, by omega, rfl, by simp, Kept.refl _ _⟩
    case round =>
    obtain ⟨j, hj, rfl, rfl, hk0⟩ := hrel
    have HK0 := Lib.hid hk0
    clear hk0
    by_cases hjd : j < d
    · obtain ⟨z, hz⟩ : ∃ z, z = x * 2 ^ j := ⟨_, rfl⟩
      have hlt : z < 4503599627370496 := by rw [hz]; exact HSM.out j hjd
      have hz2 : x * 2 ^ (j + 1) = 2 * z := by rw [hz, Nat.pow_succ, ← Nat.mul_assoc, Nat.mul_comm]
      rw [← hz]
      have HZ := Lib.hid hz2
      have hsh : ((z : Int) / 4503599627370496 == 0) = true := by rw [beq_iff_eq]; omega
      clear hz hz2
      go_wp2_with fail
      go_roundw
      case rel => exact ⟨j + 1, by omega, by go_num, by rw [HZ.out]; exact v_int (by omega), HK0.out⟩
      case measure => simp [intOf]; omega
    obtain rfl : d = j := by omega
    have hsh : (((x * 2 ^ d : Nat) : Int) / 4503599627370496 == 0) = false := by rw [beq_eq_false_iff_ne]; have := HBG.out; omega
    obtain ⟨z, hz⟩ : ∃ z, z = x * 2 ^ d := ⟨_, rfl⟩
    rw [← hz] at hsh f3 ⊢
    clear hz
    go_wp2_with fail
    go_loopw [9, 10, 45] (fun xx kk i wr => ∃ j : Nat, j ≤ top ∧ i = .int .i64 (j : Int) ∧ xx = .int .u64 (((Lg.sqs j ((2 ^ 52 + m) * 2048)).2 : Nat) : Int) ∧ kk = .int .i64 (((Lg.sqs j ((2 ^ 52 + m) * 2048)).1 : Nat) : Int) ∧ Kept [] w wr) (fun _ _ i _ => top - (intOf i).toNat)
    case atStart => exact ⟨0, by omega, rfl, v_int (by show (4503599627370496 + (m : Int)) * 2048 = (((2 ^ 52 + m) * 2048 : Nat) : Int); omega), rfl, HK0.out⟩
    case round =>
      obtain ⟨j, hj, rfl, rfl, rfl, hk⟩ := hrel
      obtain ⟨r1, r2, r3⟩ := Lg.sqs_range j ((2 ^ 52 + m) * 2048) HX.out.1 HX.out.2
      have hp20 : (2 ^ j : Nat) ≤ 2 ^ 20 := Nat.pow_le_pow_right (by decide) (by omega)
      by_cases hlt : j < top
      · obtain ⟨y, hy⟩ : ∃ y, y = (Lg.sqs j ((2 ^ 52 + m) * 2048)).2 := ⟨_, rfl⟩
        obtain ⟨k, hkk⟩ : ∃ k, k = (Lg.sqs j ((2 ^ 52 + m) * 2048)).1 := ⟨_, rfl⟩
        rw [← hy, ← hkk]
        rw [← hy] at r1 r2
        rw [← hkk] at r3
        have w7 : (j : Int) < (top : Int) := by omega
        have w1 : IntKind.i64.wrap ((j : Int) + 1) = (j : Int) + 1 := IntWalk.i64_in _ (by omega)
        have hkb : k < 1048576 := by omega
        have HY := Lib.hid (And.intro hy hkk)
        have HK := Lib.hid hk
        have hsq : Lg.sqs (j + 1) ((2 ^ 52 + m) * 2048) = if 2 ^ 127 ≤ y * y then (2 * k + 1, y * y / 2 ^ 64) else (2 * k, y * y / 2 ^ 63) := by
          show (if 2 ^ 127 ≤ _ * _ then _ else _) = _; rw [← hy, ← hkk]
        have HSQ := Lib.hid hsq
        clear hy hkk hk hsq r3 hp20
        by_cases hbig : 2 ^ 127 ≤ y * y
        · have hhi : (((y * y / 18446744073709551616 : Nat) : Int) / 9223372036854775808 == 1) = true := by
            have h1 : y * y < 18446744073709551616 * 18446744073709551616 := Nat.mul_lt_mul'' r2 r2
            have h2 : y * y / 18446744073709551616 / 9223372036854775808 = 1 := by omega
            have : ((y * y / 18446744073709551616 : Nat) : Int) / 9223372036854775808 = ((y * y / 18446744073709551616 / 9223372036854775808 : Nat) : Int) := by omega
            rw [this, h2]; rfl
          generalize hH : y * y / 18446744073709551616 = H at *
          generalize y * y % 18446744073709551616 = L at *
          go_wp2_with (go_at_call 42; refine (mul42 _ _ r2 r2 _).mono ?_; rintro e w' ⟨rfl, rfl⟩)
          go_roundw
          case rel =>
            refine ⟨j + 1, by omega, by go_num, ?_, ?_, HK.out⟩
            · rw [HSQ.out, if_pos hbig]
            · rw [HSQ.out, if_pos hbig]
              refine v_int ?_
              rw [show (k : Int) * 2 = ((2 * k : Nat) : Int) from by omega]
              exact or_lowI k (by omega)
          case measure => simp [intOf]; omega
        · have h1 : y * y < 2 ^ 127 := by omega
          have hH : y * y / 18446744073709551616 < 9223372036854775808 := by omega
          have hhi : (((y * y / 18446744073709551616 : Nat) : Int) / 9223372036854775808 == 1) = false := by
            have : ((y * y / 18446744073709551616 : Nat) : Int) / 9223372036854775808 = ((y * y / 18446744073709551616 / 9223372036854775808 : Nat) : Int) := by omega
            rw [this, Nat.div_eq_of_lt hH]; rfl
          have hfin : 2 * (y * y / 18446744073709551616) + y * y % 18446744073709551616 / 9223372036854775808 = y * y / 2 ^ 63 := by omega
          have hL : y * y % 18446744073709551616 / 9223372036854775808 < 2 := by omega
          obtain ⟨H, hHH⟩ : ∃ H, H = y * y / 18446744073709551616 := ⟨_, rfl⟩
          obtain ⟨L, hLL⟩ : ∃ L, L = y * y % 18446744073709551616 := ⟨_, rfl⟩
          have hmul : Calls Tryz.prog 42 #[.int .u64 (y : Int), .int .u64 (y : Int)] wr fun e w' => e = .returned (.tuple #[.int .u64 (H : Int), .int .u64 (L : Int)]) ∧ wr = w' := by rw [hHH, hLL]; exact mul42 _ _ r2 r2 _
          rw [← hHH, ← hLL] at hfin
          rw [← hHH] at hH hhi
          rw [← hLL] at hL
          have HM := Lib.hid hmul
          have HF := Lib.hid hfin
          have HLL := Lib.hid hL
          clear hHH hLL hmul hfin h1 hL
          go_wp2_with (go_at_call 42; refine HM.out.mono ?_; rintro e w' ⟨rfl, rfl⟩)
          go_roundw
          case rel =>
            refine ⟨j + 1, by omega, by go_num, ?_, ?_, HK.out⟩
            · rw [HSQ.out, if_neg hbig]
              refine v_int ?_
              show _ = ((y * y / 2 ^ 63 : Nat) : Int)
              rw [← HF.out, show (H : Int) * 2 = ((2 * H : Nat) : Int) from by omega, show (L : Int) / 9223372036854775808 = ((L / 9223372036854775808 : Nat) : Int) from by omega]
              exact or_low H _ hH HLL.out
            · rw [HSQ.out, if_neg hbig]
              exact v_int (by omega)
          case measure => simp [intOf]; omega
      · obtain rfl : j = top := by omega
        have w7 : ¬ (j : Int) < (j : Int) := by omega
        obtain ⟨y, hy⟩ : ∃ y, y = (Lg.sqs j ((2 ^ 52 + m) * 2048)).2 := ⟨_, rfl⟩
        obtain ⟨k, hkk⟩ : ∃ k, k = (Lg.sqs j ((2 ^ 52 + m) * 2048)).1 := ⟨_, rfl⟩
        rw [← hy, ← hkk]
        rw [← hy] at r1 r2
        rw [← hkk] at r3
        have HY := Lib.hid (And.intro hy hkk)
        have HK := Lib.hid hk
        have HK3 := Lib.hid (And.intro r3 hp20)
        clear hy hkk hk r3 hp20
        have hnear : Lg.near j x = true ↔ (0 < j ∧ (y < 2 ^ 63 + 2 ^ 43 ∨ 2 ^ 64 - 1 - 2 ^ 43 < y)) := by
          unfold Lg.near Lg.dig
          rw [HE.out.2, ← HY.out.1]
          simp only [Bool.and_eq_true, Bool.or_eq_true, decide_eq_true_eq, bne_iff_ne]
          exact ⟨fun h => h.2, fun h => ⟨h0'.out, h⟩⟩
        have hidx : Lg.idx j x = (-1022 - (d : Int)) * ((2 ^ j : Nat) : Int) + (k : Int) := by
          unfold Lg.idx Lg.dig
          rw [HE.out.1, HE.out.2, if_neg h0'.out, ← HY.out.2]
        have HI := Lib.hid (And.intro hnear hidx)
        have fin : wrap64 (wrap64 ((-1022 - (d : Int)) * 2 ^ j) + (k : Int)) = Lg.idx j x := by
          rw [hidx]
          have h := shl_top (-1022 - (d : Int)) j (by omega) (by omega) ht
          have hp : (2 : Int) ^ j = ((2 ^ j : Nat) : Int) := by simp
          rw [hp]
          have h1 := HK3.out
          generalize (-1022 - (d : Int)) * ((2 ^ j : Nat) : Int) = y at *
          unfold wrap64; omega
        have FN := Lib.hid fin
        clear hnear hidx fin
        rcases Nat.eq_zero_or_pos j with hj0 | hj0
        · have hj1 : ¬ (0 : Int) < (j : Int) := by omega
          have hb : Lg.near j x = false := Bool.eq_false_iff.2 fun h => by have := (HI.out.1.1 h).1; omega
          have HB := Lib.hid hb
          clear hj0 hb
          go_wp2_with fail
          go_ret2
          exact ⟨ret2_eq (v_int FN.out) (congrArg Value.bool HB.out.symm), HK.out⟩
        · have hj1 : (0 : Int) < (j : Int) := by omega
          by_cases hA : (y : Int) < 9223380832947798016
          · have HB := Lib.hid (HI.out.1.2 ⟨hj0, .inl (by omega)⟩)
            go_wp2_with fail
            go_ret2
            exact ⟨ret2_eq (v_int FN.out) (congrArg Value.bool HB.out.symm), HK.out⟩
          · have HA := Lib.hid hA
            go_wp2_with fail
            go_ret2
            refine ⟨ret2_eq (v_int FN.out) (congrArg Value.bool (Bool.eq_iff_iff.2 ⟨fun h => ?_, fun h => ?_⟩)), HK.out⟩
            · have := of_decide_eq_true h
              exact HI.out.1.2 ⟨hj0, .inr (by omega)⟩
            · have h2 := (HI.out.1.1 h).2
              exact decide_eq_true (by omega)
end Go.Proofs.YtlpddogcnpokfaaGreat
namespace Go.Proofs.YtlpddogcnpokfaaGreat
open Go.RowKit
/-- 'ExpoIndex' of a finite number above 0 -/
theorem idx34 (x top : Nat) (w : World) (h0 : 0 < x) (hx : x < 2047 * 2 ^ 52) (ht : top ≤ 20) :
    Calls Tryz.prog 34 #[.float .f64 x, .int .i64 (top : Int)] w (idxPost top x w) := by
  by_cases hs : x < 2 ^ 52
  · have hl : x.log2 < 52 := (Nat.log2_lt (by omega)).2 hs
    have hge := Lg.fr_ge x h0 hs
    have hfl := Lg.fr_lt x h0
    have hfr : Lg.fr x = x * 2 ^ (52 - x.log2) - 2 ^ 52 := by unfold Lg.fr; rw [if_pos hs]
    refine idx34s x (Lg.fr x) (52 - x.log2) top w h0 hs (by omega) hfl (fun j hj => ?_) ?_ rfl (by omega) ht
    · have h1 : x < 2 ^ (x.log2 + 1) := Nat.lt_log2_self
      have h2 : x * 2 ^ j < 2 ^ (x.log2 + 1) * 2 ^ j := Nat.mul_lt_mul_of_pos_right h1 (Nat.two_pow_pos _)
      rw [← Nat.pow_add] at h2
      have h3 : 2 ^ (x.log2 + 1 + j) ≤ 2 ^ 52 := Nat.pow_le_pow_right (by decide) (by omega)
      omega
    · unfold Lg.ex; rw [if_pos hs]; omega
  · exact idx34n x (x / 4503599627370496) (x % 4503599627370496) top w (by omega) (by omega) (by omega) (by omega) ht
end Go.Proofs.YtlpddogcnpokfaaGreat
