/- FnExpoDoubled: the order of numbers above 0, and the walk of the law. FnExpoOrder: the least and the greatest one in any order; Clone, Reverse; the walk of the law. -/
import Derived.Test.YtlpddogcnpokfaaGreatPm
import Derived.Deep.RegionLaw
namespace Go.Proofs.YtlpddogcnpokfaaGreat.Lg
open Ieee
theorem val_pos_eq {w : Nat} (hw : w < 9223372036854775808) : val w = (mag w : Rat) * p2 (pl w) := by
  have hs : negW w = false := by unfold negW; rw [beq_eq_false_iff_ne, show (2 ^ 63 : Nat) = 9223372036854775808 from rfl]; omega
  unfold val; rw [hs]; unfold sg; simp only [Bool.false_eq_true, if_false]; grind
theorem val_lt {w w' : Nat} (h : w < w') (hw' : w' < 9223372036854775808) : val w < val w' := by
  rw [val_pos_eq (by omega), val_pos_eq hw']
  have hm : mag w < 9007199254740992 := by unfold mag rung; split <;> omega
  by_cases he : pl w = pl w'
  · rw [he]
    have hlt : mag w < mag w' := by
      unfold pl rung at he; unfold mag rung
      (repeat' split at he) <;> (repeat' split) <;> omega
    exact Rat.mul_lt_mul_of_pos_right (Rat.natCast_lt_natCast.2 hlt) (p2_pos _)
  · have hp : pl w + 1 ≤ pl w' := by
      unfold pl rung at he ⊢
      (repeat' split at he) <;> (repeat' split) <;> omega
    have hm' : 4503599627370496 ≤ mag w' := by
      unfold pl rung at he hp; unfold mag rung
      (repeat' split at he) <;> (repeat' split at hp) <;> (repeat' split) <;> omega
    have h1 : (mag w : Rat) * p2 (pl w) < ((9007199254740992 : Nat) : Rat) * p2 (pl w) := Rat.mul_lt_mul_of_pos_right (Rat.natCast_lt_natCast.2 hm) (p2_pos _)
    have h2 : ((9007199254740992 : Nat) : Rat) * p2 (pl w) = ((4503599627370496 : Nat) : Rat) * p2 (pl w + 1) := by
      rw [p2_add, p2_one]
      have : ((9007199254740992 : Nat) : Rat) = ((4503599627370496 : Nat) : Rat) * 2 := by decide +kernel
      rw [this]; grind
    have h3 : p2 (pl w + 1) ≤ p2 (pl w') := p2_le hp
    have h4 : ((4503599627370496 : Nat) : Rat) ≤ (mag w' : Rat) := Rat.natCast_le_natCast.2 hm'
    have h5 : ((4503599627370496 : Nat) : Rat) * p2 (pl w + 1) ≤ ((4503599627370496 : Nat) : Rat) * p2 (pl w') := Rat.mul_le_mul_of_nonneg_left h3 (Rat.natCast_nonneg)
    have h6 : ((4503599627370496 : Nat) : Rat) * p2 (pl w') ≤ (mag w' : Rat) * p2 (pl w') := Rat.mul_le_mul_of_nonneg_right h4 (Rat.le_of_lt (p2_pos _))
    grind
end Go.Proofs.YtlpddogcnpokfaaGreat.Lg
namespace Go.Proofs.YtlpddogcnpokfaaGreat
open Ieee
/-- a number that is neither too small nor too great -/
theorem dbl_in {a : Nat} (hf : a < 2047 * 2 ^ 52) (h0 : (FloatKind.f64.format.order a 0 == some .eq) = true ∨ ((FloatKind.f64.format.order a 553942754166571008 == some .lt) = false ∧ (FloatKind.f64.format.order a 8660422083433463808 == some .gt) = false)) :
    a = 0 ∨ (553942754166571008 ≤ a ∧ a ≤ 8660422083433463808) := by
  have ha : a < 9223372036854775808 := by omega
  have hfin : Lg.fin a := by unfold Lg.fin Lg.rung; omega
  rcases h0 with h0 | ⟨h1, h2⟩
  · left
    have e := Lg.eq_zero a hfin
    rw [show (FloatKind.f64.format.order a 0 == some Ordering.eq) = decide (Lg.rung a = 0) from e] at h0
    have := of_decide_eq_true h0
    unfold Lg.rung at this; omega
  · have f1 : Lg.fin 553942754166571008 := by decide +kernel
    have f2 : Lg.fin 8660422083433463808 := by decide +kernel
    have e1 := Lg.order_lt (Lg.is_fin hfin) (Lg.is_fin f1)
    have e2 := Lg.order_gt (Lg.is_fin hfin) (Lg.is_fin f2)
    rw [show (FloatKind.f64.format.order a 553942754166571008 == some Ordering.lt) = decide (Lg.val a < Lg.val 553942754166571008) from e1] at h1
    rw [show (FloatKind.f64.format.order a 8660422083433463808 == some Ordering.gt) = decide (Lg.val 8660422083433463808 < Lg.val a) from e2] at h2
    have g1 := of_decide_eq_false h1
    have g2 := of_decide_eq_false h2
    right
    constructor
    · rcases Nat.lt_or_ge a 553942754166571008 with h | h
      · exact absurd (Lg.val_lt h (by omega)) g1
      · exact h
    · rcases Nat.lt_or_ge 8660422083433463808 a with h | h
      · exact absurd (Lg.val_lt h ha) g2
      · exact h
end Go.Proofs.YtlpddogcnpokfaaGreat
namespace Go.Proofs.YtlpddogcnpokfaaGreat
open Go.RowKit Go.Maps
theorem mul_any (x y : Nat) (w : World) : ∃ r w', (binOp .mul 32 (.float .f64 x) (.float .f64 y)).run Tryz.prog w = .ok (.float .f64 r) w' ∧ Dr1 w w' ∧ (∀ r0, floatBits .mul .f64 x y = some r0 → r = r0) ∧ r < 18446744073709551616 := by
  cases h : floatBits .mul .f64 x y with
  | some r0 =>
    refine ⟨r0, w, run_float_arith w .mul 32 .f64 x y r0 h, .inl rfl, fun k hk => by cases hk; rfl, ?_⟩
    have := floatBits_wf h
    simpa [Lit.wf] using this
  | none =>
    have hr : (binOp .mul 32 (.float .f64 x) (.float .f64 y)).run Tryz.prog w = .ok (.float .f64 ((Question.nanBits .f64 x y).cut (w.tape w.drawn (.nanBits .f64 x y)))) w.drew := by
      have h' : FloatKind.f64.format.mul x y = none := h
      simp [binOp, Op.floatArith, h', Question.forced]
    refine ⟨_, _, hr, .inr rfl, (fun k hk => by cases hk), ?_⟩
    simp only [Question.cut]
    omega
/-- twice the numbers of a list, as the law makes them -/
structure Dbls (l k : List Nat) : Prop where
  len : k.length = l.length
  lt : ∀ v, v ∈ k → v < 18446744073709551616
  dbl : (∀ v, v ∈ l → v < 18446744073709551616) → (∀ v, v ∈ l → absW v < 2047 * 2 ^ 52) → DblIn l ∧ k = l.map dblF
theorem Dbls.nil : Dbls [] [] := ⟨rfl, fun v h => (by cases h), fun _ _ => ⟨fun v h => (by cases h), rfl⟩⟩
theorem Dbls.push {l k : List Nat} (h : Dbls l k) {x r : Nat} (hr : r < 18446744073709551616) (hm : ∀ r0, floatBits .mul .f64 4611686018427387904 x = some r0 → r = r0)
    (hin : absW x < 2047 * 2 ^ 52 → absW x = 0 ∨ (553942754166571008 ≤ absW x ∧ absW x ≤ 8660422083433463808)) : Dbls (l ++ [x]) (k ++ [r]) := by
  refine ⟨by simp [h.len], fun v hv => ?_, fun hlt hf => ?_⟩
  · rcases List.mem_append.1 hv with hv | hv
    · exact h.lt v hv
    · simp at hv; subst hv; exact hr
  · obtain ⟨h1, h2⟩ := h.dbl (fun v hv => hlt v (List.mem_append_left _ hv)) (fun v hv => hf v (List.mem_append_left _ hv))
    have hx := hin (hf x (by simp))
    refine ⟨fun v hv => ?_, ?_⟩
    · rcases List.mem_append.1 hv with hv | hv
      · exact h1 v hv
      · simp at hv; subst hv; exact hx
    · rw [List.map_append, h2, hm _ (mul_dbl x (hlt x (by simp)) hx)]; rfl

set_option maxHeartbeats 4000000 in
set_option maxRecDepth 100000 in
theorem doubled4 (size scale : Int) (l : List Nat) (V : Value) (w : World) (hl : SlAt w V (l.map Fl)) (hlt : ∀ v, v ∈ l → v < 18446744073709551616) : Calls Tryz.prog 4 #[.int .i32 size, .int .i32 scale, V] w (LawT w) := by
  obtain ⟨p, c, rfl, hp⟩ := hl.read
  rw [List.length_map] at *
  by_cases hbig : (2147483647 : Int) < (l.length : Int)
  · clear hp
    go_enter Tryz.func4, Tryz.ntmps4
    go_wp2_with fail
    go_ret
    exact ⟨rfl, Kept.refl _ _⟩
  have hbg : decide ((2147483647 : Int) < (l.length : Int)) = false := decide_eq_false hbig
  have HBG := Lib.hid (show l.length ≤ 2147483647 by omega)
  have HL := Lib.hid (And.intro hl (And.intro hlt hp))
  clear hbig hl hlt hp
  obtain ⟨i0, hi, hz0, hz1, hz2⟩ := info32
  have HI := Lib.hid (And.intro hi (And.intro hz0 (And.intro hz1 hz2)))
  clear hi hz0 hz1 hz2
  go_enter Tryz.func4, Tryz.ntmps4
  go_wp2_with fail
  go_loopw [7, 23] (fun o i wr => ∃ m : Nat, m ≤ l.length ∧ i = .int .i64 (m : Int) ∧ (∃ k, Dbls (l.take m) k ∧ wr.ownsRow w.heap.size 32 1 o m (k.map Fl)) ∧ Kept [] w wr) (fun _ i _ => l.length - (intOf i).toNat)
  case atStart => exact ⟨0, by omega, rfl, ⟨[], Dbls.nil, ⟨rfl, .inl ⟨rfl, rfl⟩⟩⟩, Kept.refl _ _⟩
  case round =>
  obtain ⟨m, hm, rfl, ⟨k, hdb, hown⟩, hk⟩ := hrel
  by_cases hmlt : m < l.length
  · obtain ⟨x, hx⟩ : ∃ x, x = l.getD m 0 := ⟨_, rfl⟩
    have hlm : (l.map Fl)[m]? = some (Fl x) := by rw [List.getElem?_map, List.getElem?_eq_getElem hmlt, hx, List.getD_eq_getElem?_getD, List.getElem?_eq_getElem hmlt]; rfl
    obtain ⟨a1, rfl, hcx⟩ := HL.out.2.2 m _ hlm
    have hcell : wr.cell? (a1.add m) = some (.float .f64 x) := (cellKept hk (cell_lt hcx) (by simp)).trans hcx
    have hxl : x < 18446744073709551616 := HL.out.2.1 x (by rw [hx, List.getD_eq_getElem?_getD, List.getElem?_eq_getElem hmlt]; exact List.getElem_mem hmlt)
    have htk : l.take (m + 1) = l.take m ++ [x] := by
      rw [List.take_succ_eq_append_getElem hmlt, hx, List.getD_eq_getElem?_getD, List.getElem?_eq_getElem hmlt]; rfl
    have HN := Lib.hid (And.intro hdb htk)
    have HK := Lib.hid hk
    have HO := Lib.hid hown
    have HXL := Lib.hid hxl
    have hbase := Lib.hid hk.size
    clear hx hlm hk hown hcx hdb htk hxl
    have w7 : (m : Int) < (l.length : Int) := by omega
    have w1 : IntKind.i64.wrap ((m : Int) + 1) = (m : Int) + 1 := IntWalk.i64_in _ (by have := HBG.out; omega)
    go_wp2_with fail
    refine (abs12 x _ HXL.out).mono ?_; rintro e w' ⟨rfl, rfl⟩
    cases e0 : (FloatKind.f64.format.order (absW x) 0 == some Ordering.eq)
    · have n0 : (FloatKind.f64.format.order (absW x) 0 != some Ordering.eq) = true := by unfold bne; rw [e0]; rfl
      have q0 : ¬ (FloatKind.f64.format.order (absW x) 0 = some Ordering.eq) := by simpa using e0
      cases e1 : (FloatKind.f64.format.order (absW x) 553942754166571008 == some Ordering.lt)
      · have q1 : ¬ (FloatKind.f64.format.order (absW x) 553942754166571008 = some Ordering.lt) := by simpa using e1
        cases e2 : (FloatKind.f64.format.order (absW x) 8660422083433463808 == some Ordering.gt)
        · have q2 : ¬ (FloatKind.f64.format.order (absW x) 8660422083433463808 = some Ordering.gt) := by simpa using e2
          have HCASE : (FloatKind.f64.format.order (absW x) 0 == some .eq) = true ∨ ((FloatKind.f64.format.order (absW x) 553942754166571008 == some .lt) = false ∧ (FloatKind.f64.format.order (absW x) 8660422083433463808 == some .gt) = false) := .inr ⟨e1, e2⟩
          have hin : absW x < 2047 * 2 ^ 52 → absW x = 0 ∨ (553942754166571008 ≤ absW x ∧ absW x ≤ 8660422083433463808) := fun hf => dbl_in hf HCASE
          obtain ⟨r, w2, hr2, hd2, hm3, hr4⟩ := mul_any 4611686018427387904 x wr
          have HD := Lib.hid (And.intro hd2 (And.intro hm3 (And.intro hr4 hin)))
          have HO2 := Lib.hid (own_keptK HO.out ((Kept.refl [] wr).dr hd2.dr) (by simp))
          have hb2 := Lib.hid (show w.heap.size ≤ w2.heap.size from by have := ((Kept.refl [] wr).dr hd2.dr).size; have := hbase.out; omega)
          clear hd2 hm3 hr4 hin HO hbase
          go_wp2_with (at_builtin; refine wpList_append_own_at _ rfl _ _ 22 rfl w.heap.size 32 i0 (.float .f64 0) 1 8 Tryz.underlying22 HI.out.1 HI.out.2.1 HI.out.2.2.1 HI.out.2.2.2 rfl (by decide) _ _ _ rfl (HO2.out.alloc _) ⟨w2.heap.size, 0, none⟩ 1 1 [.float .f64 r] rfl rfl (cell_one_new _ _ _) (fun u hu => by simp at hu; subst hu; rfl) (by have := HBG.out; unfold maxLen; omega) (by have := HBG.out; omega) (by have := hb2.out; simp; omega) ?_; intro v' wn hown' hgrow hnil hat)
          go_roundw
          case rel => exact ⟨m + 1, by omega, by go_num, ⟨k ++ [r], by rw [HN.out.2]; exact HN.out.1.push HD.out.2.2.1 HD.out.2.1 HD.out.2.2.2, by rw [List.map_append]; exact hown'⟩, own_kept (HK.out.dr HD.out.1.dr) HO2.out hgrow⟩
          case measure => simp [intOf]; omega
        · have q2 : (FloatKind.f64.format.order (absW x) 8660422083433463808 = some Ordering.gt) := by simpa using e2
          go_wp2_with fail
          refine (awake _).mono ?_; rintro e w9 ⟨rfl, hk9⟩
          have HK9 := Lib.hid (HK.out.trans hk9)
          clear hk9
          go_wp2_with fail
          go_ret
          exact ⟨rfl, HK9.out⟩
      · have q1 : (FloatKind.f64.format.order (absW x) 553942754166571008 = some Ordering.lt) := by simpa using e1
        go_wp2_with fail
        refine (awake _).mono ?_; rintro e w9 ⟨rfl, hk9⟩
        have HK9 := Lib.hid (HK.out.trans hk9)
        clear hk9
        go_wp2_with fail
        go_ret
        exact ⟨rfl, HK9.out⟩
    · have n0 : (FloatKind.f64.format.order (absW x) 0 != some Ordering.eq) = false := by unfold bne; rw [e0]; rfl
      have q0 : (FloatKind.f64.format.order (absW x) 0 = some Ordering.eq) := by simpa using e0
      have HCASE : (FloatKind.f64.format.order (absW x) 0 == some .eq) = true ∨ ((FloatKind.f64.format.order (absW x) 553942754166571008 == some .lt) = false ∧ (FloatKind.f64.format.order (absW x) 8660422083433463808 == some .gt) = false) := .inl e0
      have hin : absW x < 2047 * 2 ^ 52 → absW x = 0 ∨ (553942754166571008 ≤ absW x ∧ absW x ≤ 8660422083433463808) := fun hf => dbl_in hf HCASE
      obtain ⟨r, w2, hr2, hd2, hm3, hr4⟩ := mul_any 4611686018427387904 x wr
      have HD := Lib.hid (And.intro hd2 (And.intro hm3 (And.intro hr4 hin)))
      have HO2 := Lib.hid (own_keptK HO.out ((Kept.refl [] wr).dr hd2.dr) (by simp))
      have hb2 := Lib.hid (show w.heap.size ≤ w2.heap.size from by have := ((Kept.refl [] wr).dr hd2.dr).size; have := hbase.out; omega)
      clear hd2 hm3 hr4 hin HO hbase
      go_wp2_with (at_builtin; refine wpList_append_own_at _ rfl _ _ 22 rfl w.heap.size 32 i0 (.float .f64 0) 1 8 Tryz.underlying22 HI.out.1 HI.out.2.1 HI.out.2.2.1 HI.out.2.2.2 rfl (by decide) _ _ _ rfl (HO2.out.alloc _) ⟨w2.heap.size, 0, none⟩ 1 1 [.float .f64 r] rfl rfl (cell_one_new _ _ _) (fun u hu => by simp at hu; subst hu; rfl) (by have := HBG.out; unfold maxLen; omega) (by have := HBG.out; omega) (by have := hb2.out; simp; omega) ?_; intro v' wn hown' hgrow hnil hat)
      go_roundw
      case rel => exact ⟨m + 1, by omega, by go_num, ⟨k ++ [r], by rw [HN.out.2]; exact HN.out.1.push HD.out.2.2.1 HD.out.2.1 HD.out.2.2.2, by rw [List.map_append]; exact hown'⟩, own_kept (HK.out.dr HD.out.1.dr) HO2.out hgrow⟩
      case measure => simp [intOf]; omega
  · have hml : m = l.length := by omega
    subst hml
    rw [List.take_length] at hdb
    have hji : ¬ (l.length : Int) < (l.length : Int) := by omega
    have hlk : k.length = l.length := hdb.len
    rw [← hlk] at hown
    have hsl : SlAt wr u7 (k.map Fl) := SlAt.own hown
    obtain ⟨ad, cap, rfl⟩ := own_shape hown
    have HS := Lib.hid hsl
    have HD := Lib.hid hdb
    have HK := Lib.hid hk
    clear hown hk hsl hmlt hm hdb hlk
    go_wp2_with fail
    refine (one10 size scale l _ wr (HL.out.1.kept HK.out) HL.out.2.1).mono ?_
    rintro e w1 ⟨cs, asked, rfl, h11, hone, hk1, h⟩
    have HK1 := Lib.hid (HK.out.trans hk1)
    have H26 := Lib.hid (MapKept.heap_alloc w1 (.cells exZero.toArray 26)).1
    have HC := Lib.hid (And.intro h11 (And.intro hone (show exZero.toArray.size = cs.toArray.size from by rw [List.size_toArray, List.size_toArray, h11]; rfl)))
    obtain ⟨W2, hW2⟩ : ∃ W, W = (w1.alloc (.cells exZero.toArray 26)).setRow w1.heap.size cs.toArray := ⟨_, rfl⟩
    have hk2 : Kept [] w1 W2 := by rw [hW2]; exact setRow_kept ((Kept.refl _ _).alloc _) (.inr (Nat.le_refl _))
    have HS2 := Lib.hid (HS.out.kept (hk1.trans hk2))
    have HK2 := Lib.hid (HK1.out.trans hk2)
    obtain ⟨P, hP⟩ : ∃ P, P = w1.heap.size := ⟨_, rfl⟩
    have hpt : asked = true → ∃ s r mn mx pa na ca pb nb cb, PtKnow size scale l s mn mx ∧ PtMem W2 P s l.length r mn mx pa na ca pb nb cb := by
      intro ha
      rcases h with ⟨h', _⟩ | ⟨_, hask, hone'⟩
      · rw [ha] at h'; cases h'
      · rw [hW2, hP]; exact hone'.lay hask
    have HP1 := Lib.hid hpt
    clear h11 hone hk1 hk2 h hpt HK1 HS HK
    go_upto_region 13 with (refine wpList_store_row rfl 26 _ _ rfl w1.heap.size _ rfl rfl 26 exZero.toArray H26.out (sz26 HC.out.1) HC.out.2.2 HC.out.2.1 ?_)
    rw [show ((w1.alloc (.cells #[.bool false, .int .u64 0, .int .u64 0, .int .u64 0, .int .u64 0, .int .i32 0, .int .u64 0, .int .i32 0, .slice none 0 0, .int .i32 0, .slice none 0 0] 26)).setRow w1.heap.size cs.toArray) = W2 from hW2.symm]
    clear hW2 H26 HC
    rw [← hP]
    clear hP
    go_wp2_with fail
    refine (one10 size scale k _ W2 HS2.out HD.out.lt).mono ?_
    rintro e w3 ⟨cs2, also, rfl, h11, hone, hk3, h⟩
    have H26 := Lib.hid (MapKept.heap_alloc w3 (.cells exZero.toArray 26)).1
    have HC := Lib.hid (And.intro h11 (And.intro hone (show exZero.toArray.size = cs2.toArray.size from by rw [List.size_toArray, List.size_toArray, h11]; rfl)))
    obtain ⟨W4, hW4⟩ : ∃ W, W = (w3.alloc (.cells exZero.toArray 26)).setRow w3.heap.size cs2.toArray := ⟨_, rfl⟩
    have hk4 : Kept [] w3 W4 := by rw [hW4]; exact setRow_kept ((Kept.refl _ _).alloc _) (.inr (Nat.le_refl _))
    have HK4 := Lib.hid (HK2.out.trans (hk3.trans hk4))
    have HK24 := Lib.hid (hk3.trans hk4)
    obtain ⟨Q, hQ⟩ : ∃ Q, Q = w3.heap.size := ⟨_, rfl⟩
    have hpt : also = true → ∃ s r mn mx pa na ca pb nb cb, PtKnow size scale k s mn mx ∧ PtMem W4 Q s k.length r mn mx pa na ca pb nb cb := by
      intro ha
      rcases h with ⟨h', _⟩ | ⟨_, hask, hone'⟩
      · rw [ha] at h'; cases h'
      · rw [hW4, hQ]; exact hone'.lay hask
    have HP2 := Lib.hid hpt
    clear h11 hone hk3 hk4 h hpt HK2 HS2
    go_upto_region 14 with (refine wpList_store_row rfl 26 _ _ rfl w3.heap.size _ rfl rfl 26 exZero.toArray H26.out (sz26 HC.out.1) HC.out.2.2 HC.out.2.1 ?_)
    rw [show ((w3.alloc (.cells #[.bool false, .int .u64 0, .int .u64 0, .int .u64 0, .int .u64 0, .int .i32 0, .int .u64 0, .int .i32 0, .slice none 0 0, .int .i32 0, .slice none 0 0] 26)).setRow w3.heap.size cs2.toArray) = W4 from hW4.symm]
    clear hW4 H26 HC
    rw [← hQ]
    clear hQ
    by_cases hb : asked = true ∧ also = true
    case neg =>
      have hcase : asked = false ∨ (asked = true ∧ also = false) := by cases asked <;> cases also <;> simp_all
      clear hb
      rcases hcase with rfl | ⟨rfl, rfl⟩
      all_goals
        go_wp2_with fail
        refine (awake _).mono ?_; rintro e w9 ⟨rfl, hk9⟩
        have HK9 := Lib.hid (HK4.out.trans hk9)
        clear hk9
        go_wp2_with fail
        go_ret
        exact ⟨rfl, HK9.out⟩
    obtain ⟨rfl, rfl⟩ := hb
    obtain ⟨s, r, mn, mx, pa, na, ca, pb, nb, cb, hkn, hpm0⟩ := HP1.out rfl
    obtain ⟨s2, r2, mn2, mx2, pa2, na2, ca2, pb2, nb2, cb2, hkn2, B⟩ := HP2.out rfl
    have A := hpm0.kept HK24.out
    obtain ⟨hdin, hkd⟩ := HD.out.dbl HL.out.2.1 hkn.ask.2.2.2.fin
    obtain ⟨b, hbk⟩ := hkn.bk
    obtain ⟨b2, hbk2⟩ := hkn2.bk
    rw [hkd] at hbk2
    have a5 := A.c5; have a7 := A.c7; have a8 := A.c8; have a9 := A.c9; have a10 := A.c10
    have b5 := B.c5; have b7 := B.c7; have b8 := B.c8; have b9 := B.c9; have b10 := B.c10
    have HA := Lib.hid (And.intro A.sa (And.intro A.sb (And.intro A.la A.lb)))
    have HB := Lib.hid (And.intro B.sa B.sb)
    have HLM := Lib.hid (And.intro hkn.lim hkn2.lim)
    have HDB := Lib.hid (fun h1 h2 => hbk.dbl hbk2 HL.out.2.1 hdin h1 h2)
    clear A B hbk hbk2 hkn hkn2 hpm0 HK24 HP1 HP2 hdin hkd
    obtain ⟨sc, hsc⟩ : ∃ z, z = s.sc := ⟨_, rfl⟩
    obtain ⟨sc2, hsc2⟩ : ∃ z, z = s2.sc := ⟨_, rfl⟩
    rw [← hsc] at a5
    rw [← hsc2] at b5
    have HSC := Lib.hid (And.intro hsc hsc2)
    clear hsc hsc2
    by_cases h0 : sc < 0
    · have d0 : decide (sc < 0) = true := decide_eq_true h0
      go_wp2_with fail
      refine (awake _).mono ?_; rintro e w9 ⟨rfl, hk9⟩
      have HK9 := Lib.hid (HK4.out.trans hk9)
      clear hk9
      go_wp2_with fail
      go_ret
      exact ⟨rfl, HK9.out⟩
    have d0 : decide (sc < 0) = false := decide_eq_false h0
    by_cases he : sc2 = sc
    case neg =>
      have d1 : (sc2 != sc) = true := by simpa using he
      go_wp2_with fail
      refine (awake _).mono ?_; rintro e w9 ⟨rfl, hk9⟩
      have HK9 := Lib.hid (HK4.out.trans hk9)
      clear hk9
      go_wp2_with fail
      go_ret
      exact ⟨rfl, HK9.out⟩
    subst he
    obtain ⟨g1, g2, g3, g4⟩ := HDB.out (by rw [← HSC.out.1, ← HSC.out.2]) (by rw [← HSC.out.1]; omega)
    rw [← HSC.out.1] at g3 g4
    have hle : sc2 ≤ 20 := by have := HLM.out.1.sc2; have := HSC.out.1; omega
    have hpow : (2 : Int) ^ sc2.toNat ≤ 1048576 := by
      have : (2 : Nat) ^ sc2.toNat ≤ 2 ^ 20 := Nat.pow_le_pow_right (by decide) (by omega)
      have h2 : ((2 ^ sc2.toNat : Nat) : Int) = (2 : Int) ^ sc2.toNat := by push_cast; rfl
      omega
    have hpow0 : (0 : Int) < (2 : Int) ^ sc2.toNat := Int.pow_pos (by decide)
    obtain ⟨by_, hby⟩ : ∃ z, z = (2 : Int) ^ sc2.toNat := ⟨_, rfl⟩
    have hw : IntKind.i32.wrap ((2 : Int) ^ sc2.toNat) = by_ := by rw [← hby] at hpow hpow0 ⊢; exact IntWalk.i32_in _ (by omega)
    go_wp2_with fail
    try rw [← hby]
    refine (awake _).mono ?_; rintro e w7 ⟨rfl, hk⟩
    have k : ∀ (B : Nat) i v, W4.cell? ⟨B, i, none⟩ = some v → w7.cell? ⟨B, i, none⟩ = some v := fun B i v h => (hk.cell (cell_lt h) (by simp)).trans h
    replace a5 := k _ _ _ a5; replace a7 := k _ _ _ a7; replace a8 := k _ _ _ a8; replace a9 := k _ _ _ a9; replace a10 := k _ _ _ a10
    replace b5 := k _ _ _ b5; replace b7 := k _ _ _ b7; replace b8 := k _ _ _ b8; replace b9 := k _ _ _ b9; replace b10 := k _ _ _ b10
    replace HA := Lib.hid (And.intro (HA.out.1.kept hk) (And.intro (HA.out.2.1.kept hk) HA.out.2.2))
    replace HB := Lib.hid (And.intro (HB.out.1.kept hk) (HB.out.2.kept hk))
    have HK7 := Lib.hid (HK4.out.trans hk)
    obtain ⟨ps, hps⟩ : ∃ z, z = s.ps := ⟨_, rfl⟩
    obtain ⟨ns, hns⟩ : ∃ z, z = s.ns := ⟨_, rfl⟩
    obtain ⟨ps2, hps2⟩ : ∃ z, z = s2.ps := ⟨_, rfl⟩
    obtain ⟨ns2, hns2⟩ : ∃ z, z = s2.ns := ⟨_, rfl⟩
    have hby' : (((2 ^ sc2.toNat : Nat) : Int)) = by_ := by rw [hby]; push_cast; rfl
    rw [hby', ← hps, ← hps2] at g3
    rw [hby', ← hns, ← hns2] at g4
    have q1 : -1130000000 ≤ ps ∧ ps ≤ 1130000000 := by rw [hps]; exact ⟨HLM.out.1.p1, HLM.out.1.p2⟩
    have q2 : -1130000000 ≤ ns ∧ ns ≤ 1130000000 := by rw [hns]; exact ⟨HLM.out.1.n1, HLM.out.1.n2⟩
    have x1 : IntKind.i32.wrap (ps + by_) = ps + by_ := IntWalk.i32_in _ (by rw [← hby] at hpow hpow0; omega)
    have x2 : IntKind.i32.wrap (ns + by_) = ns + by_ := IntWalk.i32_in _ (by rw [← hby] at hpow hpow0; omega)
    rw [← hps] at a7; rw [← hns] at a9; rw [← hps2] at b7; rw [← hns2] at b9
    have G := Lib.hid (And.intro g1 (And.intro g2 (And.intro g3 g4)))
    clear k hk HK4 hpow hpow0 hby hw g1 g2 g3 g4 hps hns hps2 hns2 q1 q2 hby' HDB hle HD HL
    have F1 := Lib.hid (equal13 s.pl s2.pl (.slice pa na ca) (.slice pa2 na2 ca2) w7 HA.out.1 HB.out.1 (by have := HLM.out.1.pl; omega))
    rw [decide_eq_true G.out.1] at F1
    by_cases ha : na = 0 <;> by_cases hb : nb = 0
    all_goals
      first
        | (subst ha; have t1 : True := trivial)
        | (have t1 : (((na : Nat) : Int) == 0) = false := by rw [beq_eq_false_iff_ne]; omega
           have t1' : ps2 = ps + by_ := G.out.2.2.1 (fun e => ha (by rw [HA.out.2.2.1, e]; rfl))
           subst t1')
      first
        | (subst hb; have t2 : True := trivial)
        | (have t2 : (((nb : Nat) : Int) == 0) = false := by rw [beq_eq_false_iff_ne]; omega
           have t2' : ns2 = ns + by_ := G.out.2.2.2 (fun e => hb (by rw [HA.out.2.2.2, e]; rfl))
           subst t2')
      go_wp2_with fail
      refine F1.out.mono ?_; rintro e w8 ⟨rfl, hk⟩
      have k : ∀ (B : Nat) i v, w7.cell? ⟨B, i, none⟩ = some v → w8.cell? ⟨B, i, none⟩ = some v := fun B i v h => (hk.cell (cell_lt h) (by simp)).trans h
      replace a5 := k _ _ _ a5; replace a7 := k _ _ _ a7; replace a8 := k _ _ _ a8; replace a9 := k _ _ _ a9; replace a10 := k _ _ _ a10
      replace b5 := k _ _ _ b5; replace b7 := k _ _ _ b7; replace b8 := k _ _ _ b8; replace b9 := k _ _ _ b9; replace b10 := k _ _ _ b10
      have F2 := Lib.hid (equal13 s.nl s2.nl _ _ w8 (HA.out.2.1.kept hk) (HB.out.2.kept hk) (by have := HLM.out.1.nl; omega))
      rw [decide_eq_true G.out.2.1] at F2
      have HK8 := Lib.hid (HK7.out.trans hk)
      clear k hk HK7 F1
      go_wp2_with fail
      refine F2.out.mono ?_; rintro e w9 ⟨rfl, hk⟩
      have k : ∀ (B : Nat) i v, w8.cell? ⟨B, i, none⟩ = some v → w9.cell? ⟨B, i, none⟩ = some v := fun B i v h => (hk.cell (cell_lt h) (by simp)).trans h
      replace a5 := k _ _ _ a5; replace a7 := k _ _ _ a7; replace a8 := k _ _ _ a8; replace a9 := k _ _ _ a9; replace a10 := k _ _ _ a10
      replace b5 := k _ _ _ b5; replace b7 := k _ _ _ b7; replace b8 := k _ _ _ b8; replace b9 := k _ _ _ b9; replace b10 := k _ _ _ b10
      have HK9 := Lib.hid (HK8.out.trans hk)
      clear k hk HK8 F2
      go_wp2_with fail
      go_ret
      exact ⟨rfl, HK9.out⟩
end Go.Proofs.YtlpddogcnpokfaaGreat
namespace Go.Proofs.YtlpddogcnpokfaaGreat
open Ieee
theorem rung_abs2 (w : Nat) : Lg.rung (absW w) = Lg.rung w := by unfold Lg.rung absW; omega
theorem val_abs (w : Nat) : Lg.val (absW w) = (Lg.mag w : Rat) * Lg.p2 (Lg.pl w) := by
  rw [Lg.val_pos_eq (show absW w < 9223372036854775808 from Nat.mod_lt _ (by decide))]
  have h := rung_abs2 w
  unfold Lg.mag Lg.pl
  rw [h]
theorem val_abs_nonneg (w : Nat) : 0 ≤ Lg.val (absW w) := by
  rw [val_abs]
  exact Rat.mul_nonneg Rat.natCast_nonneg (Rat.le_of_lt (Lg.p2_pos _))
theorem val_sign (w : Nat) : Lg.val w = if Lg.negW w then - Lg.val (absW w) else Lg.val (absW w) := by
  rw [val_abs]
  unfold Lg.val Lg.sg
  cases Lg.negW w <;> simp <;> grind
theorem abs_inj {u v : Nat} (h : Lg.val (absW u) = Lg.val (absW v)) : absW u = absW v := by
  have hu : absW u < 9223372036854775808 := Nat.mod_lt _ (by decide)
  have hv : absW v < 9223372036854775808 := Nat.mod_lt _ (by decide)
  rcases Nat.lt_trichotomy (absW u) (absW v) with h1 | h1 | h1
  · have := Lg.val_lt h1 hv; grind
  · exact h1
  · have := Lg.val_lt h1 hu; grind
/-- words of one number are one, or both are zeros -/
theorem val_inj {u v : Nat} (hu : u < 18446744073709551616) (hv : v < 18446744073709551616) (h : Lg.val u = Lg.val v) : u = v ∨ (absW u = 0 ∧ absW v = 0) := by
  have pu := val_abs_nonneg u
  have pv := val_abs_nonneg v
  have zero : ∀ w, Lg.val (absW w) = 0 → absW w = 0 := fun w hw => by
    have := (Lg.val_zero (absW w)).1 hw
    rw [rung_abs2] at this
    exact this
  rw [val_sign u, val_sign v] at h
  have du : u / 9223372036854775808 = 0 ∨ u / 9223372036854775808 = 1 := by omega
  have dv : v / 9223372036854775808 = 0 ∨ v / 9223372036854775808 = 1 := by omega
  have nu : Lg.negW u = (u / 9223372036854775808 % 2 == 1) := rfl
  have nv : Lg.negW v = (v / 9223372036854775808 % 2 == 1) := rfl
  rcases du with du | du <;> rcases dv with dv | dv <;> rw [du] at nu <;> rw [dv] at nv <;> rw [nu, nv] at h <;> simp at h
  · left
    have := abs_inj h
    unfold absW at this; omega
  · right
    have h1 : Lg.val (absW u) = 0 := by grind
    have h2 : Lg.val (absW v) = 0 := by grind
    exact ⟨zero u h1, zero v h2⟩
  · right
    have h1 : Lg.val (absW u) = 0 := by grind
    have h2 : Lg.val (absW v) = 0 := by grind
    exact ⟨zero u h1, zero v h2⟩
  · left
    have h' : Lg.val (absW u) = Lg.val (absW v) := by grind
    have := abs_inj h'
    unfold absW at this; omega
theorem ltW_val {u v : Nat} (hu : Lg.fin u) (hv : Lg.fin v) : ltW u v = decide (Lg.val u < Lg.val v) := Lg.order_lt (Lg.is_fin hu) (Lg.is_fin hv)
theorem mm_fold (l : List Nat) : ∀ a b, Lg.fin a → Lg.fin b → Lg.val a ≤ Lg.val b → (∀ v, v ∈ l → Lg.fin v) → ∃ c d, l.foldl (fun m v => some (mmOpt v m)) (some (a, b)) = some (c, d) ∧ (c = a ∨ c ∈ l) ∧ (d = b ∨ d ∈ l) ∧
    Lg.val c ≤ Lg.val a ∧ Lg.val b ≤ Lg.val d ∧ ∀ v, v ∈ l → Lg.val c ≤ Lg.val v ∧ Lg.val v ≤ Lg.val d := by
  induction l with
  | nil => intro a b _ _ _ _; exact ⟨a, b, rfl, .inl rfl, .inl rfl, Rat.le_refl, Rat.le_refl, fun v h => by cases h⟩
  | cons x l ih =>
    intro a b ha hb hab hl
    have hx := hl x List.mem_cons_self
    have hl' : ∀ v, v ∈ l → Lg.fin v := fun v hv => hl v (List.mem_cons_of_mem _ hv)
    rw [List.foldl_cons]
    show ∃ c d, l.foldl (fun m v => some (mmOpt v m)) (some (mmStep x a b)) = some (c, d) ∧ _
    unfold mmStep
    rw [ltW_val hx ha, ltW_val hb hx]
    by_cases h1 : Lg.val x < Lg.val a
    · rw [if_pos (decide_eq_true h1)]
      obtain ⟨c, d, e, i1, i2, i3, i4, i5⟩ := ih x b hx hb (by grind) hl'
      refine ⟨c, d, e, ?_, ?_, by grind, i4, ?_⟩
      · rcases i1 with rfl | h
        · exact .inr List.mem_cons_self
        · exact .inr (List.mem_cons_of_mem _ h)
      · rcases i2 with rfl | h
        · exact .inl rfl
        · exact .inr (List.mem_cons_of_mem _ h)
      · intro v hv
        rcases List.mem_cons.1 hv with rfl | hv
        · exact ⟨i3, by grind⟩
        · exact i5 v hv
    · rw [if_neg (by simpa using h1)]
      by_cases h2 : Lg.val b < Lg.val x
      · rw [if_pos (decide_eq_true h2)]
        obtain ⟨c, d, e, i1, i2, i3, i4, i5⟩ := ih a x ha hx (by grind) hl'
        refine ⟨c, d, e, ?_, ?_, i3, by grind, ?_⟩
        · rcases i1 with rfl | h
          · exact .inl rfl
          · exact .inr (List.mem_cons_of_mem _ h)
        · rcases i2 with rfl | h
          · exact .inr List.mem_cons_self
          · exact .inr (List.mem_cons_of_mem _ h)
        · intro v hv
          rcases List.mem_cons.1 hv with rfl | hv
          · exact ⟨by grind, i4⟩
          · exact i5 v hv
      · rw [if_neg (by simpa using h2)]
        obtain ⟨c, d, e, i1, i2, i3, i4, i5⟩ := ih a b ha hb hab hl'
        refine ⟨c, d, e, ?_, ?_, i3, i4, ?_⟩
        · rcases i1 with rfl | h
          · exact .inl rfl
          · exact .inr (List.mem_cons_of_mem _ h)
        · rcases i2 with rfl | h
          · exact .inl rfl
          · exact .inr (List.mem_cons_of_mem _ h)
        · intro v hv
          rcases List.mem_cons.1 hv with rfl | hv
          · exact ⟨by grind, by grind⟩
          · exact i5 v hv
theorem mm_char {l : List Nat} {mn mx : Nat} (hl : ∀ v, v ∈ l → Lg.fin v) (h : mmOf l = some (mn, mx)) : mn ∈ l ∧ mx ∈ l ∧ ∀ v, v ∈ l → Lg.val mn ≤ Lg.val v ∧ Lg.val v ≤ Lg.val mx := by
  cases l with
  | nil => cases h
  | cons x l =>
    have hx := hl x List.mem_cons_self
    obtain ⟨c, d, e, i1, i2, i3, i4, i5⟩ := mm_fold l x x hx hx Rat.le_refl (fun v hv => hl v (List.mem_cons_of_mem _ hv))
    have h' : l.foldl (fun m v => some (mmOpt v m)) (some (x, x)) = some (mn, mx) := h
    rw [e] at h'
    injection h' with h'
    injection h' with h1 h2
    subst h1 h2
    refine ⟨?_, ?_, ?_⟩
    · rcases i1 with rfl | h
      · exact List.mem_cons_self
      · exact List.mem_cons_of_mem _ h
    · rcases i2 with rfl | h
      · exact List.mem_cons_self
      · exact List.mem_cons_of_mem _ h
    · intro v hv
      rcases List.mem_cons.1 hv with rfl | hv
      · exact ⟨i3, i4⟩
      · exact i5 v hv
/-- a zero is a zero -/
def nrm (x : Nat) : Nat := if x = 9223372036854775808 then 0 else x
theorem nrm_zero {x : Nat} (hx : x < 18446744073709551616) (h : absW x = 0) : nrm x = 0 := by
  unfold absW at h; unfold nrm; split <;> omega
/-- in any order the same least and greatest one -/
theorem mm_perm {l k : List Nat} {mn mx mn' mx' : Nat} (hl : ∀ v, v ∈ l → absW v < 2047 * 2 ^ 52) (h64 : ∀ v, v ∈ l → v < 18446744073709551616) (hp : k.Perm l) (h : mmOf l = some (mn, mx)) (h' : mmOf k = some (mn', mx')) : nrm mn = nrm mn' ∧ nrm mx = nrm mx' := by
  have hk : ∀ v, v ∈ k → absW v < 2047 * 2 ^ 52 := fun v hv => hl v (hp.mem_iff.1 hv)
  obtain ⟨a1, a2, a3⟩ := mm_char hl h
  obtain ⟨b1, b2, b3⟩ := mm_char hk h'
  have c1 := a3 mn' (hp.mem_iff.1 b1)
  have c2 := b3 mn (hp.mem_iff.2 a1)
  have c3 := a3 mx' (hp.mem_iff.1 b2)
  have c4 := b3 mx (hp.mem_iff.2 a2)
  have e1 : Lg.val mn = Lg.val mn' := by grind
  have e2 : Lg.val mx = Lg.val mx' := by grind
  have g : ∀ u v, u ∈ l → v ∈ l → Lg.val u = Lg.val v → nrm u = nrm v := fun u v hu hv he => by
    rcases val_inj (h64 u hu) (h64 v hv) he with rfl | ⟨z1, z2⟩
    · rfl
    · rw [nrm_zero (h64 u hu) z1, nrm_zero (h64 v hv) z2]
  exact ⟨g _ _ a1 (hp.mem_iff.1 b1) e1, g _ _ a2 (hp.mem_iff.1 b2) e2⟩
end Go.Proofs.YtlpddogcnpokfaaGreat
namespace Go.Proofs.YtlpddogcnpokfaaGreat
open Go.RowKit Go.Maps
set_option maxRecDepth 100000 in
theorem clone24 (a : Addr) (c : Nat) (xs : List Nat) (w : World) (hx : ∀ j u, (xs.map Fl)[j]? = some u → w.cell? (a.add j) = some u) (hl : xs.length ≤ 1000) :
    Calls Tryz.prog 24 #[.slice (some a) xs.length c] w fun e w' => ∃ v', e = .returned v' ∧ w'.ownsRow w.heap.size 32 1 v' xs.length (xs.map Fl) ∧ Kept [] w w' := by
  obtain ⟨i0, hi, hz0, hz1, hz2⟩ := info32
  have HI := Lib.hid (And.intro hi (And.intro hz0 (And.intro hz1 hz2)))
  have HO := Lib.hid (show (w.alloc (.cells #[] 32)).ownsRow w.heap.size 32 1 (.slice (some ⟨w.heap.size, 0, none⟩) 0 0) 0 [] from
    ⟨rfl, .inr ⟨w.heap.size, 0, #[], rfl, Nat.le_refl _, (MapKept.heap_alloc w _).1, Nat.le_refl _, Nat.zero_le _, rfl, rfl⟩⟩)
  have HX := Lib.hid (show ∀ j u, (xs.map Fl)[j]? = some u → (w.alloc (.cells #[] 32)).cell? (a.add j) = some u from fun j u hj => (cellKept ((Kept.refl [] w).alloc _) (cell_lt (hx j u hj)) (by simp)).trans (hx j u hj))
  have HL := Lib.hid hl
  have hne : (binOp .eql 22 (.slice (some a) xs.length c) (.slice none 0 0)).run Tryz.prog w = .ok (.bool false) w := by kernel_rfl
  clear hi hz0 hz1 hz2 hx hl
  go_enter Tryz.func24, Tryz.ntmps24
  go_wp2_with (at_builtin; refine wpList_append_own_at _ rfl _ _ 22 rfl w.heap.size 32 i0 (.float .f64 0) 1 8 Tryz.underlying22 HI.out.1 HI.out.2.1 HI.out.2.2.1 HI.out.2.2.2 rfl (by decide) _ _ _ rfl HO.out a xs.length c (xs.map Fl) rfl (by simp) HX.out (fun u hu => by obtain ⟨n, _, rfl⟩ := List.mem_map.1 hu; rfl) (by have := HL.out; unfold maxLen; omega) (by have := HL.out; omega) (by simp) ?_; intro v' w2 hown hgr hnil hat; rw [Nat.zero_add, List.nil_append] at hown; have HW := Lib.hid (And.intro hown (((Kept.refl [w.heap.size] w).alloc (.cells #[] 32)).trans (grownBy_kept hgr))); clear hown hgr hnil hat)
  go_ret
  exact ⟨v', rfl, HW.out.1, HW.out.2.mono (fun k hm => .inr (by simp at hm; omega))⟩
/-- a row whose first and last places have changed hands -/
def revAt (xs : List Nat) (i k : Nat) : Nat := if k < i ∨ xs.length ≤ k + i then xs.getD (xs.length - 1 - k) 0 else xs.getD k 0
theorem revAt_succ (xs : List Nat) (i k : Nat) (hk : k < xs.length) (hi : i < xs.length - 1 - i) :
    revAt xs (i + 1) k = if k = i then revAt xs i (xs.length - 1 - i) else if k = xs.length - 1 - i then revAt xs i i else revAt xs i k := by
  unfold revAt
  by_cases h1 : k = i
  · subst h1
    rw [if_pos rfl, if_pos (by omega), if_neg (by omega)]
  · rw [if_neg h1]
    by_cases h2 : k = xs.length - 1 - i
    · rw [if_pos h2, if_pos (by omega), if_neg (by omega)]
      congr 1; omega
    · rw [if_neg h2]
      by_cases h3 : k < i ∨ xs.length ≤ k + i
      · rw [if_pos h3, if_pos (by omega)]
      · rw [if_neg h3, if_neg (by omega)]
theorem revAt_end (xs : List Nat) (i k : Nat) (hk : k < xs.length) (hi : xs.length - 1 - i ≤ i) : revAt xs i k = xs.getD (xs.length - 1 - k) 0 := by
  unfold revAt
  by_cases h : k < i ∨ xs.length ≤ k + i
  · rw [if_pos h]
  · rw [if_neg h]; congr 1; omega
/-- a row in the middle of its turning -/
def RevSt (w wr : World) (g cap : Nat) (xs : List Nat) (i : Nat) : Prop := ∃ cur, wr.heap[g]? = some (.cells cur 32 (0, 0)) ∧ cur.size = cap ∧ (∀ k, k < xs.length → cur[k]? = some (Fl (revAt xs i k))) ∧ Kept [g] w wr
theorem RevSt.swap {w wr : World} {g cap : Nat} {xs : List Nat} {i j : Nat} (h : RevSt w wr g cap xs i) (hij : i < j) (hj : j = xs.length - 1 - i) :
    RevSt w ((wr.setCell ⟨g, i, none⟩ (Fl (revAt xs i j))).setCell ⟨g, j, none⟩ (Fl (revAt xs i i))) g cap xs (i + 1) := by
  obtain ⟨cur, hc, hs, hx, hk⟩ := h
  have hjl : j < xs.length := by omega
  have hjc : j < cur.size := (Array.getElem?_eq_some_iff.1 (hx j hjl)).1
  refine ⟨(cur.setIfInBounds i (Fl (revAt xs i j))).setIfInBounds j (Fl (revAt xs i i)), heap_setCell_same _ _ _ _ _ _ (heap_setCell_same _ _ _ _ _ _ hc), by simp [hs], ?_, (hk.setCell (.inl (by simp)) _).setCell (.inl (by simp)) _⟩
  intro k hkl
  have hkc : k < cur.size := (Array.getElem?_eq_some_iff.1 (hx k hkl)).1
  rw [revAt_succ xs i k hkl (by omega), ← hj]
  by_cases h1 : k = i
  · subst h1
    rw [if_pos rfl, Array.getElem?_setIfInBounds_ne (by omega), Array.getElem?_setIfInBounds_self_of_lt hkc]
  · rw [if_neg h1]
    by_cases h2 : k = j
    · subst h2
      rw [if_pos rfl, Array.getElem?_setIfInBounds_self_of_lt (by simpa using hkc)]
    · rw [if_neg h2, Array.getElem?_setIfInBounds_ne (by omega), Array.getElem?_setIfInBounds_ne (by omega)]
      exact hx k hkl
theorem RevSt.dr {w wr : World} {g cap : Nat} {xs : List Nat} {i : Nat} (h : RevSt w wr g cap xs i) : RevSt w wr.drew g cap xs i := by
  obtain ⟨cur, h1, h2, h3, h4⟩ := h
  exact ⟨cur, h1, h2, h3, h4.dr ⟨1, rfl⟩⟩
theorem RevSt.fin {w wr : World} {g cap base : Nat} {xs : List Nat} {i : Nat} (h : RevSt w wr g cap xs i) (hi : xs.length - 1 - i ≤ i) (hb : base ≤ g) (hn : xs.length ≤ cap) (hc : cap ≤ maxLen) :
    wr.ownsRow base 32 1 (.slice (some ⟨g, 0, none⟩) xs.length cap) xs.length (xs.reverse.map Fl) := by
  obtain ⟨cur, h1, h2, h3, _⟩ := h
  refine ⟨by simp, .inr ⟨g, cap, cur, rfl, hb, h1, hn, hc, by rw [h2, Nat.mul_one], ?_⟩⟩
  rw [Nat.mul_one]
  apply List.ext_getElem?
  intro k
  rcases Nat.lt_or_ge k xs.length with hk | hk
  · rw [List.getElem?_take_of_lt hk, Array.getElem?_toList, h3 k hk, revAt_end xs i k hk hi, List.getElem?_map, List.getElem?_reverse hk, List.getD_eq_getElem?_getD, List.getElem?_eq_getElem (show xs.length - 1 - k < xs.length by omega)]
    rfl
  · rw [List.getElem?_eq_none (by simp; omega), List.getElem?_eq_none (by simpa using hk)]
set_option maxHeartbeats 1000000 in
set_option maxRecDepth 100000 in
theorem reverse25 (base : Nat) (v : Value) (xs : List Nat) (w : World) (h : w.ownsRow base 32 1 v xs.length (xs.map Fl)) (hl : xs.length ≤ 1000) (h0 : 0 < xs.length) :
    Calls Tryz.prog 25 #[v] w fun e w' => e = .returned (.tuple #[]) ∧ w'.ownsRow base 32 1 v xs.length (xs.reverse.map Fl) ∧ Kept v.ownBlock.toList w w' := by
  rcases h.2 with ⟨_, h00⟩ | ⟨g, cap, cur, rfl, hb, hg, hn, hcm, hcs, htk⟩
  · omega
  have hst : RevSt w w g cap xs 0 := by
    refine ⟨cur, hg, by rw [hcs, Nat.mul_one], fun k hk => ?_, Kept.refl _ _⟩
    rw [Nat.mul_one] at htk
    have e : (xs.map Fl)[k]? = some (Fl (xs.getD k 0)) := by rw [List.getElem?_map, List.getElem?_eq_getElem hk, List.getD_eq_getElem?_getD, List.getElem?_eq_getElem hk]; rfl
    rw [← htk, List.getElem?_take_of_lt hk, Array.getElem?_toList] at e
    rw [e]
    unfold revAt; rw [if_neg (by omega)]
  have HF := Lib.hid (And.intro hb (And.intro hn (And.intro hcm (And.intro hl h0))))
  have HST := Lib.hid hst
  have w0 : IntKind.i64.wrap ((xs.length : Int) - 1) = (xs.length : Int) - 1 := IntWalk.i64_in _ (by omega)
  clear hb hg hn hcm hcs htk h hst
  go_enter Tryz.func25, Tryz.ntmps25
  go_wp2_with fail
  go_loopw [2, 3] (fun i j wr => ∃ m : Nat, i = .int .i64 (m : Int) ∧ j = .int .i64 ((xs.length : Int) - 1 - m) ∧ m ≤ xs.length ∧ RevSt w wr g cap xs m) (fun i _ _ => xs.length - (intOf i).toNat)
  case atStart => exact ⟨0, rfl, by simp, by omega, HST.out⟩
  case round =>
  obtain ⟨m, rfl, rfl, hm, hst⟩ := hrel
  by_cases hlt : (m : Int) < (xs.length : Int) - 1 - m
  · obtain ⟨j, hj⟩ : ∃ j : Nat, j = xs.length - 1 - m := ⟨_, rfl⟩
    have hji : (xs.length : Int) - 1 - (m : Int) = (j : Int) := by omega
    rw [hji] at hlt ⊢
    have hmj : m < j := by omega
    obtain ⟨cur, hc, hs, hx, hk⟩ := id hst
    have c1 : wr.cell? ⟨g, m, none⟩ = some (.float .f64 (revAt xs m m)) := cellOf hc (hx m (by omega))
    have c2 : wr.cell? ⟨g, j, none⟩ = some (.float .f64 (revAt xs m j)) := cellOf hc (hx j (by omega))
    have f1 : wr.frozen? ⟨g, m, none⟩ = false := frOf hc
    have f2 : wr.frozen? ⟨g, j, none⟩ = false := frOf hc
    have g1 : (m : Int) < (xs.length : Int) := by omega
    have g2 : (j : Int) < (xs.length : Int) := by omega
    have hne : m ≠ j := by omega
    have hne2 : j ≠ m := by omega
    have x1 : IntKind.i64.wrap ((m : Int) + 1) = (m : Int) + 1 := IntWalk.i64_in _ (by have := HF.out.2.2.2.1; omega)
    have x2 : IntKind.i64.wrap ((j : Int) - 1) = (j : Int) - 1 := IntWalk.i64_in _ (by have := HF.out.2.2.2.1; omega)
    have HS := Lib.hid (hst.swap hmj hj)
    have HJ := Lib.hid hj
    clear hc hs hx hk hst hj hji
    go_wp2_with fail
    go_region
    (try simp only [Exit.inBlock, Exit.then])
    go_wp2_with fail
    go_roundw
    case rel => exact ⟨m + 1, by go_num, by have := HJ.out; congr 1; omega, by omega, HS.out.dr⟩
    case measure => simp [intOf]; omega
  · have hend : xs.length - 1 - m ≤ m := by omega
    have HS := Lib.hid (And.intro (hst.fin hend HF.out.1 HF.out.2.1 HF.out.2.2.1) (show Kept [g] w wr from by obtain ⟨_, _, _, _, hk⟩ := hst; exact hk))
    clear hst hend
    go_wp2_with fail
    go_end0
    exact ⟨rfl, by rw [← List.map_reverse]; exact HS.out.1, HS.out.2⟩
end Go.Proofs.YtlpddogcnpokfaaGreat
namespace Go.Proofs.YtlpddogcnpokfaaGreat
open Go.RowKit Go.Maps
theorem cOth (w : World) {B i B' i' : Nat} (v : Value) (h : ¬ (B = B' ∧ i = i')) : (w.setCell ⟨B, i, none⟩ v).cell? ⟨B', i', none⟩ = w.cell? ⟨B', i', none⟩ :=
  World.cell?_setCell_other _ _ _ _ (fun e => h (by injection e with e1 e2; exact ⟨e1, e2⟩))
/-- two points whose sums, least and greatest ones are being laid at 0 -/
structure OrdSt (W0 wx : World) (P Q a3 b3 a4 b4 : Nat) : Prop where
  k : Kept [P, Q] W0 wx
  oP : ∀ i, i ≠ 2 → i ≠ 3 → i ≠ 4 → wx.cell? ⟨P, i, none⟩ = W0.cell? ⟨P, i, none⟩
  oQ : ∀ i, i ≠ 2 → i ≠ 3 → i ≠ 4 → wx.cell? ⟨Q, i, none⟩ = W0.cell? ⟨Q, i, none⟩
  p3 : wx.cell? ⟨P, 3, none⟩ = some (.int .u64 (a3 : Int))
  q3 : wx.cell? ⟨Q, 3, none⟩ = some (.int .u64 (b3 : Int))
  p4 : wx.cell? ⟨P, 4, none⟩ = some (.int .u64 (a4 : Int))
  q4 : wx.cell? ⟨Q, 4, none⟩ = some (.int .u64 (b4 : Int))
  fr : ∀ i, wx.frozen? ⟨P, i, none⟩ = false ∧ wx.frozen? ⟨Q, i, none⟩ = false
  p2 : (wx.cell? ⟨P, 2, none⟩).isSome = true
  q2 : (wx.cell? ⟨Q, 2, none⟩).isSome = true
theorem OrdSt.sP {W0 wx : World} {P Q a3 b3 a4 b4 : Nat} (h : OrdSt W0 wx P Q a3 b3 a4 b4) (hPQ : P < Q) : OrdSt W0 (wx.setCell ⟨P, 2, none⟩ (.int .u64 0)) P Q a3 b3 a4 b4 :=
  ⟨h.k.setCell (.inl (by simp)) _, fun i h2 h3 h4 => (cOth _ _ (by omega)).trans (h.oP i h2 h3 h4), fun i h2 h3 h4 => (cOth _ _ (by omega)).trans (h.oQ i h2 h3 h4),
    (cOth _ _ (by omega)).trans h.p3, (cOth _ _ (by omega)).trans h.q3, (cOth _ _ (by omega)).trans h.p4, (cOth _ _ (by omega)).trans h.q4, fun i => by rw [World.frozen?_setCell, World.frozen?_setCell]; exact h.fr i,
    by rw [World.cell?_setCell_same' _ _ _ h.p2]; rfl, by rw [cOth _ _ (by omega)]; exact h.q2⟩
theorem OrdSt.sQ {W0 wx : World} {P Q a3 b3 a4 b4 : Nat} (h : OrdSt W0 wx P Q a3 b3 a4 b4) (hPQ : P < Q) : OrdSt W0 (wx.setCell ⟨Q, 2, none⟩ (.int .u64 0)) P Q a3 b3 a4 b4 :=
  ⟨h.k.setCell (.inl (by simp)) _, fun i h2 h3 h4 => (cOth _ _ (by omega)).trans (h.oP i h2 h3 h4), fun i h2 h3 h4 => (cOth _ _ (by omega)).trans (h.oQ i h2 h3 h4),
    (cOth _ _ (by omega)).trans h.p3, (cOth _ _ (by omega)).trans h.q3, (cOth _ _ (by omega)).trans h.p4, (cOth _ _ (by omega)).trans h.q4, fun i => by rw [World.frozen?_setCell, World.frozen?_setCell]; exact h.fr i,
    by rw [cOth _ _ (by omega)]; exact h.p2, by rw [World.cell?_setCell_same' _ _ _ h.q2]; rfl⟩
theorem OrdSt.mP {W0 wx : World} {P Q a3 b3 a4 b4 : Nat} (h : OrdSt W0 wx P Q a3 b3 a4 b4) (hPQ : P < Q) : OrdSt W0 (wx.setCell ⟨P, 3, none⟩ (.int .u64 0)) P Q 0 b3 a4 b4 :=
  ⟨h.k.setCell (.inl (by simp)) _, fun i h2 h3 h4 => (cOth _ _ (by omega)).trans (h.oP i h2 h3 h4), fun i h2 h3 h4 => (cOth _ _ (by omega)).trans (h.oQ i h2 h3 h4),
    World.cell?_setCell_same' _ _ _ (by rw [h.p3]; rfl), (cOth _ _ (by omega)).trans h.q3, (cOth _ _ (by omega)).trans h.p4, (cOth _ _ (by omega)).trans h.q4, fun i => by rw [World.frozen?_setCell, World.frozen?_setCell]; exact h.fr i,
    by rw [cOth _ _ (by omega)]; exact h.p2, by rw [cOth _ _ (by omega)]; exact h.q2⟩
theorem OrdSt.mQ {W0 wx : World} {P Q a3 b3 a4 b4 : Nat} (h : OrdSt W0 wx P Q a3 b3 a4 b4) (hPQ : P < Q) : OrdSt W0 (wx.setCell ⟨Q, 3, none⟩ (.int .u64 0)) P Q a3 0 a4 b4 :=
  ⟨h.k.setCell (.inl (by simp)) _, fun i h2 h3 h4 => (cOth _ _ (by omega)).trans (h.oP i h2 h3 h4), fun i h2 h3 h4 => (cOth _ _ (by omega)).trans (h.oQ i h2 h3 h4),
    (cOth _ _ (by omega)).trans h.p3, World.cell?_setCell_same' _ _ _ (by rw [h.q3]; rfl), (cOth _ _ (by omega)).trans h.p4, (cOth _ _ (by omega)).trans h.q4, fun i => by rw [World.frozen?_setCell, World.frozen?_setCell]; exact h.fr i,
    by rw [cOth _ _ (by omega)]; exact h.p2, by rw [cOth _ _ (by omega)]; exact h.q2⟩
theorem OrdSt.xP {W0 wx : World} {P Q a3 b3 a4 b4 : Nat} (h : OrdSt W0 wx P Q a3 b3 a4 b4) (hPQ : P < Q) : OrdSt W0 (wx.setCell ⟨P, 4, none⟩ (.int .u64 0)) P Q a3 b3 0 b4 :=
  ⟨h.k.setCell (.inl (by simp)) _, fun i h2 h3 h4 => (cOth _ _ (by omega)).trans (h.oP i h2 h3 h4), fun i h2 h3 h4 => (cOth _ _ (by omega)).trans (h.oQ i h2 h3 h4),
    (cOth _ _ (by omega)).trans h.p3, (cOth _ _ (by omega)).trans h.q3, World.cell?_setCell_same' _ _ _ (by rw [h.p4]; rfl), (cOth _ _ (by omega)).trans h.q4, fun i => by rw [World.frozen?_setCell, World.frozen?_setCell]; exact h.fr i,
    by rw [cOth _ _ (by omega)]; exact h.p2, by rw [cOth _ _ (by omega)]; exact h.q2⟩
theorem OrdSt.xQ {W0 wx : World} {P Q a3 b3 a4 b4 : Nat} (h : OrdSt W0 wx P Q a3 b3 a4 b4) (hPQ : P < Q) : OrdSt W0 (wx.setCell ⟨Q, 4, none⟩ (.int .u64 0)) P Q a3 b3 a4 0 :=
  ⟨h.k.setCell (.inl (by simp)) _, fun i h2 h3 h4 => (cOth _ _ (by omega)).trans (h.oP i h2 h3 h4), fun i h2 h3 h4 => (cOth _ _ (by omega)).trans (h.oQ i h2 h3 h4),
    (cOth _ _ (by omega)).trans h.p3, (cOth _ _ (by omega)).trans h.q3, (cOth _ _ (by omega)).trans h.p4, World.cell?_setCell_same' _ _ _ (by rw [h.q4]; rfl), fun i => by rw [World.frozen?_setCell, World.frozen?_setCell]; exact h.fr i,
    by rw [cOth _ _ (by omega)]; exact h.p2, by rw [cOth _ _ (by omega)]; exact h.q2⟩
end Go.Proofs.YtlpddogcnpokfaaGreat
namespace Go.Proofs.YtlpddogcnpokfaaGreat
open Go.RowKit Go.Maps
/-- an append in a region that draws its order -/
theorem step_append_own {P : Program} {ops : Array Oper} {o : Oper} {a : Act} {w : World} {K : Act → World → Prop} {Q : Exit → Act → World → Prop} {E : Prop} (hgd : o.guard = none) (s x : Operand) (t : TypeId)
    (ho : o.op = Op.call { callee := Callee.builtin Builtin.append, args := #[s, x], argTypes := #[t, t] })
    (base : Nat) (e : TypeId) (i : TypeInfo) (z : Value) (size bytes : Nat) (ht : P.underlying t = some (.slice e)) (hi : P.info? e = some i) (hz : i.zero = some z)
    (hsize : i.size = size) (hby : i.bytes = bytes) (hzs : z.cells.size = size) (hsz : 0 < size)
    (v : Value) (n : Nat) (xs : List Value) (hs : a.eval s = v) (hown : w.ownsRow base e size v n xs)
    (ad : Addr) (m c : Nat) (news : List Value) (hx : a.eval x = .slice (some ad) m c) (hl : news.length = m * size) (hnews : ∀ j u, news[j]? = some u → w.cell? (ad.add j) = some u) (h1 : ∀ u ∈ news, u.oneCell' = true)
    (h63 : n + m ≤ maxLen) (hbytes : (n + m) * bytes ≤ 140737488355328) (hbase : base ≤ w.heap.size)
    (h : ∀ v' w', w'.ownsRow base e size v' (n + m) (xs ++ news) → w.grownBy w' v.ownBlock → (v'.ownBlock = v.ownBlock ∨ v'.ownBlock = some w.heap.size) → K (a.put o.dst v') w') :
    if Region.wanted o (yielded ops a.tmps) = true then Oper.wp P o a w K Q else E := by
  have hw : Region.wanted o (yielded ops a.tmps) = true := by simp [Region.wanted, hgd]
  rw [if_pos hw]
  obtain ⟨v', w', hr, h2, h3, h4, h5⟩ := run_append_own_at (P := P) w base t o.type e i z size bytes ht hi hz hsize hby hzs hsz v n xs hown ad m c news hl hnews h1 h63 hbytes hbase
  unfold Oper.wp execOp
  simp only [ho, resolve, invoke, builtin, Sem.run_bind, Sem.run_pure, Result.andThen_ok, List.map_toArray, List.map_cons, List.map_nil, hs, hx, hr]
  exact h v' w' h2 h3 h5
theorem addr_add (a : Addr) (k j : Nat) : (a.add k).add j = a.add (k + j) := by
  unfold Addr.add
  by_cases hk : k = 0
  · subst hk; simp
  · by_cases hj : j = 0
    · subst hj; simp
    · rw [if_neg hk, if_neg hj, if_neg (by omega)]; simp [Nat.add_assoc]
theorem Asked.perm {size scale : Int} {l k : List Nat} (h : Asked size scale l) (hp : k.Perm l) : Asked size scale k :=
  ⟨h.1, by rw [hp.length_eq]; exact h.2.1, fun e => h.2.2.1 (by subst e; exact hp.symm.eq_nil), h.2.2.2.permL hp⟩
set_option maxHeartbeats 4000000 in
set_option maxRecDepth 100000 in
theorem order8 (size scale turn : Int) (l : List Nat) (V : Value) (w : World) (hl : SlAt w V (l.map Fl)) (hlt : ∀ v, v ∈ l → v < 18446744073709551616) (ht : 0 ≤ turn ∧ turn ≤ 255) : Calls Tryz.prog 8 #[.int .i32 size, .int .i32 scale, V, .int .u8 turn] w (LawT w) := by
  obtain ⟨p, c, rfl, hp⟩ := hl.read
  have hcap : l.length ≤ c := by
    rcases hl with ⟨e, e2⟩ | ⟨a, c', e, _, h, _, _⟩
    · injection e with _ _ e; have := List.map_eq_nil_iff.1 e2; subst this; simp
    · injection e with _ _ e; subst e; simpa using h
  rw [List.length_map] at *
  by_cases hbig : (2147483647 : Int) < (l.length : Int)
  · clear hp
    go_enter Tryz.func8, Tryz.ntmps8
    go_wp2_with fail
    go_ret
    exact ⟨rfl, Kept.refl _ _⟩
  have hbg : decide ((2147483647 : Int) < (l.length : Int)) = false := decide_eq_false hbig
  have HL := Lib.hid (And.intro hl (And.intro hlt (And.intro hp (And.intro ht hcap))))
  clear hbig hl hlt hp ht hcap
  obtain ⟨i0, hi, hz0, hz1, hz2⟩ := info32
  have HI := Lib.hid (And.intro hi (And.intro hz0 (And.intro hz1 hz2)))
  clear hi hz0 hz1 hz2
  go_enter Tryz.func8, Tryz.ntmps8
  go_wp2_with fail
  refine (one10 size scale l _ w HL.out.1 HL.out.2.1).mono ?_
  rintro e w1 ⟨cs, asked, rfl, h11, hone, hk1, h⟩
  have HK1 := Lib.hid hk1
  have H26 := Lib.hid (MapKept.heap_alloc w1 (.cells exZero.toArray 26)).1
  have HC := Lib.hid (And.intro h11 (And.intro hone (show exZero.toArray.size = cs.toArray.size from by rw [List.size_toArray, List.size_toArray, h11]; rfl)))
  have HK2 := Lib.hid (show Kept [] w1 ((w1.alloc (.cells exZero.toArray 26)).setRow w1.heap.size cs.toArray) from setRow_kept ((Kept.refl _ _).alloc _) (.inr (Nat.le_refl _)))
  clear h11 hone hk1
  cases asked
  · clear h
    go_wp2_with (refine wpList_store_row rfl 26 _ _ rfl w1.heap.size cs.toArray rfl rfl 26 exZero.toArray H26.out (sz26 HC.out.1) HC.out.2.2 HC.out.2.1 ?_)
    refine (awake _).mono ?_; rintro e w3 ⟨rfl, hk⟩
    have HK3 := Lib.hid (HK1.out.trans (HK2.out.trans hk))
    clear hk
    go_wp2_with fail
    go_ret
    exact ⟨rfl, HK3.out⟩
  · obtain ⟨hask, hone⟩ : Asked size scale l ∧ OneIs w1 size scale l cs := by
      rcases h with ⟨h, _⟩ | ⟨_, h⟩
      · cases h
      · exact h
    clear h
    obtain ⟨s, r, mn, mx, pa, na, ca, pb, nb, cb, hkn, hpm⟩ := hone.lay hask
    obtain ⟨W2, hW2⟩ : ∃ W, W = (w1.alloc (.cells exZero.toArray 26)).setRow w1.heap.size cs.toArray := ⟨_, rfl⟩
    rw [← hW2] at hpm HK2
    obtain ⟨P, hP⟩ : ∃ P, P = w1.heap.size := ⟨_, rfl⟩
    rw [← hP] at hpm
    have hPge : w.heap.size ≤ P := by rw [hP]; exact HK1.out.size
    have hrow : ∃ cc, W2.heap[P]? = some (.cells cc 26 (0, 0)) := by rw [hW2, hP]; exact ⟨_, setRow_heap _ _ _ _ _ _ (MapKept.heap_alloc w1 (.cells exZero.toArray 26)).1⟩
    have HM := Lib.hid (And.intro hkn (And.intro hpm (And.intro hPge hrow)))
    have HK3 := Lib.hid (HK1.out.trans HK2.out)
    have hpos : 0 < l.length := List.length_pos_iff.2 hask.2.2.1
    have hl60 : l.length ≤ 60 := hask.2.1
    clear hask hone hkn hpm HK1 HK2 hPge hrow
    go_upto_region 6 with (refine wpList_store_row rfl 26 _ _ rfl w1.heap.size _ rfl rfl 26 exZero.toArray H26.out (sz26 HC.out.1) HC.out.2.2 HC.out.2.1 ?_)
    rw [show ((w1.alloc (.cells #[.bool false, .int .u64 0, .int .u64 0, .int .u64 0, .int .u64 0, .int .i32 0, .int .u64 0, .int .i32 0, .slice none 0 0, .int .i32 0, .slice none 0 0] 26)).setRow w1.heap.size cs.toArray) = W2 from hW2.symm]
    clear hW2 H26 HC
    rw [← hP]
    clear hP
    have hn0 : ((l.length : Int) == 0) = false := by rw [beq_eq_false_iff_ne]; omega
    have hn0' : ¬ ((l.length : Int) = 0) := by omega
    obtain ⟨kk, hkk, hkl⟩ : ∃ kk : Nat, (wrap64 turn).tmod (l.length : Int) = (kk : Int) ∧ kk < l.length := by
      have ht := HL.out.2.2.2.1
      have e : wrap64 turn = turn := by unfold wrap64; omega
      rw [e]
      refine ⟨(turn.tmod (l.length : Int)).toNat, ?_, ?_⟩
      · have := Int.tmod_nonneg (l.length : Int) ht.1; omega
      · have := Int.tmod_lt_of_pos turn (show (0 : Int) < (l.length : Int) by omega); have := Int.tmod_nonneg (l.length : Int) ht.1; omega
    obtain ⟨a1, hpa, _⟩ := HL.out.2.2.1 0 _ (show (l.map Fl)[0]? = some (Fl (l[0]'hpos)) by rw [List.getElem?_map, List.getElem?_eq_getElem hpos]; rfl)
    subst hpa
    have HX := Lib.hid (show ∀ j u, (l.map Fl)[j]? = some u → w.cell? (a1.add j) = some u from fun j u hj => by
      obtain ⟨a2, e, h⟩ := HL.out.2.2.1 j u hj
      injection e with e; subst e; exact h)
    have k1 : (kk : Int) ≤ (l.length : Int) := by omega
    have k2 : (l.length : Int) ≤ (c : Int) := by have := HL.out.2.2.2.2; omega
    have k3 : (kk : Int) ≤ (c : Int) := by omega
    have k4 : ¬ (c = kk) := by have := HL.out.2.2.2.2; omega
    have k5 : ¬ (c - kk = 0) := by have := HL.out.2.2.2.2; omega
    have F24 := clone24 (a1.add kk) (c - kk) (l.drop kk) W2.drew (fun j u hj => by
      rw [addr_add]
      rw [List.map_drop, List.getElem?_drop] at hj
      have := HX.out _ _ hj
      exact (cellKept HK3.out (cell_lt this) (by simp)).trans this) (by simp; omega)
    rw [List.length_drop] at F24
    have HF := Lib.hid F24
    have HT := Lib.hid (show ∀ (w' : World), Kept [] W2 w' → ∀ j u, ((l.take kk).map Fl)[j]? = some u → w'.cell? (a1.add j) = some u from fun w' hk j u hj => by
      have hj' : (l.map Fl)[j]? = some u := by
        rw [List.map_take, List.getElem?_take] at hj
        split at hj
        · exact hj
        · cases hj
      have h1 := HX.out _ _ hj'
      have h2 := (cellKept HK3.out (cell_lt h1) (by simp)).trans h1
      exact (cellKept hk (cell_lt h2) (by simp)).trans h2)
    have HB := Lib.hid (And.intro hl60 hkl)
    clear F24 hkl hl60
    go_wp2_with fail
    go_region_law (first
      | (refine step_append_own rfl _ _ 22 rfl W2.heap.size 32 i0 (.float .f64 0) 1 8 Tryz.underlying22 HI.out.1 HI.out.2.1 HI.out.2.2.1 HI.out.2.2.2 rfl (by decide) v3 (l.length - kk) ((l.drop kk).map Fl) rfl H3.out.1 a1 kk c ((l.take kk).map Fl) rfl (by have := HB.out.2; simp; omega) (HT.out _ H3.out.2) (fun u hu => by obtain ⟨n, _, rfl⟩ := List.mem_map.1 hu; rfl) (by have := HB.out; unfold maxLen; omega) (by have := HB.out; omega) (by have := H3.out.2.size; omega) ?_
         intro v4 w4 ho4 hg4 hat4
         have H4 := Lib.hid (And.intro ho4 (And.intro hg4 hat4))
         clear ho4 hg4 hat4)
      | (go_simp; go_at_call 24; refine HF.out.mono ?_; rintro e w3 ⟨v3, rfl, ho3, hk3⟩
         have H3 := Lib.hid (And.intro (show w3.ownsRow W2.heap.size 32 1 v3 (l.length - kk) ((l.drop kk).map Fl) from ho3) (show Kept [] W2 w3 from ((Kept.refl [] W2).dr ⟨1, rfl⟩).trans hk3))
         clear ho3 hk3))
    obtain ⟨ys, hys⟩ : ∃ ys, ys = l.drop kk ++ l.take kk := ⟨_, rfl⟩
    have hyl : ys.length = l.length := by rw [hys]; simp; have := HB.out; omega
    have hyp : ys.reverse.Perm l := by
      rw [hys]
      exact (List.reverse_perm _).trans (List.perm_append_comm.trans (by rw [List.take_append_drop]))
    have ho4 : w4.ownsRow W2.heap.size 32 1 v4 ys.length (ys.map Fl) := by
      have := H4.out.1
      rw [← List.map_append, ← hys, show l.length - kk + kk = ys.length from by rw [hyl]; have := HB.out; omega] at this
      exact this
    have hk24 : Kept [] W2 w4 := H3.out.2.trans2 (grownBy_kept H4.out.2.1) (fun i hi => by
      right
      rcases H3.out.1.2 with ⟨e, _⟩ | ⟨g, cap, cur, e, hb, _⟩
      · rw [e] at hi; simp [Value.ownBlock] at hi
      · rw [e] at hi; simp [Value.ownBlock] at hi; subst hi; exact hb)
    have HO4 := Lib.hid (And.intro ho4 (And.intro hk24 (And.intro hyp hyl)))
    clear ho4 hk24 hyp hyl H3 H4 HF HT hkk hys
    (try simp only [Exit.then])
    go_wp2_with fail
    refine (reverse25 W2.heap.size v4 ys w4 HO4.out.1 (by have := HO4.out.2.2.2; have := HB.out; omega) (by have := HO4.out.2.2.2; omega)).mono ?_
    rintro e w5 ⟨rfl, ho5, hk5⟩
    have hk25 : Kept [] W2 w5 := HO4.out.2.1.trans2 hk5 (fun i hi => by
      right
      rcases HO4.out.1.2 with ⟨e, _⟩ | ⟨g, cap, cur, e, hb, _⟩
      · rw [e] at hi; simp [Value.ownBlock] at hi
      · rw [e] at hi; simp [Value.ownBlock] at hi; subst hi; exact hb)
    have HS5 := Lib.hid (SlAt.own ho5)
    have HK25 := Lib.hid hk25
    clear ho5 hk5 hk25
    go_wp2_with fail
    refine (one10 size scale ys.reverse _ w5 HS5.out (fun v hv => HL.out.2.1 v (HO4.out.2.2.1.mem_iff.1 hv))).mono ?_
    rintro e w6 ⟨cs2, asked, rfl, h11, hone, hk6, h⟩
    obtain ⟨rfl, hask2, hone2⟩ : asked = true ∧ Asked size scale ys.reverse ∧ OneIs w6 size scale ys.reverse cs2 := by
      rcases h with ⟨_, h⟩ | h
      · exact absurd (HM.out.1.ask.perm HO4.out.2.2.1) h
      · exact h
    clear h
    have H26 := Lib.hid (MapKept.heap_alloc w6 (.cells exZero.toArray 26)).1
    have HC := Lib.hid (And.intro h11 (And.intro hone (show exZero.toArray.size = cs2.toArray.size from by rw [List.size_toArray, List.size_toArray, h11]; rfl)))
    obtain ⟨s2, r2, mn2, mx2, pa2, na2, ca2, pb2, nb2, cb2, hkn2, hpm2⟩ := hone2.lay hask2
    obtain ⟨W7, hW7⟩ : ∃ W, W = (w6.alloc (.cells exZero.toArray 26)).setRow w6.heap.size cs2.toArray := ⟨_, rfl⟩
    rw [← hW7] at hpm2
    have hk67 : Kept [] w6 W7 := by rw [hW7]; exact setRow_kept ((Kept.refl _ _).alloc _) (.inr (Nat.le_refl _))
    obtain ⟨Q, hQ⟩ : ∃ Q, Q = w6.heap.size := ⟨_, rfl⟩
    rw [← hQ] at hpm2
    have hrow2 : ∃ cc, W7.heap[Q]? = some (.cells cc 26 (0, 0)) := by rw [hW7, hQ]; exact ⟨_, setRow_heap _ _ _ _ _ _ (MapKept.heap_alloc w6 (.cells exZero.toArray 26)).1⟩
    have hkk7 : Kept [] W2 W7 := HK25.out.trans (hk6.trans hk67)
    have hrow1 : ∃ cc, W7.heap[P]? = some (.cells cc 26 (0, 0)) := by
      obtain ⟨cc, h⟩ := HM.out.2.2.2
      exact ⟨cc, hkk7.obj h (by simp)⟩
    have hPQ : P < Q := by rw [hQ]; exact Nat.lt_of_lt_of_le HM.out.2.1.lt ((HK25.out.trans hk6).size)
    have HT := Lib.hid (And.intro (HM.out.2.1.kept hkk7) (And.intro hpm2 (And.intro hrow1 (And.intro hrow2 (And.intro hPQ HM.out.2.2.1)))))
    have HKN := Lib.hid (And.intro HM.out.1 hkn2)
    have HK7 := Lib.hid (HK3.out.trans hkk7)
    clear h11 hone hone2 hask2 hkn2 hpm2 hk6 hk67 hkk7 hrow1 hrow2 hPQ HM HK3 HS5 HK25
    go_upto_region 10 with (refine wpList_store_row rfl 26 _ _ rfl w6.heap.size _ rfl rfl 26 exZero.toArray H26.out (sz26 HC.out.1) HC.out.2.2 HC.out.2.1 ?_)
    rw [show ((w6.alloc (.cells #[.bool false, .int .u64 0, .int .u64 0, .int .u64 0, .int .u64 0, .int .i32 0, .int .u64 0, .int .i32 0, .slice none 0 0, .int .i32 0, .slice none 0 0] 26)).setRow w6.heap.size cs2.toArray) = W7 from hW7.symm]
    clear hW7 H26 HC
    rw [← hQ]
    clear hQ
    have hst : OrdSt W7 W7 P Q mn mn2 mx mx2 := by
      obtain ⟨A, B, ⟨cc, hr1⟩, ⟨cc2, hr2⟩, _, _⟩ := HT.out
      exact ⟨Kept.refl _ _, fun i _ _ _ => rfl, fun i _ _ _ => rfl, A.c3, B.c3, A.c4, B.c4, fun i => ⟨frOf hr1, frOf hr2⟩, by rw [A.c2]; rfl, by rw [B.c2]; rfl⟩
    have HST := Lib.hid ((hst.sP HT.out.2.2.2.2.1).sQ HT.out.2.2.2.2.1)
    have hP2 : ∃ v, W7.cell? ⟨P, 2, none⟩ = some v := Option.isSome_iff_exists.1 hst.p2
    have hQ2 : ∃ v, W7.cell? ⟨Q, 2, none⟩ = some v := Option.isSome_iff_exists.1 hst.q2
    obtain ⟨vp, hP2⟩ := hP2
    obtain ⟨vq, hQ2⟩ := hQ2
    have fP2 := (hst.fr 2).1
    have fQ2 := (hst.fr 2).2
    have hne : P ≠ Q := by have := HT.out.2.2.2.2.1; omega
    have hne' : Q ≠ P := by omega
    clear hst
    go_upto_region 11 with fail
    obtain ⟨X1, hX1⟩ : ∃ X, X = (W7.setCell ⟨P, 2, none⟩ (.int .u64 0)).setCell ⟨Q, 2, none⟩ (.int .u64 0) := ⟨_, rfl⟩
    rw [← hX1] at HST ⊢
    clear hX1 hP2 hQ2 fP2 fQ2
    have p3 := HST.out.p3
    have f3 := (HST.out.fr 3).1
    go_upto_if 58 with fail
    go_cut [] (fun wx => OrdSt W7 wx P Q (nrm mn) mn2 mx mx2)
    case first =>
      by_cases hm : mn = 9223372036854775808
      · have e1 : nrm mn = 0 := by unfold nrm; rw [if_pos hm]
        have e2 : ((mn : Int) == 9223372036854775808) = true := by rw [hm]; rfl
        have e3 : (mn : Int) = 9223372036854775808 := by omega
        go_wp2_with fail
        go_meet
        rw [e1]
        exact HST.out.mP HT.out.2.2.2.2.1
      · have e1 : nrm mn = mn := by unfold nrm; rw [if_neg hm]
        have e2 : ((mn : Int) == 9223372036854775808) = false := by rw [beq_eq_false_iff_ne]; omega
        have e3 : ¬ (mn : Int) = 9223372036854775808 := by omega
        go_wp2_with fail
        go_meet
        rw [e1]
        exact HST.out
    case rest =>
    clear p3 f3 HST
    have HS1 := Lib.hid hcut
    clear hcut
    have p3 := HS1.out.q3
    have f3 := (HS1.out.fr 3).2
    go_upto_if 62 with fail
    go_cut [] (fun wx => OrdSt W7 wx P Q (nrm mn) (nrm mn2) mx mx2)
    case first =>
      by_cases hm : mn2 = 9223372036854775808
      · have e1 : nrm mn2 = 0 := by unfold nrm; rw [if_pos hm]
        have e2 : ((mn2 : Int) == 9223372036854775808) = true := by rw [hm]; rfl
        have e3 : (mn2 : Int) = 9223372036854775808 := by omega
        go_wp2_with fail
        go_meet
        rw [e1]
        exact HS1.out.mQ HT.out.2.2.2.2.1
      · have e1 : nrm mn2 = mn2 := by unfold nrm; rw [if_neg hm]
        have e2 : ((mn2 : Int) == 9223372036854775808) = false := by rw [beq_eq_false_iff_ne]; omega
        have e3 : ¬ (mn2 : Int) = 9223372036854775808 := by omega
        go_wp2_with fail
        go_meet
        rw [e1]
        exact HS1.out
    case rest =>
    clear p3 f3 HS1
    have HS2 := Lib.hid hcut
    clear hcut
    have p3 := HS2.out.p4
    have f3 := (HS2.out.fr 4).1
    go_upto_if 66 with fail
    go_cut [] (fun wx => OrdSt W7 wx P Q (nrm mn) (nrm mn2) (nrm mx) mx2)
    case first =>
      by_cases hm : mx = 9223372036854775808
      · have e1 : nrm mx = 0 := by unfold nrm; rw [if_pos hm]
        have e2 : ((mx : Int) == 9223372036854775808) = true := by rw [hm]; rfl
        have e3 : (mx : Int) = 9223372036854775808 := by omega
        go_wp2_with fail
        go_meet
        rw [e1]
        exact HS2.out.xP HT.out.2.2.2.2.1
      · have e1 : nrm mx = mx := by unfold nrm; rw [if_neg hm]
        have e2 : ((mx : Int) == 9223372036854775808) = false := by rw [beq_eq_false_iff_ne]; omega
        have e3 : ¬ (mx : Int) = 9223372036854775808 := by omega
        go_wp2_with fail
        go_meet
        rw [e1]
        exact HS2.out
    case rest =>
    clear p3 f3 HS2
    have HS3 := Lib.hid hcut
    clear hcut
    have p3 := HS3.out.q4
    have f3 := (HS3.out.fr 4).2
    go_upto_if 70 with fail
    go_cut [] (fun wx => OrdSt W7 wx P Q (nrm mn) (nrm mn2) (nrm mx) (nrm mx2))
    case first =>
      by_cases hm : mx2 = 9223372036854775808
      · have e1 : nrm mx2 = 0 := by unfold nrm; rw [if_pos hm]
        have e2 : ((mx2 : Int) == 9223372036854775808) = true := by rw [hm]; rfl
        have e3 : (mx2 : Int) = 9223372036854775808 := by omega
        go_wp2_with fail
        go_meet
        rw [e1]
        exact HS3.out.xQ HT.out.2.2.2.2.1
      · have e1 : nrm mx2 = mx2 := by unfold nrm; rw [if_neg hm]
        have e2 : ((mx2 : Int) == 9223372036854775808) = false := by rw [beq_eq_false_iff_ne]; omega
        have e3 : ¬ (mx2 : Int) = 9223372036854775808 := by omega
        go_wp2_with fail
        go_meet
        rw [e1]
        exact HS3.out
    case rest =>
    clear p3 f3 HS3
    have HS4 := Lib.hid hcut
    clear hcut
    obtain ⟨b, hbk⟩ := HKN.out.1.bk
    obtain ⟨b2, hbk2⟩ := HKN.out.2.bk
    have hyp := HO4.out.2.2.1
    obtain ⟨_, e1, e2, e3, e4, e5⟩ := hbk.uniq hbk2 (pIs_permL hyp) (nIs_permL hyp)
    have e6 : s.zc = s2.zc := by rw [hbk.zc, hbk2.zc]; exact (zIs_permL hyp).symm
    have e7 : ys.reverse.length = l.length := hyp.length_eq
    obtain ⟨e8, e9⟩ := mm_perm HKN.out.1.ask.2.2.2.fin HL.out.2.1 hyp HKN.out.1.mm HKN.out.2.mm
    have A := HT.out.1
    have B := HT.out.2.1
    have hcp := HS4.out.oP
    have hcq := HS4.out.oQ
    have a1' := (hcp 1 (by decide) (by decide) (by decide)).trans A.c1; have a5 := (hcp 5 (by decide) (by decide) (by decide)).trans A.c5; have a6 := (hcp 6 (by decide) (by decide) (by decide)).trans A.c6
    have a7 := (hcp 7 (by decide) (by decide) (by decide)).trans A.c7; have a8 := (hcp 8 (by decide) (by decide) (by decide)).trans A.c8; have a9 := (hcp 9 (by decide) (by decide) (by decide)).trans A.c9; have a10 := (hcp 10 (by decide) (by decide) (by decide)).trans A.c10
    have b1 := (hcq 1 (by decide) (by decide) (by decide)).trans B.c1; have b5 := (hcq 5 (by decide) (by decide) (by decide)).trans B.c5; have b6 := (hcq 6 (by decide) (by decide) (by decide)).trans B.c6
    have b7 := (hcq 7 (by decide) (by decide) (by decide)).trans B.c7; have b8 := (hcq 8 (by decide) (by decide) (by decide)).trans B.c8; have b9 := (hcq 9 (by decide) (by decide) (by decide)).trans B.c9; have b10 := (hcq 10 (by decide) (by decide) (by decide)).trans B.c10
    have a3 := HS4.out.p3; have a4 := HS4.out.p4; have b3 := HS4.out.q3; have b4 := HS4.out.q4
    rw [e7] at b1; rw [← e1] at b5; rw [← e6] at b6; rw [← e2] at b7; rw [← e4] at b9; rw [← e8] at b3; rw [← e9] at b4
    have hrow : ∀ (v : Value) (n : Nat) (xs : List Value), W7.ownsRow 0 23 1 v n xs → SlAt wc v xs := fun v n xs hv =>
      SlAt.own (own_keptK hv HS4.out.k (fun z hz hm => by
        obtain ⟨cur, hcur⟩ := own_type hv hz
        obtain ⟨cc, hr1⟩ := HT.out.2.2.1
        obtain ⟨cc2, hr2⟩ := HT.out.2.2.2.1
        simp at hm
        rcases hm with rfl | rfl
        · rw [hr1] at hcur; cases hcur
        · rw [hr2] at hcur; cases hcur))
    have HA := Lib.hid (And.intro (hrow _ _ _ A.oa) (And.intro (hrow _ _ _ A.ob) (And.intro (hrow _ _ _ B.oa) (And.intro (hrow _ _ _ B.ob) (And.intro e3 (And.intro e5 HKN.out.1.lim))))))
    have HKC := Lib.hid (HK7.out.trans2 HS4.out.k (fun i hi => by right; have := HT.out.2.2.2.2; simp at hi; omega))
    obtain ⟨sc, hsc⟩ : ∃ z, z = s.sc := ⟨_, rfl⟩
    obtain ⟨zc, hzc⟩ : ∃ z, z = s.zc := ⟨_, rfl⟩
    obtain ⟨ps, hps⟩ : ∃ z, z = s.ps := ⟨_, rfl⟩
    obtain ⟨ns, hns⟩ : ∃ z, z = s.ns := ⟨_, rfl⟩
    obtain ⟨nmn, hmn⟩ : ∃ z, z = nrm mn := ⟨_, rfl⟩
    obtain ⟨nmx, hmx⟩ : ∃ z, z = nrm mx := ⟨_, rfl⟩
    rw [← hsc] at a5 b5; rw [← hzc] at a6 b6; rw [← hps] at a7 b7; rw [← hns] at a9 b9; rw [← hmn] at a3 b3; rw [← hmx] at a4 b4
    clear A B hbk hbk2 e1 e2 e3 e4 e5 e6 e7 e8 e9 hyp hcp hcq hrow hsc hzc hps hns hmn hmx HS4 HKN HT HK7 HO4 HL HX HI HB
    go_wp2_with fail
    refine (awake _).mono ?_; rintro e w7 ⟨rfl, hk⟩
    have k : ∀ (B : Nat) i v, wc.cell? ⟨B, i, none⟩ = some v → w7.cell? ⟨B, i, none⟩ = some v := fun B i v h => (hk.cell (cell_lt h) (by simp)).trans h
    replace a1' := k _ _ _ a1'
    replace a3 := k _ _ _ a3
    replace a4 := k _ _ _ a4
    replace a5 := k _ _ _ a5
    replace a6 := k _ _ _ a6
    replace a7 := k _ _ _ a7
    replace a8 := k _ _ _ a8
    replace a9 := k _ _ _ a9
    replace a10 := k _ _ _ a10
    replace b1 := k _ _ _ b1
    replace b3 := k _ _ _ b3
    replace b4 := k _ _ _ b4
    replace b5 := k _ _ _ b5
    replace b6 := k _ _ _ b6
    replace b7 := k _ _ _ b7
    replace b8 := k _ _ _ b8
    replace b9 := k _ _ _ b9
    replace b10 := k _ _ _ b10
    have F1 := Lib.hid (equal13 s.pl s2.pl _ _ w7 (HA.out.1.kept hk) (HA.out.2.2.1.kept hk) (by have := HA.out.2.2.2.2.2.2.pl; omega))
    rw [decide_eq_true HA.out.2.2.2.2.1] at F1
    have HK8 := Lib.hid (And.intro (HKC.out.trans hk) hk)
    clear k hk HKC
    go_wp2_with fail
    refine F1.out.mono ?_; rintro e w8 ⟨rfl, hk⟩
    have k : ∀ (B : Nat) i v, w7.cell? ⟨B, i, none⟩ = some v → w8.cell? ⟨B, i, none⟩ = some v := fun B i v h => (hk.cell (cell_lt h) (by simp)).trans h
    replace a1' := k _ _ _ a1'
    replace a3 := k _ _ _ a3
    replace a4 := k _ _ _ a4
    replace a5 := k _ _ _ a5
    replace a6 := k _ _ _ a6
    replace a7 := k _ _ _ a7
    replace a8 := k _ _ _ a8
    replace a9 := k _ _ _ a9
    replace a10 := k _ _ _ a10
    replace b1 := k _ _ _ b1
    replace b3 := k _ _ _ b3
    replace b4 := k _ _ _ b4
    replace b5 := k _ _ _ b5
    replace b6 := k _ _ _ b6
    replace b7 := k _ _ _ b7
    replace b8 := k _ _ _ b8
    replace b9 := k _ _ _ b9
    replace b10 := k _ _ _ b10
    have F2 := Lib.hid (equal13 s.nl s2.nl _ _ w8 ((HA.out.2.1.kept HK8.out.2).kept hk) ((HA.out.2.2.2.1.kept HK8.out.2).kept hk) (by have := HA.out.2.2.2.2.2.2.nl; omega))
    rw [decide_eq_true HA.out.2.2.2.2.2.1] at F2
    have HK9 := Lib.hid (HK8.out.1.trans hk)
    clear k hk HK8 F1
    go_wp2_with fail
    refine F2.out.mono ?_; rintro e w9 ⟨rfl, hk⟩
    have HK10 := Lib.hid (HK9.out.trans hk)
    clear hk HK9 F2
    go_wp2_with fail
    go_ret
    exact ⟨rfl, HK10.out⟩
end Go.Proofs.YtlpddogcnpokfaaGreat
