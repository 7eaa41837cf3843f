/- FnExpoDoubled: the order of numbers above 0, and the walk of the law. -/
import Derived.Test.YtlpddogcnpokfaaGreatPm
namespace Go.Proofs.YtlpddogcnpokfaaGreat.Lg
open Ieee
theorem val_pos_eq {w : Nat} (hw : w < 9223372036854775808) : val w = (mag w : Rat) * p2 (pl w) := by
  have hs : negW w = false := by unfold negW; rw [beq_eq_false_iff_ne, show (2 ^ 63 : Nat) = 9223372036854775808 from rfl]; omega
  unfold val; rw [hs]; unfold sg; simp only [Bool.false_eq_true, if_false]; grind
theorem val_lt {w w' : Nat} (h : w < w') (hw' : w' < 9223372036854775808) : val w < val w' := by
  rw [val_pos_eq (by omega), val_pos_eq hw']
  have hm : mag w < 9007199254740992 := by unfold mag rung; split <;> omega
  by_cases he : pl w = pl w'
  · rw [he]
    have hlt : mag w < mag w' := by
      unfold pl rung at he; unfold mag rung
      (repeat' split at he) <;> (repeat' split) <;> omega
    exact Rat.mul_lt_mul_of_pos_right (Rat.natCast_lt_natCast.2 hlt) (p2_pos _)
  · have hp : pl w + 1 ≤ pl w' := by
      unfold pl rung at he ⊢
      (repeat' split at he) <;> (repeat' split) <;> omega
    have hm' : 4503599627370496 ≤ mag w' := by
      unfold pl rung at he hp; unfold mag rung
      (repeat' split at he) <;> (repeat' split at hp) <;> (repeat' split) <;> omega
    have h1 : (mag w : Rat) * p2 (pl w) < ((9007199254740992 : Nat) : Rat) * p2 (pl w) := Rat.mul_lt_mul_of_pos_right (Rat.natCast_lt_natCast.2 hm) (p2_pos _)
    have h2 : ((9007199254740992 : Nat) : Rat) * p2 (pl w) = ((4503599627370496 : Nat) : Rat) * p2 (pl w + 1) := by
      rw [p2_add, p2_one]
      have : ((9007199254740992 : Nat) : Rat) = ((4503599627370496 : Nat) : Rat) * 2 := by decide +kernel
      rw [this]; grind
    have h3 : p2 (pl w + 1) ≤ p2 (pl w') := p2_le hp
    have h4 : ((4503599627370496 : Nat) : Rat) ≤ (mag w' : Rat) := Rat.natCast_le_natCast.2 hm'
    have h5 : ((4503599627370496 : Nat) : Rat) * p2 (pl w + 1) ≤ ((4503599627370496 : Nat) : Rat) * p2 (pl w') := Rat.mul_le_mul_of_nonneg_left h3 (Rat.natCast_nonneg)
    have h6 : ((4503599627370496 : Nat) : Rat) * p2 (pl w') ≤ (mag w' : Rat) * p2 (pl w') := Rat.mul_le_mul_of_nonneg_right h4 (Rat.le_of_lt (p2_pos _))
    grind
end Go.Proofs.YtlpddogcnpokfaaGreat.Lg
namespace Go.Proofs.YtlpddogcnpokfaaGreat
open Ieee
/-- a number that is neither too small nor too great -/
theorem dbl_in {a : Nat} (hf : a < 2047 * 2 ^ 52) (h0 : (FloatKind.f64.format.order a 0 == some .eq) = true ∨ ((FloatKind.f64.format.order a 553942754166571008 == some .lt) = false ∧ (FloatKind.f64.format.order a 8660422083433463808 == some .gt) = false)) :
    a = 0 ∨ (553942754166571008 ≤ a ∧ a ≤ 8660422083433463808) := by
  have ha : a < 9223372036854775808 := by omega
  have hfin : Lg.fin a := by unfold Lg.fin Lg.rung; omega
  rcases h0 with h0 | ⟨h1, h2⟩
  · left
    have e := Lg.eq_zero a hfin
    rw [show (FloatKind.f64.format.order a 0 == some Ordering.eq) = decide (Lg.rung a = 0) from e] at h0
    have := of_decide_eq_true h0
    unfold Lg.rung at this; omega
  · have f1 : Lg.fin 553942754166571008 := by decide +kernel
    have f2 : Lg.fin 8660422083433463808 := by decide +kernel
    have e1 := Lg.order_lt (Lg.is_fin hfin) (Lg.is_fin f1)
    have e2 := Lg.order_gt (Lg.is_fin hfin) (Lg.is_fin f2)
    rw [show (FloatKind.f64.format.order a 553942754166571008 == some Ordering.lt) = decide (Lg.val a < Lg.val 553942754166571008) from e1] at h1
    rw [show (FloatKind.f64.format.order a 8660422083433463808 == some Ordering.gt) = decide (Lg.val 8660422083433463808 < Lg.val a) from e2] at h2
    have g1 := of_decide_eq_false h1
    have g2 := of_decide_eq_false h2
    right
    constructor
    · rcases Nat.lt_or_ge a 553942754166571008 with h | h
      · exact absurd (Lg.val_lt h (by omega)) g1
      · exact h
    · rcases Nat.lt_or_ge 8660422083433463808 a with h | h
      · exact absurd (Lg.val_lt h ha) g2
      · exact h
end Go.Proofs.YtlpddogcnpokfaaGreat
namespace Go.Proofs.YtlpddogcnpokfaaGreat
open Go.RowKit Go.Maps
theorem mul_any (x y : Nat) (w : World) : ∃ r w', (binOp .mul 32 (.float .f64 x) (.float .f64 y)).run Tryz.prog w = .ok (.float .f64 r) w' ∧ Dr1 w w' ∧ (∀ r0, floatBits .mul .f64 x y = some r0 → r = r0) ∧ r < 18446744073709551616 := by
  cases h : floatBits .mul .f64 x y with
  | some r0 =>
    refine ⟨r0, w, run_float_arith w .mul 32 .f64 x y r0 h, .inl rfl, fun k hk => by cases hk; rfl, ?_⟩
    have := floatBits_wf h
    simpa [Lit.wf] using this
  | none =>
    have hr : (binOp .mul 32 (.float .f64 x) (.float .f64 y)).run Tryz.prog w = .ok (.float .f64 ((Question.nanBits .f64 x y).cut (w.tape w.drawn (.nanBits .f64 x y)))) w.drew := by
      have h' : FloatKind.f64.format.mul x y = none := h
      simp [binOp, Op.floatArith, h', Question.forced]
    refine ⟨_, _, hr, .inr rfl, (fun k hk => by cases hk), ?_⟩
    simp only [Question.cut]
    omega
/-- twice the numbers of a list, as the law makes them -/
structure Dbls (l k : List Nat) : Prop where
  len : k.length = l.length
  lt : ∀ v, v ∈ k → v < 18446744073709551616
  dbl : (∀ v, v ∈ l → v < 18446744073709551616) → (∀ v, v ∈ l → absW v < 2047 * 2 ^ 52) → DblIn l ∧ k = l.map dblF
theorem Dbls.nil : Dbls [] [] := ⟨rfl, fun v h => (by cases h), fun _ _ => ⟨fun v h => (by cases h), rfl⟩⟩
theorem Dbls.push {l k : List Nat} (h : Dbls l k) {x r : Nat} (hr : r < 18446744073709551616) (hm : ∀ r0, floatBits .mul .f64 4611686018427387904 x = some r0 → r = r0)
    (hin : absW x < 2047 * 2 ^ 52 → absW x = 0 ∨ (553942754166571008 ≤ absW x ∧ absW x ≤ 8660422083433463808)) : Dbls (l ++ [x]) (k ++ [r]) := by
  refine ⟨by simp [h.len], fun v hv => ?_, fun hlt hf => ?_⟩
  · rcases List.mem_append.1 hv with hv | hv
    · exact h.lt v hv
    · simp at hv; subst hv; exact hr
  · obtain ⟨h1, h2⟩ := h.dbl (fun v hv => hlt v (List.mem_append_left _ hv)) (fun v hv => hf v (List.mem_append_left _ hv))
    have hx := hin (hf x (by simp))
    refine ⟨fun v hv => ?_, ?_⟩
    · rcases List.mem_append.1 hv with hv | hv
      · exact h1 v hv
      · simp at hv; subst hv; exact hx
    · rw [List.map_append, h2, hm _ (mul_dbl x (hlt x (by simp)) hx)]; rfl

set_option maxHeartbeats 4000000 in
set_option maxRecDepth 100000 in
theorem doubled4 (size scale : Int) (l : List Nat) (V : Value) (w : World) (hl : SlAt w V (l.map Fl)) (hlt : ∀ v, v ∈ l → v < 18446744073709551616) : Calls Tryz.prog 4 #[.int .i32 size, .int .i32 scale, V] w (LawT w) := by
  obtain ⟨p, c, rfl, hp⟩ := hl.read
  rw [List.length_map] at *
  by_cases hbig : (2147483647 : Int) < (l.length : Int)
  · clear hp
    go_enter Tryz.func4, Tryz.ntmps4
    go_wp2_with fail
    go_ret
    exact ⟨rfl, Kept.refl _ _⟩
  have hbg : decide ((2147483647 : Int) < (l.length : Int)) = false := decide_eq_false hbig
  have HBG := Lib.hid (show l.length ≤ 2147483647 by omega)
  have HL := Lib.hid (And.intro hl (And.intro hlt hp))
  clear hbig hl hlt hp
  obtain ⟨i0, hi, hz0, hz1, hz2⟩ := info32
  have HI := Lib.hid (And.intro hi (And.intro hz0 (And.intro hz1 hz2)))
  clear hi hz0 hz1 hz2
  go_enter Tryz.func4, Tryz.ntmps4
  go_wp2_with fail
  go_loopw [7, 23] (fun o i wr => ∃ m : Nat, m ≤ l.length ∧ i = .int .i64 (m : Int) ∧ (∃ k, Dbls (l.take m) k ∧ wr.ownsRow w.heap.size 32 1 o m (k.map Fl)) ∧ Kept [] w wr) (fun _ i _ => l.length - (intOf i).toNat)
  case atStart => exact ⟨0, by omega, rfl, ⟨[], Dbls.nil, ⟨rfl, .inl ⟨rfl, rfl⟩⟩⟩, Kept.refl _ _⟩
  case round =>
  obtain ⟨m, hm, rfl, ⟨k, hdb, hown⟩, hk⟩ := hrel
  by_cases hmlt : m < l.length
  · obtain ⟨x, hx⟩ : ∃ x, x = l.getD m 0 := ⟨_, rfl⟩
    have hlm : (l.map Fl)[m]? = some (Fl x) := by rw [List.getElem?_map, List.getElem?_eq_getElem hmlt, hx, List.getD_eq_getElem?_getD, List.getElem?_eq_getElem hmlt]; rfl
    obtain ⟨a1, rfl, hcx⟩ := HL.out.2.2 m _ hlm
    have hcell : wr.cell? (a1.add m) = some (.float .f64 x) := (cellKept hk (cell_lt hcx) (by simp)).trans hcx
    have hxl : x < 18446744073709551616 := HL.out.2.1 x (by rw [hx, List.getD_eq_getElem?_getD, List.getElem?_eq_getElem hmlt]; exact List.getElem_mem hmlt)
    have htk : l.take (m + 1) = l.take m ++ [x] := by
      rw [List.take_succ_eq_append_getElem hmlt, hx, List.getD_eq_getElem?_getD, List.getElem?_eq_getElem hmlt]; rfl
    have HN := Lib.hid (And.intro hdb htk)
    have HK := Lib.hid hk
    have HO := Lib.hid hown
    have HXL := Lib.hid hxl
    have hbase := Lib.hid hk.size
    clear hx hlm hk hown hcx hdb htk hxl
    have w7 : (m : Int) < (l.length : Int) := by omega
    have w1 : IntKind.i64.wrap ((m : Int) + 1) = (m : Int) + 1 := IntWalk.i64_in _ (by have := HBG.out; omega)
    go_wp2_with fail
    refine (abs12 x _ HXL.out).mono ?_; rintro e w' ⟨rfl, rfl⟩
    cases e0 : (FloatKind.f64.format.order (absW x) 0 == some Ordering.eq)
    · have n0 : (FloatKind.f64.format.order (absW x) 0 != some Ordering.eq) = true := by unfold bne; rw [e0]; rfl
      have q0 : ¬ (FloatKind.f64.format.order (absW x) 0 = some Ordering.eq) := by simpa using e0
      cases e1 : (FloatKind.f64.format.order (absW x) 553942754166571008 == some Ordering.lt)
      · have q1 : ¬ (FloatKind.f64.format.order (absW x) 553942754166571008 = some Ordering.lt) := by simpa using e1
        cases e2 : (FloatKind.f64.format.order (absW x) 8660422083433463808 == some Ordering.gt)
        · have q2 : ¬ (FloatKind.f64.format.order (absW x) 8660422083433463808 = some Ordering.gt) := by simpa using e2
          have HCASE : (FloatKind.f64.format.order (absW x) 0 == some .eq) = true ∨ ((FloatKind.f64.format.order (absW x) 553942754166571008 == some .lt) = false ∧ (FloatKind.f64.format.order (absW x) 8660422083433463808 == some .gt) = false) := .inr ⟨e1, e2⟩
          have hin : absW x < 2047 * 2 ^ 52 → absW x = 0 ∨ (553942754166571008 ≤ absW x ∧ absW x ≤ 8660422083433463808) := fun hf => dbl_in hf HCASE
          obtain ⟨r, w2, hr2, hd2, hm3, hr4⟩ := mul_any 4611686018427387904 x wr
          have HD := Lib.hid (And.intro hd2 (And.intro hm3 (And.intro hr4 hin)))
          have HO2 := Lib.hid (own_keptK HO.out ((Kept.refl [] wr).dr hd2.dr) (by simp))
          have hb2 := Lib.hid (show w.heap.size ≤ w2.heap.size from by have := ((Kept.refl [] wr).dr hd2.dr).size; have := hbase.out; omega)
          clear hd2 hm3 hr4 hin HO hbase
          go_wp2_with (at_builtin; refine wpList_append_own_at _ rfl _ _ 22 rfl w.heap.size 32 i0 (.float .f64 0) 1 8 Tryz.underlying22 HI.out.1 HI.out.2.1 HI.out.2.2.1 HI.out.2.2.2 rfl (by decide) _ _ _ rfl (HO2.out.alloc _) ⟨w2.heap.size, 0, none⟩ 1 1 [.float .f64 r] rfl rfl (cell_one_new _ _ _) (fun u hu => by simp at hu; subst hu; rfl) (by have := HBG.out; unfold maxLen; omega) (by have := HBG.out; omega) (by have := hb2.out; simp; omega) ?_; intro v' wn hown' hgrow hnil hat)
          go_roundw
          case rel => exact ⟨m + 1, by omega, by go_num, ⟨k ++ [r], by rw [HN.out.2]; exact HN.out.1.push HD.out.2.2.1 HD.out.2.1 HD.out.2.2.2, by rw [List.map_append]; exact hown'⟩, own_kept (HK.out.dr HD.out.1.dr) HO2.out hgrow⟩
          case measure => simp [intOf]; omega
        · have q2 : (FloatKind.f64.format.order (absW x) 8660422083433463808 = some Ordering.gt) := by simpa using e2
          go_wp2_with fail
          refine (awake _).mono ?_; rintro e w9 ⟨rfl, hk9⟩
          have HK9 := Lib.hid (HK.out.trans hk9)
          clear hk9
          go_wp2_with fail
          go_ret
          exact ⟨rfl, HK9.out⟩
      · have q1 : (FloatKind.f64.format.order (absW x) 553942754166571008 = some Ordering.lt) := by simpa using e1
        go_wp2_with fail
        refine (awake _).mono ?_; rintro e w9 ⟨rfl, hk9⟩
        have HK9 := Lib.hid (HK.out.trans hk9)
        clear hk9
        go_wp2_with fail
        go_ret
        exact ⟨rfl, HK9.out⟩
    · have n0 : (FloatKind.f64.format.order (absW x) 0 != some Ordering.eq) = false := by unfold bne; rw [e0]; rfl
      have q0 : (FloatKind.f64.format.order (absW x) 0 = some Ordering.eq) := by simpa using e0
      have HCASE : (FloatKind.f64.format.order (absW x) 0 == some .eq) = true ∨ ((FloatKind.f64.format.order (absW x) 553942754166571008 == some .lt) = false ∧ (FloatKind.f64.format.order (absW x) 8660422083433463808 == some .gt) = false) := .inl e0
      have hin : absW x < 2047 * 2 ^ 52 → absW x = 0 ∨ (553942754166571008 ≤ absW x ∧ absW x ≤ 8660422083433463808) := fun hf => dbl_in hf HCASE
      obtain ⟨r, w2, hr2, hd2, hm3, hr4⟩ := mul_any 4611686018427387904 x wr
      have HD := Lib.hid (And.intro hd2 (And.intro hm3 (And.intro hr4 hin)))
      have HO2 := Lib.hid (own_keptK HO.out ((Kept.refl [] wr).dr hd2.dr) (by simp))
      have hb2 := Lib.hid (show w.heap.size ≤ w2.heap.size from by have := ((Kept.refl [] wr).dr hd2.dr).size; have := hbase.out; omega)
      clear hd2 hm3 hr4 hin HO hbase
      go_wp2_with (at_builtin; refine wpList_append_own_at _ rfl _ _ 22 rfl w.heap.size 32 i0 (.float .f64 0) 1 8 Tryz.underlying22 HI.out.1 HI.out.2.1 HI.out.2.2.1 HI.out.2.2.2 rfl (by decide) _ _ _ rfl (HO2.out.alloc _) ⟨w2.heap.size, 0, none⟩ 1 1 [.float .f64 r] rfl rfl (cell_one_new _ _ _) (fun u hu => by simp at hu; subst hu; rfl) (by have := HBG.out; unfold maxLen; omega) (by have := HBG.out; omega) (by have := hb2.out; simp; omega) ?_; intro v' wn hown' hgrow hnil hat)
      go_roundw
      case rel => exact ⟨m + 1, by omega, by go_num, ⟨k ++ [r], by rw [HN.out.2]; exact HN.out.1.push HD.out.2.2.1 HD.out.2.1 HD.out.2.2.2, by rw [List.map_append]; exact hown'⟩, own_kept (HK.out.dr HD.out.1.dr) HO2.out hgrow⟩
      case measure => simp [intOf]; omega
  · have hml : m = l.length := by omega
    subst hml
    rw [List.take_length] at hdb
    have hji : ¬ (l.length : Int) < (l.length : Int) := by omega
    have hlk : k.length = l.length := hdb.len
    rw [← hlk] at hown
    have hsl : SlAt wr u7 (k.map Fl) := SlAt.own hown
    obtain ⟨ad, cap, rfl⟩ := own_shape hown
    have HS := Lib.hid hsl
    have HD := Lib.hid hdb
    have HK := Lib.hid hk
    clear hown hk hsl hmlt hm hdb hlk
    go_wp2_with fail
    refine (one10 size scale l _ wr (HL.out.1.kept HK.out) HL.out.2.1).mono ?_
    rintro e w1 ⟨cs, asked, rfl, h11, hone, hk1, h⟩
    have HK1 := Lib.hid (HK.out.trans hk1)
    have H26 := Lib.hid (MapKept.heap_alloc w1 (.cells exZero.toArray 26)).1
    have HC := Lib.hid (And.intro h11 (And.intro hone (show exZero.toArray.size = cs.toArray.size from by rw [List.size_toArray, List.size_toArray, h11]; rfl)))
    obtain ⟨W2, hW2⟩ : ∃ W, W = (w1.alloc (.cells exZero.toArray 26)).setRow w1.heap.size cs.toArray := ⟨_, rfl⟩
    have hk2 : Kept [] w1 W2 := by rw [hW2]; exact setRow_kept ((Kept.refl _ _).alloc _) (.inr (Nat.le_refl _))
    have HS2 := Lib.hid (HS.out.kept (hk1.trans hk2))
    have HK2 := Lib.hid (HK1.out.trans hk2)
    obtain ⟨P, hP⟩ : ∃ P, P = w1.heap.size := ⟨_, rfl⟩
    have hpt : asked = true → ∃ s r mn mx pa na ca pb nb cb, PtKnow size scale l s mn mx ∧ PtMem W2 P s l.length r mn mx pa na ca pb nb cb := by
      intro ha
      rcases h with ⟨h', _⟩ | ⟨_, hask, hone'⟩
      · rw [ha] at h'; cases h'
      · rw [hW2, hP]; exact hone'.lay hask
    have HP1 := Lib.hid hpt
    clear h11 hone hk1 hk2 h hpt HK1 HS HK
    go_upto_region 13 with (refine wpList_store_row rfl 26 _ _ rfl w1.heap.size _ rfl rfl 26 exZero.toArray H26.out (sz26 HC.out.1) HC.out.2.2 HC.out.2.1 ?_)
    rw [show ((w1.alloc (.cells #[.bool false, .int .u64 0, .int .u64 0, .int .u64 0, .int .u64 0, .int .i32 0, .int .u64 0, .int .i32 0, .slice none 0 0, .int .i32 0, .slice none 0 0] 26)).setRow w1.heap.size cs.toArray) = W2 from hW2.symm]
    clear hW2 H26 HC
    rw [← hP]
    clear hP
    go_wp2_with fail
    refine (one10 size scale k _ W2 HS2.out HD.out.lt).mono ?_
    rintro e w3 ⟨cs2, also, rfl, h11, hone, hk3, h⟩
    have H26 := Lib.hid (MapKept.heap_alloc w3 (.cells exZero.toArray 26)).1
    have HC := Lib.hid (And.intro h11 (And.intro hone (show exZero.toArray.size = cs2.toArray.size from by rw [List.size_toArray, List.size_toArray, h11]; rfl)))
    obtain ⟨W4, hW4⟩ : ∃ W, W = (w3.alloc (.cells exZero.toArray 26)).setRow w3.heap.size cs2.toArray := ⟨_, rfl⟩
    have hk4 : Kept [] w3 W4 := by rw [hW4]; exact setRow_kept ((Kept.refl _ _).alloc _) (.inr (Nat.le_refl _))
    have HK4 := Lib.hid (HK2.out.trans (hk3.trans hk4))
    have HK24 := Lib.hid (hk3.trans hk4)
    obtain ⟨Q, hQ⟩ : ∃ Q, Q = w3.heap.size := ⟨_, rfl⟩
    have hpt : also = true → ∃ s r mn mx pa na ca pb nb cb, PtKnow size scale k s mn mx ∧ PtMem W4 Q s k.length r mn mx pa na ca pb nb cb := by
      intro ha
      rcases h with ⟨h', _⟩ | ⟨_, hask, hone'⟩
      · rw [ha] at h'; cases h'
      · rw [hW4, hQ]; exact hone'.lay hask
    have HP2 := Lib.hid hpt
    clear h11 hone hk3 hk4 h hpt HK2 HS2
    go_upto_region 14 with (refine wpList_store_row rfl 26 _ _ rfl w3.heap.size _ rfl rfl 26 exZero.toArray H26.out (sz26 HC.out.1) HC.out.2.2 HC.out.2.1 ?_)
    rw [show ((w3.alloc (.cells #[.bool false, .int .u64 0, .int .u64 0, .int .u64 0, .int .u64 0, .int .i32 0, .int .u64 0, .int .i32 0, .slice none 0 0, .int .i32 0, .slice none 0 0] 26)).setRow w3.heap.size cs2.toArray) = W4 from hW4.symm]
    clear hW4 H26 HC
    rw [← hQ]
    clear hQ
    by_cases hb : asked = true ∧ also = true
    case neg =>
      have hcase : asked = false ∨ (asked = true ∧ also = false) := by cases asked <;> cases also <;> simp_all
      clear hb
      rcases hcase with rfl | ⟨rfl, rfl⟩
      all_goals
        go_wp2_with fail
        refine (awake _).mono ?_; rintro e w9 ⟨rfl, hk9⟩
        have HK9 := Lib.hid (HK4.out.trans hk9)
        clear hk9
        go_wp2_with fail
        go_ret
        exact ⟨rfl, HK9.out⟩
    obtain ⟨rfl, rfl⟩ := hb
    obtain ⟨s, r, mn, mx, pa, na, ca, pb, nb, cb, hkn, hpm0⟩ := HP1.out rfl
    obtain ⟨s2, r2, mn2, mx2, pa2, na2, ca2, pb2, nb2, cb2, hkn2, B⟩ := HP2.out rfl
    have A := hpm0.kept HK24.out
    obtain ⟨hdin, hkd⟩ := HD.out.dbl HL.out.2.1 hkn.ask.2.2.2.fin
    obtain ⟨b, hbk⟩ := hkn.bk
    obtain ⟨b2, hbk2⟩ := hkn2.bk
    rw [hkd] at hbk2
    have a5 := A.c5; have a7 := A.c7; have a8 := A.c8; have a9 := A.c9; have a10 := A.c10
    have b5 := B.c5; have b7 := B.c7; have b8 := B.c8; have b9 := B.c9; have b10 := B.c10
    have HA := Lib.hid (And.intro A.sa (And.intro A.sb (And.intro A.la A.lb)))
    have HB := Lib.hid (And.intro B.sa B.sb)
    have HLM := Lib.hid (And.intro hkn.lim hkn2.lim)
    have HDB := Lib.hid (fun h1 h2 => hbk.dbl hbk2 HL.out.2.1 hdin h1 h2)
    clear A B hbk hbk2 hkn hkn2 hpm0 HK24 HP1 HP2 hdin hkd
    obtain ⟨sc, hsc⟩ : ∃ z, z = s.sc := ⟨_, rfl⟩
    obtain ⟨sc2, hsc2⟩ : ∃ z, z = s2.sc := ⟨_, rfl⟩
    rw [← hsc] at a5
    rw [← hsc2] at b5
    have HSC := Lib.hid (And.intro hsc hsc2)
    clear hsc hsc2
    by_cases h0 : sc < 0
    · have d0 : decide (sc < 0) = true := decide_eq_true h0
      go_wp2_with fail
      refine (awake _).mono ?_; rintro e w9 ⟨rfl, hk9⟩
      have HK9 := Lib.hid (HK4.out.trans hk9)
      clear hk9
      go_wp2_with fail
      go_ret
      exact ⟨rfl, HK9.out⟩
    have d0 : decide (sc < 0) = false := decide_eq_false h0
    by_cases he : sc2 = sc
    case neg =>
      have d1 : (sc2 != sc) = true := by simpa using he
      go_wp2_with fail
      refine (awake _).mono ?_; rintro e w9 ⟨rfl, hk9⟩
      have HK9 := Lib.hid (HK4.out.trans hk9)
      clear hk9
      go_wp2_with fail
      go_ret
      exact ⟨rfl, HK9.out⟩
    subst he
    obtain ⟨g1, g2, g3, g4⟩ := HDB.out (by rw [← HSC.out.1, ← HSC.out.2]) (by rw [← HSC.out.1]; omega)
    rw [← HSC.out.1] at g3 g4
    have hle : sc2 ≤ 20 := by have := HLM.out.1.sc2; have := HSC.out.1; omega
    have hpow : (2 : Int) ^ sc2.toNat ≤ 1048576 := by
      have : (2 : Nat) ^ sc2.toNat ≤ 2 ^ 20 := Nat.pow_le_pow_right (by decide) (by omega)
      have h2 : ((2 ^ sc2.toNat : Nat) : Int) = (2 : Int) ^ sc2.toNat := by push_cast; rfl
      omega
    have hpow0 : (0 : Int) < (2 : Int) ^ sc2.toNat := Int.pow_pos (by decide)
    obtain ⟨by_, hby⟩ : ∃ z, z = (2 : Int) ^ sc2.toNat := ⟨_, rfl⟩
    have hw : IntKind.i32.wrap ((2 : Int) ^ sc2.toNat) = by_ := by rw [← hby] at hpow hpow0 ⊢; exact IntWalk.i32_in _ (by omega)
    go_wp2_with fail
    try rw [← hby]
    refine (awake _).mono ?_; rintro e w7 ⟨rfl, hk⟩
    have k : ∀ (B : Nat) i v, W4.cell? ⟨B, i, none⟩ = some v → w7.cell? ⟨B, i, none⟩ = some v := fun B i v h => (hk.cell (cell_lt h) (by simp)).trans h
    replace a5 := k _ _ _ a5; replace a7 := k _ _ _ a7; replace a8 := k _ _ _ a8; replace a9 := k _ _ _ a9; replace a10 := k _ _ _ a10
    replace b5 := k _ _ _ b5; replace b7 := k _ _ _ b7; replace b8 := k _ _ _ b8; replace b9 := k _ _ _ b9; replace b10 := k _ _ _ b10
    replace HA := Lib.hid (And.intro (HA.out.1.kept hk) (And.intro (HA.out.2.1.kept hk) HA.out.2.2))
    replace HB := Lib.hid (And.intro (HB.out.1.kept hk) (HB.out.2.kept hk))
    have HK7 := Lib.hid (HK4.out.trans hk)
    obtain ⟨ps, hps⟩ : ∃ z, z = s.ps := ⟨_, rfl⟩
    obtain ⟨ns, hns⟩ : ∃ z, z = s.ns := ⟨_, rfl⟩
    obtain ⟨ps2, hps2⟩ : ∃ z, z = s2.ps := ⟨_, rfl⟩
    obtain ⟨ns2, hns2⟩ : ∃ z, z = s2.ns := ⟨_, rfl⟩
    have hby' : (((2 ^ sc2.toNat : Nat) : Int)) = by_ := by rw [hby]; push_cast; rfl
    rw [hby', ← hps, ← hps2] at g3
    rw [hby', ← hns, ← hns2] at g4
    have q1 : -1130000000 ≤ ps ∧ ps ≤ 1130000000 := by rw [hps]; exact ⟨HLM.out.1.p1, HLM.out.1.p2⟩
    have q2 : -1130000000 ≤ ns ∧ ns ≤ 1130000000 := by rw [hns]; exact ⟨HLM.out.1.n1, HLM.out.1.n2⟩
    have x1 : IntKind.i32.wrap (ps + by_) = ps + by_ := IntWalk.i32_in _ (by rw [← hby] at hpow hpow0; omega)
    have x2 : IntKind.i32.wrap (ns + by_) = ns + by_ := IntWalk.i32_in _ (by rw [← hby] at hpow hpow0; omega)
    rw [← hps] at a7; rw [← hns] at a9; rw [← hps2] at b7; rw [← hns2] at b9
    have G := Lib.hid (And.intro g1 (And.intro g2 (And.intro g3 g4)))
    clear k hk HK4 hpow hpow0 hby hw g1 g2 g3 g4 hps hns hps2 hns2 q1 q2 hby' HDB hle HD HL
    have F1 := Lib.hid (equal13 s.pl s2.pl (.slice pa na ca) (.slice pa2 na2 ca2) w7 HA.out.1 HB.out.1 (by have := HLM.out.1.pl; omega))
    rw [decide_eq_true G.out.1] at F1
    by_cases ha : na = 0 <;> by_cases hb : nb = 0
    all_goals
      first
        | (subst ha; have t1 : True := trivial)
        | (have t1 : (((na : Nat) : Int) == 0) = false := by rw [beq_eq_false_iff_ne]; omega
           have t1' : ps2 = ps + by_ := G.out.2.2.1 (fun e => ha (by rw [HA.out.2.2.1, e]; rfl))
           subst t1')
      first
        | (subst hb; have t2 : True := trivial)
        | (have t2 : (((nb : Nat) : Int) == 0) = false := by rw [beq_eq_false_iff_ne]; omega
           have t2' : ns2 = ns + by_ := G.out.2.2.2 (fun e => hb (by rw [HA.out.2.2.2, e]; rfl))
           subst t2')
      go_wp2_with fail
      refine F1.out.mono ?_; rintro e w8 ⟨rfl, hk⟩
      have k : ∀ (B : Nat) i v, w7.cell? ⟨B, i, none⟩ = some v → w8.cell? ⟨B, i, none⟩ = some v := fun B i v h => (hk.cell (cell_lt h) (by simp)).trans h
      replace a5 := k _ _ _ a5; replace a7 := k _ _ _ a7; replace a8 := k _ _ _ a8; replace a9 := k _ _ _ a9; replace a10 := k _ _ _ a10
      replace b5 := k _ _ _ b5; replace b7 := k _ _ _ b7; replace b8 := k _ _ _ b8; replace b9 := k _ _ _ b9; replace b10 := k _ _ _ b10
      have F2 := Lib.hid (equal13 s.nl s2.nl _ _ w8 (HA.out.2.1.kept hk) (HB.out.2.kept hk) (by have := HLM.out.1.nl; omega))
      rw [decide_eq_true G.out.2.1] at F2
      have HK8 := Lib.hid (HK7.out.trans hk)
      clear k hk HK7 F1
      go_wp2_with fail
      refine F2.out.mono ?_; rintro e w9 ⟨rfl, hk⟩
      have k : ∀ (B : Nat) i v, w8.cell? ⟨B, i, none⟩ = some v → w9.cell? ⟨B, i, none⟩ = some v := fun B i v h => (hk.cell (cell_lt h) (by simp)).trans h
      replace a5 := k _ _ _ a5; replace a7 := k _ _ _ a7; replace a8 := k _ _ _ a8; replace a9 := k _ _ _ a9; replace a10 := k _ _ _ a10
      replace b5 := k _ _ _ b5; replace b7 := k _ _ _ b7; replace b8 := k _ _ _ b8; replace b9 := k _ _ _ b9; replace b10 := k _ _ _ b10
      have HK9 := Lib.hid (HK8.out.trans hk)
      clear k hk HK8 F2
      go_wp2_with fail
      go_ret
      exact ⟨rfl, HK9.out⟩
end Go.Proofs.YtlpddogcnpokfaaGreat
