/- FnExpoSigns: the walk of the law. -/
import Derived.Test.YtlpddogcnpokfaaGreatPm
namespace Go.Proofs.YtlpddogcnpokfaaGreat
open Go.RowKit Go.Maps
theorem Asked.neg {size scale : Int} {l : List Nat} (h : Asked size scale l) : Asked size scale (l.map negF) :=
  ⟨h.1, by rw [List.length_map]; exact h.2.1, fun e => h.2.2.1 (List.map_eq_nil_iff.1 e), h.2.2.2.neg⟩
theorem neg_run (x : Nat) (w : World) : (Op.unary .neg (.float .f64 x)).run Tryz.prog w = .ok (.float .f64 (negF x)) w := by kernel_rfl
set_option maxHeartbeats 2000000 in
set_option maxRecDepth 100000 in
theorem signs6 (size scale : Int) (l : List Nat) (V : Value) (w : World) (hl : SlAt w V (l.map Fl)) (hlt : ∀ v, v ∈ l → v < 18446744073709551616) : Calls Tryz.prog 6 #[.int .i32 size, .int .i32 scale, V] w (LawT w) := by
  obtain ⟨p, c, rfl, hp⟩ := hl.read
  rw [List.length_map] at *
  by_cases hbig : (2147483647 : Int) < (l.length : Int)
  · clear hp
    go_enter Tryz.func6, Tryz.ntmps6
    go_wp2_with fail
    go_ret
    exact ⟨rfl, Kept.refl _ _⟩
  have hbg : decide ((2147483647 : Int) < (l.length : Int)) = false := decide_eq_false hbig
  have HL := Lib.hid (And.intro hl (And.intro hlt hp))
  clear hbig hl hlt hp
  go_enter Tryz.func6, Tryz.ntmps6
  go_wp2_with fail
  refine (one10 size scale l _ w HL.out.1 HL.out.2.1).mono ?_
  rintro e w1 ⟨cs, asked, rfl, h11, hone, hk1, h⟩
  have HK1 := Lib.hid hk1
  have H26 := Lib.hid (MapKept.heap_alloc w1 (.cells exZero.toArray 26)).1
  have HC := Lib.hid (And.intro h11 (And.intro hone (show exZero.toArray.size = cs.toArray.size from by rw [List.size_toArray, List.size_toArray, h11]; rfl)))
  have HK2 := Lib.hid (show Kept [] w1 ((w1.alloc (.cells exZero.toArray 26)).setRow w1.heap.size cs.toArray) from setRow_kept ((Kept.refl _ _).alloc _) (.inr (Nat.le_refl _)))
  clear h11 hone hk1
  cases asked
  · clear h
    go_wp2_with (refine wpList_store_row rfl 26 _ _ rfl w1.heap.size cs.toArray rfl rfl 26 exZero.toArray H26.out (sz26 HC.out.1) HC.out.2.2 HC.out.2.1 ?_)
    refine (awake _).mono ?_; rintro e w3 ⟨rfl, hk⟩
    have HK3 := Lib.hid (HK1.out.trans (HK2.out.trans hk))
    clear hk
    go_wp2_with fail
    go_ret
    exact ⟨rfl, HK3.out⟩
  · obtain ⟨hask, hone⟩ : Asked size scale l ∧ OneIs w1 size scale l cs := by
      rcases h with ⟨h, _⟩ | ⟨_, h⟩
      · cases h
      · exact h
    clear h
    obtain ⟨s, r, mn, mx, pa, na, ca, pb, nb, cb, hkn, hpm⟩ := hone.lay hask
    obtain ⟨W2, hW2⟩ : ∃ W, W = (w1.alloc (.cells exZero.toArray 26)).setRow w1.heap.size cs.toArray := ⟨_, rfl⟩
    rw [← hW2] at hpm HK2
    obtain ⟨P, hP⟩ : ∃ P, P = w1.heap.size := ⟨_, rfl⟩
    rw [← hP] at hpm
    have HM := Lib.hid (And.intro hkn hpm)
    have HK3 := Lib.hid (HK1.out.trans HK2.out)
    clear hask hone hkn hpm HK1 HK2
    go_upto_region 6 with (refine wpList_store_row rfl 26 _ _ rfl w1.heap.size _ rfl rfl 26 exZero.toArray H26.out (sz26 HC.out.1) HC.out.2.2 HC.out.2.1 ?_)
    rw [show ((w1.alloc (.cells #[.bool false, .int .u64 0, .int .u64 0, .int .u64 0, .int .u64 0, .int .i32 0, .int .u64 0, .int .i32 0, .slice none 0 0, .int .i32 0, .slice none 0 0] 26)).setRow w1.heap.size cs.toArray) = W2 from hW2.symm]
    clear hW2 H26 HC
    rw [← hP]
    clear hP
    obtain ⟨i0, hi, hz0, hz1, hz2⟩ := info32
    have HI := Lib.hid (And.intro hi (And.intro hz0 (And.intro hz1 hz2)))
    clear hi hz0 hz1 hz2
    go_wp2_with fail
    go_loopw [10, 32] (fun o i wr => ∃ m : Nat, m ≤ l.length ∧ i = .int .i64 (m : Int) ∧ wr.ownsRow W2.heap.size 32 1 o m (((l.take m).map negF).map Fl) ∧ Kept [] W2 wr) (fun _ i _ => l.length - (intOf i).toNat)
    case atStart => exact ⟨0, by omega, rfl, ⟨rfl, .inl ⟨rfl, rfl⟩⟩, Kept.refl _ _⟩
    case round =>
    obtain ⟨m, hm, rfl, hown, hk⟩ := hrel
    by_cases hmlt : m < l.length
    · obtain ⟨x, hx⟩ : ∃ x, x = l.getD m 0 := ⟨_, rfl⟩
      have hlm : (l.map Fl)[m]? = some (Fl x) := by rw [List.getElem?_map, List.getElem?_eq_getElem hmlt, hx, List.getD_eq_getElem?_getD, List.getElem?_eq_getElem hmlt]; rfl
      obtain ⟨a1, rfl, hcx⟩ := HL.out.2.2 m _ hlm
      have hcell : wr.cell? (a1.add m) = some (.float .f64 x) := (cellKept hk (by
        have := HK3.out.size
        have h2 := cell_lt hcx
        rw [Addr_add_block] at h2 ⊢; omega) (by simp)).trans ((cellKept HK3.out (cell_lt hcx) (by simp)).trans hcx)
      have hnext : ((l.take m).map negF).map Fl ++ [.float .f64 (negF x)] = ((l.take (m + 1)).map negF).map Fl := by
        rw [List.take_succ_eq_append_getElem hmlt, List.map_append, List.map_append, hx, List.getD_eq_getElem?_getD, List.getElem?_eq_getElem hmlt]; rfl
      have hng := neg_run x wr
      have HN := Lib.hid hnext
      have HK := Lib.hid hk
      have HO := Lib.hid hown
      have hbase := Lib.hid hk.size
      have h60 : l.length ≤ 60 := HM.out.1.ask.2.1
      clear hx hlm hnext hk hown hcx
      have w7 : (m : Int) < (l.length : Int) := by omega
      have w1 : IntKind.i64.wrap ((m : Int) + 1) = (m : Int) + 1 := IntWalk.i64_in _ (by omega)
      go_wp2_with (at_builtin; refine wpList_append_own_at _ rfl _ _ 22 rfl W2.heap.size 32 i0 (.float .f64 0) 1 8 Tryz.underlying22 HI.out.1 HI.out.2.1 HI.out.2.2.1 HI.out.2.2.2 rfl (by decide) _ _ _ rfl (HO.out.alloc _) ⟨wr.heap.size, 0, none⟩ 1 1 [.float .f64 (negF x)] rfl rfl (cell_one_new _ _ _) (fun u hu => by simp at hu; subst hu; rfl) (by unfold maxLen; omega) (by omega) (by have := hbase.out; simp; omega) ?_; intro v' wn hown' hgrow hnil hat)
      go_roundw
      case rel => exact ⟨m + 1, by omega, by go_num, by rw [← HN.out]; exact hown', own_kept HK.out HO.out hgrow⟩
      case measure => simp [intOf]; omega
    · have hml : m = l.length := by omega
      subst hml
      rw [List.take_length] at hown
      have hji : ¬ (l.length : Int) < (l.length : Int) := by omega
      have hsl : SlAt wr u10 ((l.map negF).map Fl) := SlAt.own hown
      obtain ⟨ad, cap, rfl⟩ := own_shape hown
      have HS := Lib.hid hsl
      have HK4 := Lib.hid (HK3.out.trans hk)
      have HM2 := Lib.hid (HM.out.2.kept hk)
      clear hown hk hsl hmlt hm
      go_wp2_with fail
      refine (one10 size scale (l.map negF) _ wr HS.out (fun v hv => by obtain ⟨u, hu, rfl⟩ := List.mem_map.1 hv; exact negF_lt u (HL.out.2.1 u hu))).mono ?_
      rintro e w5 ⟨cs2, asked, rfl, h11, hone, hk5, h⟩
      obtain ⟨rfl, hask2, hone2⟩ : asked = true ∧ Asked size scale (l.map negF) ∧ OneIs w5 size scale (l.map negF) cs2 := by
        rcases h with ⟨_, h⟩ | h
        · exact absurd HM.out.1.ask.neg h
        · exact h
      clear h
      have H26 := Lib.hid (MapKept.heap_alloc w5 (.cells exZero.toArray 26)).1
      have HC := Lib.hid (And.intro h11 (And.intro hone (show exZero.toArray.size = cs2.toArray.size from by rw [List.size_toArray, List.size_toArray, h11]; rfl)))
      obtain ⟨s2, r2, mn2, mx2, pa2, na2, ca2, pb2, nb2, cb2, hkn2, hpm2⟩ := hone2.lay hask2
      obtain ⟨W6, hW6⟩ : ∃ W, W = (w5.alloc (.cells exZero.toArray 26)).setRow w5.heap.size cs2.toArray := ⟨_, rfl⟩
      rw [← hW6] at hpm2
      have hk56 : Kept [] w5 W6 := by rw [hW6]; exact setRow_kept ((Kept.refl _ _).alloc _) (.inr (Nat.le_refl _))
      obtain ⟨Q, hQ⟩ : ∃ Q, Q = w5.heap.size := ⟨_, rfl⟩
      rw [← hQ] at hpm2
      have HM3 := Lib.hid (HM2.out.kept (hk5.trans hk56))
      have HM4 := Lib.hid hpm2
      have HKN := Lib.hid hkn2
      have HK6 := Lib.hid (HK4.out.trans (hk5.trans hk56))
      clear h11 hone hone2 hask2 hkn2 hpm2 hk5 hk56 HM2 HK4 HS
      go_upto_region 13 with (refine wpList_store_row rfl 26 _ _ rfl w5.heap.size _ rfl rfl 26 exZero.toArray H26.out (sz26 HC.out.1) HC.out.2.2 HC.out.2.1 ?_)
      rw [show ((w5.alloc (.cells #[.bool false, .int .u64 0, .int .u64 0, .int .u64 0, .int .u64 0, .int .i32 0, .int .u64 0, .int .i32 0, .slice none 0 0, .int .i32 0, .slice none 0 0] 26)).setRow w5.heap.size cs2.toArray) = W6 from hW6.symm]
      clear hW6 H26 HC
      rw [← hQ]
      clear hQ
      go_wp2_with fail
      refine (awake _).mono ?_; rintro e w7 ⟨rfl, hk⟩
      have A := HM3.out.kept hk
      have B := HM4.out.kept hk
      obtain ⟨b, hbk⟩ := HM.out.1.bk
      obtain ⟨b2, hbk2⟩ := HKN.out.bk
      obtain ⟨e1, e2, e3, e4, e5, e6⟩ := hbk.neg hbk2 HL.out.2.1 HM.out.1.ask.2.2.2.fin
      have a5 := A.c5; have a6 := A.c6; have a7 := A.c7; have a8 := A.c8; have a9 := A.c9; have a10 := A.c10
      have b5 := B.c5; have b6 := B.c6; have b7 := B.c7; have b8 := B.c8; have b9 := B.c9; have b10 := B.c10
      rw [← e1] at b5; rw [← e2] at b6; rw [← e5] at b7; rw [← e3] at b9
      have HA := Lib.hid (And.intro A.sa (And.intro A.sb (And.intro A.la A.lb)))
      have HB := Lib.hid (And.intro B.sa (And.intro B.sb (And.intro e4 e6)))
      have HLM := Lib.hid HM.out.1.lim
      have HK7 := Lib.hid (HK6.out.trans hk)
      obtain ⟨sc, hsc⟩ : ∃ z, z = s.sc := ⟨_, rfl⟩
      obtain ⟨zc, hzc⟩ : ∃ z, z = s.zc := ⟨_, rfl⟩
      obtain ⟨ps, hps⟩ : ∃ z, z = s.ps := ⟨_, rfl⟩
      obtain ⟨ns, hns⟩ : ∃ z, z = s.ns := ⟨_, rfl⟩
      rw [← hsc] at a5 b5; rw [← hzc] at a6 b6; rw [← hps] at a7 b9; rw [← hns] at a9 b7
      clear A B hbk hbk2 e1 e2 e3 e4 e5 e6 hsc hzc hps hns hk HK6 HM HM3 HM4 HKN HK3 HI
      have F1 := Lib.hid (equal13 s.pl s2.nl (.slice pa na ca) (.slice pb2 nb2 cb2) w7 HA.out.1 HB.out.2.1 (by have := HLM.out.pl; omega))
      rw [decide_eq_true HB.out.2.2.1] at F1
      by_cases ha : na = 0 <;> by_cases hb : nb = 0
      all_goals
        first
          | (subst ha; have g1 : True := trivial)
          | (have g1 : (((na : Nat) : Int) == 0) = false := by rw [beq_eq_false_iff_ne]; omega)
        first
          | (subst hb; have g2 : True := trivial)
          | (have g2 : (((nb : Nat) : Int) == 0) = false := by rw [beq_eq_false_iff_ne]; omega)
        go_wp2_with fail
        refine F1.out.mono ?_; rintro e w8 ⟨rfl, hk⟩
        have k : ∀ (B : Nat) i v, w7.cell? ⟨B, i, none⟩ = some v → w8.cell? ⟨B, i, none⟩ = some v := fun B i v h => (hk.cell (cell_lt h) (by simp)).trans h
        replace a5 := k _ _ _ a5; replace a6 := k _ _ _ a6; replace a7 := k _ _ _ a7; replace a8 := k _ _ _ a8; replace a9 := k _ _ _ a9; replace a10 := k _ _ _ a10
        replace b5 := k _ _ _ b5; replace b6 := k _ _ _ b6; replace b7 := k _ _ _ b7; replace b8 := k _ _ _ b8; replace b9 := k _ _ _ b9; replace b10 := k _ _ _ b10
        have F2 := Lib.hid (equal13 s.nl s2.pl _ _ w8 (HA.out.2.1.kept hk) (HB.out.1.kept hk) (by have := HLM.out.nl; omega))
        rw [decide_eq_true HB.out.2.2.2] at F2
        have HK8 := Lib.hid (HK7.out.trans hk)
        clear k hk HK7 F1
        go_wp2_with fail
        refine F2.out.mono ?_; rintro e w9 ⟨rfl, hk⟩
        have k : ∀ (B : Nat) i v, w8.cell? ⟨B, i, none⟩ = some v → w9.cell? ⟨B, i, none⟩ = some v := fun B i v h => (hk.cell (cell_lt h) (by simp)).trans h
        replace a5 := k _ _ _ a5; replace a6 := k _ _ _ a6; replace a7 := k _ _ _ a7; replace a8 := k _ _ _ a8; replace a9 := k _ _ _ a9; replace a10 := k _ _ _ a10
        replace b5 := k _ _ _ b5; replace b6 := k _ _ _ b6; replace b7 := k _ _ _ b7; replace b8 := k _ _ _ b8; replace b9 := k _ _ _ b9; replace b10 := k _ _ _ b10
        have HK9 := Lib.hid (HK8.out.trans hk)
        clear k hk HK8 F2
        go_wp2_with fail
        go_ret
        exact ⟨rfl, HK9.out⟩
end Go.Proofs.YtlpddogcnpokfaaGreat
