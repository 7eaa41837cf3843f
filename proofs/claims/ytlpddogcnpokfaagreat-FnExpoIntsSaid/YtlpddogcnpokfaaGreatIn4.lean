/- The int64 instances: delta with one point. -/
import Derived.Test.YtlpddogcnpokfaaGreatIn3
namespace Go.Proofs.YtlpddogcnpokfaaGreat.I
open Go.RowKit

set_option maxHeartbeats 4000000 in
set_option maxRecDepth 100000 in
theorem delta60_one (h b q d n c fb z mn mx : Nat) (ni ms S : Int) (s : Bk) (og oh : Option Nat) (w : World)
    (hh : w.heap[h]? = some (.cells (hgCells ms S b (.int .i64 0)) 173 (0, 0))) (hb : w.heap[b]? = some (.map #[⟨.agg #[.int .u64 H0], .pointer (some ⟨d, 0, none⟩), n⟩] c)) (hnc : n < c)
    (hd : DpAt w d (some (mn, mx)) fb ni ms s og oh) (hz0 : w.cell? ⟨d, 0, none⟩ = some (.int .u64 H0)) (hz1 : w.cell? ⟨d, 1, none⟩ = some (.slice (some ⟨z, 0, none⟩) 0 0))
    (hq : w.cell? ⟨q, 0, none⟩ = some .nilIface) (hqf : w.frozen? ⟨q, 0, none⟩ = false) (hqb : q ≠ b) (hqh : q ≠ h) (hhb : h ≠ b) (hlp : s.pl.length ≤ 1000) (hln : s.nl.length ≤ 1000) (hsm : s.pl.sum + s.nl.sum + s.zc < 4611686018427387904) :
    Calls Tryz.prog 54 #[.pointer (some ⟨h, 0, none⟩), .pointer (some ⟨q, 0, none⟩)] w fun e w' => e = .returned (.int .i64 1) ∧ ∃ g r vp vn, SumRd fb ni r ∧
      w'.heap[g]? = some (.cells (ptCells z (s.pl.sum + s.nl.sum + s.zc) mn mx r s vp vn) 116 (0, 0)) ∧ NumAt w' vp s.pl ∧ NumAt w' vn s.nl ∧ w'.heap[b]? = some (.map #[] c) ∧ Kept [q, b] w w' ∧
      w'.cell? ⟨q, 0, none⟩ = some (.iface 106 (.agg #[.slice (some ⟨g, 0, none⟩) 1 1, .int .u8 2])) := by
  have ha := as125_nil
  have hk := mk125
  unfold hgAgg0 at ha
  have HH := Lib.hid hh
  have HB := Lib.hid hb
  have HD := Lib.hid hd
  have HZ := Lib.hid (And.intro hz0 hz1)
  have HL := Lib.hid (And.intro hlp (And.intro hln hsm))
  have hql := cell_lt hq
  have HXL := Lib.hid (And.intro (heap_lt hh) (And.intro (heap_lt hb) hd.lt))
  clear hh hb hd hz0 hz1 hlp hln hsm
  go_enter_defers Tryz.func54, Tryz.ntmps54
  refine Code.wp_mono (fun _ _ _ => quietEnd_le) ?_
  go_wp2_with fail
  refine (now64 _).mono ?_; rintro e w1 ⟨rfl, hk1⟩
  have c1 : w1.cell? ⟨q, 0, none⟩ = some .nilIface := (hk1.cell hql (by simp)).trans hq
  have f1 : w1.frozen? ⟨q, 0, none⟩ = false := (hk1.frozen hql (by simp)).trans hqf
  have hl1 : q < w1.heap.size := cell_lt c1
  have hn1 : q ≠ w1.heap.size := by omega
  have K1 := Lib.hid hk1
  clear hk1 hq hqf
  obtain ⟨W2, hW2⟩ : ∃ W2, W2 = (w1.alloc (.cells #[.int .i64 0] 109)).alloc (.cells #[.slice none 0 0, .int .u8 2] 106) := ⟨_, rfl⟩
  have K2 := Lib.hid (show Kept [] w W2 by rw [hW2]; exact ((K1.out.alloc _).alloc _))
  have hh2 := K2.out.obj HH.out (by simp)
  have hpa := part212 W2 h _ _ hh2
  have c2 : W2.cell? ⟨q, 0, none⟩ = some .nilIface := by rw [hW2]; go_simp
  have f2 : W2.frozen? ⟨q, 0, none⟩ = false := by rw [hW2]; go_simp
  have t0 : W2.cell? ⟨w1.heap.size, 0, none⟩ = some (.int .i64 0) := by rw [hW2]; go_simp
  have a0 : W2.cell? ⟨w1.heap.size + 1, 0, none⟩ = some (.slice none 0 0) := by rw [hW2]; go_simp
  have a1 : W2.cell? ⟨w1.heap.size + 1, 1, none⟩ = some (.int .u8 2) := by rw [hW2]; go_simp
  have b0 : W2.frozen? ⟨w1.heap.size + 1, 0, none⟩ = false := by rw [hW2]; go_simp
  have c5 : W2.cell? ⟨h, 5, none⟩ = some (.map (some b)) := by unfold World.cell? hgCells at *; simp [hh2]
  have hb2 := K2.out.obj HB.out (by simp)
  have hlen := len210 b c _ W2 hb2
  have hpb := hpa
  rw [hW2] at hpb
  have hsz2 : W2.heap.size = w1.heap.size + 2 := by rw [hW2]; simp
  have HSZ := Lib.hid hsz2
  have HH2 := Lib.hid hh2
  have HB2 := Lib.hid hb2
  have hbx : w.heap.size ≤ w1.heap.size := by have := K1.out.size; omega
  clear hh2 hb2 hsz2
  go_wp2_with fail
  rw [← hW2]
  refine (lock68 _ _).mono ?_; rintro e w' ⟨rfl, rfl⟩
  clear hW2 c1 f1 hl1 hn1 hpb
  go_wp2_with fail
  refine (reset97_one _).mono ?_; rintro e W3 ⟨rfl, hW3⟩
  clear hpa hlen
  -- the point's block is g, the iterator's r
  obtain ⟨g, hg⟩ : ∃ g, g = W2.heap.size := ⟨_, rfl⟩
  have hg3 : W3.heap[g]? = some (.cells zeroPt 116 (0, 0)) := by rw [← hW3, hg]; exact alloc_new _ _
  have K3 := Lib.hid (show Kept [] W2 W3 by rw [← hW3]; exact (Kept.refl _ _).alloc _)
  have hs3 : W3.heap.size = g + 1 := by rw [← hW3, hg]; simp
  have hb3 := K3.out.obj HB2.out (by simp)
  obtain ⟨W4, hW4⟩ : ∃ W4, W4 = W3.alloc (.mapIter (some b) c #[] c) := ⟨_, rfl⟩
  have hrng := range210 b c _ W3 hb3
  rw [← hW4, hs3] at hrng
  have K4 := Lib.hid (show Kept [] W3 W4 by rw [hW4]; exact (Kept.refl _ _).alloc _)
  have hr4 : W4.heap[g + 1]? = some (.mapIter (some b) c #[] c) := by rw [hW4, ← hs3]; exact alloc_new _ _
  have hs4 : W4.heap.size = g + 2 := by rw [hW4, alloc_size, hs3]
  have hb4 := K4.out.obj hb3 (by simp)
  have hnx := next210_one b (g + 1) c n _ _ W4 hb4 hr4 hnc
  obtain ⟨W5, hW5⟩ : ∃ W5, W5 = putObj W4 (g + 1) (.mapIter (some b) c #[n] c) := ⟨_, rfl⟩
  rw [← hW5] at hnx
  have K5 := Lib.hid (show Kept [] W3 W5 by rw [hW5]; exact putObj_kept K4.out (.inr (by omega)) _)
  have hr5 : W5.heap[g + 1]? = some (.mapIter (some b) c #[n] c) := by rw [hW5]; exact putObj_at (by omega) _
  have hs5 : W5.heap.size = g + 2 := by rw [hW5, putObj_size, hs4]
  have hb5 := K5.out.obj hb3 (by simp)
  have hen := entry210 b (g + 1) c n _ _ W5 hb5 hr5
  have K25 := Lib.hid (K3.out.trans K5.out)
  have K05 := Lib.hid (K2.out.trans K25.out)
  have G5 := Lib.hid (show Got W5 g zeroPt W5 from ⟨K5.out.obj hg3 (by simp), Kept.refl _ _⟩)
  -- what lies there as the round begins
  have D5 := Lib.hid (HD.out.kept K05.out)
  have HH5 := Lib.hid (K25.out.obj HH2.out (by simp))
  obtain ⟨l1, l2, l3⟩ := HXL.out
  have hgt : w.heap.size < g := by have := HSZ.out; omega
  have n1 : g ≠ h := by omega
  have n2 : g ≠ b := by omega
  have n3 : g ≠ d := by omega
  have n4 : g ≠ q := by omega
  have n5 : g ≠ w1.heap.size := by have := HSZ.out; omega
  have n6 : g ≠ w1.heap.size + 1 := by have := HSZ.out; omega
  have m1 : h ≠ g := by omega
  have m3 : d ≠ g := by omega
  have n7 : og ≠ some g := fun e => by have := (HD.out.bk.P.lt e).1; omega
  have n8 : oh ≠ some g := fun e => by have := (HD.out.bk.N.lt e).1; omega
  have NN := Lib.hid (And.intro n7 n8)
  clear n7 n8
  have z0 : W5.cell? ⟨d, 0, none⟩ = some (.int .u64 H0) := (K05.out.cell l3 (by simp)).trans HZ.out.1
  have z1 : W5.cell? ⟨d, 1, none⟩ = some (.slice (some ⟨z, 0, none⟩) 0 0) := (K05.out.cell l3 (by simp)).trans HZ.out.2
  have y6 : W5.cell? ⟨h, 6, none⟩ = some (.int .i64 0) := cellOf HH5.out rfl
  have y5 : W3.cell? ⟨h, 5, none⟩ = some (.map (some b)) := cellOf (K3.out.obj HH2.out (by simp)) rfl
  have yt : W5.cell? ⟨w1.heap.size, 0, none⟩ = some (.int .i64 0) := (K25.out.cell (cell_lt t0) (by simp)).trans t0
  have g0 : W5.cell? ⟨g, 0, none⟩ = some (.int .u64 0) := cellOf G5.out.1 rfl
  have g1 : W5.cell? ⟨g, 1, none⟩ = some (.slice none 0 0) := cellOf G5.out.1 rfl
  have g2 : W5.cell? ⟨g, 2, none⟩ = some (.int .i64 0) := cellOf G5.out.1 rfl
  have g3 : W5.cell? ⟨g, 3, none⟩ = some (.int .i64 0) := cellOf G5.out.1 rfl
  have q0 : W5.frozen? ⟨g, 0, none⟩ = false := frOf G5.out.1
  have q1 : W5.frozen? ⟨g, 1, none⟩ = false := frOf G5.out.1
  have q2 : W5.frozen? ⟨g, 2, none⟩ = false := frOf G5.out.1
  have q3 : W5.frozen? ⟨g, 3, none⟩ = false := frOf G5.out.1
  have BG := Lib.hid (And.intro c2 (And.intro f2 (And.intro t0 (And.intro a0 (And.intro a1 b0)))))
  have HSS := Lib.hid (And.intro hb5 (And.intro hr5 hs5))
  have HG := Lib.hid hg
  rw [← hg]
  clear hW3 hs3 hb3 hW4 hr4 hs4 hb4 hW5 hr5 hs5 hb5 hg3 hg c2 f2 t0 a0 a1 b0 c5
  go_wp2_with fail
  refine wp_loop_rounds 2 ?_
  rw [rounds_succ]
  go_wp2_with fail
  refine grab (Got W5 g #[.int .u64 H0, .slice (some ⟨z, 0, none⟩) 0 0, .int .i64 0, .int .i64 0, .int .u64 0, .int .i64 0, .bool false, .int .i64 0, .bool false, .int .i64 0, .int .i32 0, .int .u64 0, .int .i32 0, .slice none 0 0, .int .i32 0, .slice none 0 0, .float .f64 0, .slice none 0 0]) ?_ ?_
  · exact ((((G5.out.set rfl).set rfl).set rfl).set rfl)
  intro w6 G6
  clear g0 g1 g2 g3 q0 q1 q2 q3 z0 z1 y6 yt y5 hrng hnx hen
  have C98 := count98 d s og oh w6 (D5.out.other G6.2 m3 NN.out.1 NN.out.2 ⟨_, rfl⟩).bk HL.out.1 HL.out.2.1 HL.out.2.2
  obtain ⟨T, hT⟩ : ∃ T, s.pl.sum + s.nl.sum + s.zc = T := ⟨_, rfl⟩
  rw [hT] at C98
  unfold U at C98
  have HT := Lib.hid hT
  clear hT
  refine C98.mono ?_; rintro e w7 ⟨rfl, hd7⟩
  clear C98
  have G7 := Lib.hid (G6.dr hd7)
  clear G6 hd7
  have g4 : w7.cell? ⟨g, 4, none⟩ = some (.int .u64 0) := cellOf G7.out.1 rfl
  have q4 : w7.frozen? ⟨g, 4, none⟩ = false := frOf G7.out.1
  go_wp2_with fail
  refine grab (Got W5 g #[.int .u64 H0, .slice (some ⟨z, 0, none⟩) 0 0, .int .i64 0, .int .i64 0, .int .u64 (T : Int), .int .i64 0, .bool false, .int .i64 0, .bool false, .int .i64 0, .int .i32 0, .int .u64 0, .int .i32 0, .slice none 0 0, .int .i32 0, .slice none 0 0, .float .f64 0, .slice none 0 0]) ?_ ?_
  · exact G7.out.set rfl
  intro w8 G8
  clear g4 q4
  have D8 := Lib.hid (D5.out.other G8.2 m3 NN.out.1 NN.out.2 ⟨_, rfl⟩)
  refine (load79 _ _ _ D8.out.bk.sc).mono ?_; rintro e w' ⟨rfl, rfl⟩
  have g10 : w8.cell? ⟨g, 10, none⟩ = some (.int .i32 0) := cellOf G8.1 rfl
  have q10 : w8.frozen? ⟨g, 10, none⟩ = false := frOf G8.1
  have G8 := Lib.hid G8
  go_wp2_with fail
  refine grab (Got W5 g #[.int .u64 H0, .slice (some ⟨z, 0, none⟩) 0 0, .int .i64 0, .int .i64 0, .int .u64 (T : Int), .int .i64 0, .bool false, .int .i64 0, .bool false, .int .i64 0, .int .i32 s.sc, .int .u64 0, .int .i32 0, .slice none 0 0, .int .i32 0, .slice none 0 0, .float .f64 0, .slice none 0 0]) ?_ ?_
  · exact G8.out.set rfl
  intro w9 G9
  clear g10 q10 D8
  have D9 := Lib.hid (D5.out.other G9.2 m3 NN.out.1 NN.out.2 ⟨_, rfl⟩)
  refine (load80 _ _ _ D9.out.bk.z).mono ?_; rintro e w' ⟨rfl, rfl⟩
  have g11 : w9.cell? ⟨g, 11, none⟩ = some (.int .u64 0) := cellOf G9.1 rfl
  have q11 : w9.frozen? ⟨g, 11, none⟩ = false := frOf G9.1
  have g12 : w9.cell? ⟨g, 12, none⟩ = some (.int .i32 0) := cellOf G9.1 rfl
  have q12 : w9.frozen? ⟨g, 12, none⟩ = false := frOf G9.1
  have g16 : w9.cell? ⟨g, 16, none⟩ = some (.float .f64 0) := cellOf G9.1 rfl
  have q16 : w9.frozen? ⟨g, 16, none⟩ = false := frOf G9.1
  have d11 : w9.cell? ⟨d, 11, none⟩ = some (.int .i32 s.ps) := D9.out.bk.P.1
  have G9 := Lib.hid G9
  obtain ⟨WA, hWA⟩ : ∃ WA, WA = (((w9.setCell ⟨g, 11, none⟩ (.int .u64 (s.zc : Int))).setCell ⟨g, 16, none⟩ (.float .f64 0)).setCell ⟨g, 12, none⟩ (.int .i32 s.ps)) := ⟨_, rfl⟩
  have GA := Lib.hid (show Got W5 g #[.int .u64 H0, .slice (some ⟨z, 0, none⟩) 0 0, .int .i64 0, .int .i64 0, .int .u64 (T : Int), .int .i64 0, .bool false, .int .i64 0, .bool false, .int .i64 0, .int .i32 s.sc, .int .u64 (s.zc : Int), .int .i32 s.ps, .slice none 0 0, .int .i32 0, .slice none 0 0, .float .f64 0, .slice none 0 0] WA by rw [hWA]; exact ((G9.out.set rfl).set rfl).set rfl)
  have DA := Lib.hid (D5.out.other GA.out.2 m3 NN.out.1 NN.out.2 ⟨_, rfl⟩)
  obtain ⟨e0, e1, hslA⟩ := DA.out.bk.P.slice
  have dA : WA.drew.cell? ⟨d, 12, none⟩ = some (.slice e0 s.pl.length e1) := hslA
  have gA : WA.drew.cell? ⟨g, 13, none⟩ = some (.slice none 0 0) := cellOf GA.out.1 rfl
  go_upto_region 20 with fail
  rw [← hWA]
  clear g11 q11 g12 q12 g16 q16 d11 hWA
  go_cut [] from 107 to 130 (fun wx => ∃ ad, Got W5 g #[.int .u64 H0, .slice (some ⟨z, 0, none⟩) 0 0, .int .i64 0, .int .i64 0, .int .u64 (T : Int), .int .i64 0, .bool false, .int .i64 0, .bool false, .int .i64 0, .int .i32 s.sc, .int .u64 (s.zc : Int), .int .i32 s.ps, .slice ad s.pl.length s.pl.length, .int .i32 0, .slice none 0 0, .float .f64 0, .slice none 0 0] wx ∧ NumIn W5 wx ad (List.replicate s.pl.length 0))
  case first =>
    obtain ⟨ad, had⟩ : ∃ ad, ad = adOf s.pl.length WA.drew := ⟨_, rfl⟩
    have C81 : Calls Tryz.prog 81 #[.slice none 0 0, .int .i64 (s.pl.length : Int), .int .i64 (s.pl.length : Int)] WA.drew fun e w' => e = .returned (.slice ad s.pl.length s.pl.length) ∧ w'.cell? ⟨g, 13, none⟩ = some (.slice none 0 0) ∧ w'.frozen? ⟨g, 13, none⟩ = false ∧ Hid (NumIn W5 w' ad (List.replicate s.pl.length 0) ∧ Kept [] WA w') := by
      rw [had]
      refine (reset81_in _ HL.out.1 W5 WA.drew GA.out.2.size).mono ?_
      rintro e w' ⟨rfl, h1, h2⟩
      have h2' : Kept [] WA w' := ((Kept.refl [] WA).dr ⟨1, rfl⟩).trans h2
      exact ⟨rfl, cellOf (h2'.obj GA.out.1 (by simp)) rfl, frOf (h2'.obj GA.out.1 (by simp)), Lib.hid ⟨h1, h2'⟩⟩
    have CC := Lib.hid C81
    have HADD := Lib.hid had
    clear C81 had
    have FIN : ∀ wB : World, Hid (NumIn W5 wB ad (List.replicate s.pl.length 0) ∧ Kept [] WA wB) → (∃ ad', Got W5 g #[.int .u64 H0, .slice (some ⟨z, 0, none⟩) 0 0, .int .i64 0, .int .i64 0, .int .u64 (T : Int), .int .i64 0, .bool false, .int .i64 0, .bool false, .int .i64 0, .int .i32 s.sc, .int .u64 (s.zc : Int), .int .i32 s.ps, .slice ad' s.pl.length s.pl.length, .int .i32 0, .slice none 0 0, .float .f64 0, .slice none 0 0] (wB.setCell ⟨g, 13, none⟩ (.slice ad s.pl.length s.pl.length)) ∧ NumIn W5 (wB.setCell ⟨g, 13, none⟩ (.slice ad s.pl.length s.pl.length)) ad' (List.replicate s.pl.length 0)) := by
      intro wB hB
      have GB := (GA.out.kept hB.out.2 (heap_lt GA.out.1)).set (i := 13) (v := .slice ad s.pl.length s.pl.length) rfl
      refine ⟨ad, GB, ?_⟩
      rcases hB.out.1 with h | ⟨x, x1, x2, x3, x4⟩
      · exact .inl h
      · refine .inr ⟨x, x1, x2, x3, ?_⟩
        have hgl := heap_lt G5.out.1
        have hgx : x ≠ g := by omega
        rw [Below.heap_setCell _ _ _ _ hgx]; exact x4
    go_region_with (first | (go_at_call 81; refine CC.out.mono ?_; rintro e wB ⟨rfl, gA, qA, hB⟩) | fail)
    all_goals
      go_wp2_with fail
      go_meet
      exact FIN _ hB
  case rest =>
  obtain ⟨ap, GC, NC⟩ := hcut
  have DB := Lib.hid (D5.out.other GC.2 m3 NN.out.1 NN.out.2 ⟨_, rfl⟩)
  obtain ⟨e2, e3, hslB⟩ := DB.out.bk.P.slice
  have GC := Lib.hid GC
  have NC := Lib.hid NC
  clear dA gA GA DA e0 e1 hslA
  go_wp2_with fail
  go_loopw [137] (fun i wr => ∃ m : Nat, m ≤ s.pl.length ∧ i = .int .i64 (m : Int) ∧ Got W5 g #[.int .u64 H0, .slice (some ⟨z, 0, none⟩) 0 0, .int .i64 0, .int .i64 0, .int .u64 (T : Int), .int .i64 0, .bool false, .int .i64 0, .bool false, .int .i64 0, .int .i32 s.sc, .int .u64 (s.zc : Int), .int .i32 s.ps, .slice ap s.pl.length s.pl.length, .int .i32 0, .slice none 0 0, .float .f64 0, .slice none 0 0] wr ∧ NumIn W5 wr ap (fill s.pl m)) (fun i _ => s.pl.length - (intOf i).toNat)
  case atStart => exact ⟨0, by omega, rfl, GC.out, by rw [fill_zero]; exact NC.out⟩
  case round =>
  obtain ⟨m, hm, rfl, GR, NR⟩ := hrel
  have HLm := Lib.hid (And.intro HL.out.1 hm)
  clear GC NC hslB hm
  by_cases hlt : m < s.pl.length
  · have DR := D5.out.other GR.2 m3 NN.out.1 NN.out.2 ⟨_, rfl⟩
    obtain ⟨x, rfl, x2, x3, x4⟩ : ∃ x, ap = some ⟨x, 0, none⟩ ∧ fill s.pl m ≠ [] ∧ W5.heap.size ≤ x ∧ wr.heap[x]? = some (numObj (fill s.pl m)) := by
      rcases NR with ⟨_, h⟩ | h
      · have := congrArg List.length h; rw [fill_len _ _ HLm.out.2] at this; simp only [List.length_nil] at this; omega
      · exact h
    obtain ⟨gi, F, hv, _, _, hgi, _, hlF, hF, htk⟩ : ∃ gi F, wr.cell? ⟨d, 12, none⟩ = some (.slice (some ⟨gi, 0, none⟩) s.pl.length F.length) ∧ og = some gi ∧ s.pl ≠ [] ∧ wr.heap[gi]? = some (rowObj F) ∧ gi ≠ d ∧ s.pl.length ≤ F.length ∧ F.length ≤ maxLen ∧ F.take s.pl.length = s.pl := by
      rcases DR.bk.P.2 with ⟨_, h, _⟩ | h
      · rw [h] at hlt; simp at hlt
      · exact h
    obtain ⟨y, hy⟩ : ∃ y, y = s.pl.getD m 0 := ⟨_, rfl⟩
    have hcell := (rowU hgi htk m hlt).1
    rw [← hy] at hcell
    have hvm : wr.drew.cell? ⟨d, 12, none⟩ = some (.slice (some ⟨gi, 0, none⟩) s.pl.length F.length) := hv
    have hcm : wr.drew.cell? ⟨gi, m, none⟩ = some (U y) := hcell
    have gm : wr.drew.cell? ⟨g, 13, none⟩ = some (.slice (some ⟨x, 0, none⟩) s.pl.length s.pl.length) := cellOf GR.1 rfl
    have xm : wr.drew.cell? ⟨x, m, none⟩ = some (U ((fill s.pl m).getD m 0)) := numObj_cell x4 (by rw [fill_len _ _ HLm.out.2]; exact hlt)
    have fm : wr.drew.frozen? ⟨x, m, none⟩ = false := frOf x4
    have hgx : g ≠ x := by have := heap_lt G5.out.1; omega
    have hset := Lib.hid (show Got W5 g #[.int .u64 H0, .slice (some ⟨z, 0, none⟩) 0 0, .int .i64 0, .int .i64 0, .int .u64 (T : Int), .int .i64 0, .bool false, .int .i64 0, .bool false, .int .i64 0, .int .i32 s.sc, .int .u64 (s.zc : Int), .int .i32 s.ps, .slice (some ⟨x, 0, none⟩) s.pl.length s.pl.length, .int .i32 0, .slice none 0 0, .float .f64 0, .slice none 0 0] (wr.drew.setCell ⟨x, m, none⟩ (U y)) ∧ NumIn W5 (wr.drew.setCell ⟨x, m, none⟩ (U y)) (some ⟨x, 0, none⟩) (fill s.pl (m + 1)) by
      refine ⟨⟨?_, ?_⟩, .inr ⟨x, rfl, ?_, x3, ?_⟩⟩
      · rw [Below.heap_setCell _ _ _ _ hgx]; exact GR.1
      · exact (GR.2.dr (c := wr.drew) ⟨1, rfl⟩).setCell (.inr x3) _
      · intro h; have := congrArg List.length h; rw [fill_len _ _ (by omega)] at this; simp only [List.length_nil] at this; omega
      · have := numObj_set (m := m) (v := y) (show wr.drew.heap[x]? = _ from x4)
        rw [hy, fill_set _ _ hlt, ← hy] at this; exact this)
    have w5 : (m : Int) < (s.pl.length : Int) := by omega
    have w6 : (s.pl.length : Int) ≤ 1000 := by have := HLm.out.1; omega
    have w7 : (0 : Int) ≤ (m : Int) := by omega
    have w1 : IntKind.i64.wrap ((m : Int) + 1) = (m : Int) + 1 := IntWalk.i64_in _ (by omega)
    clear hgi htk hcell x4 hv DR GR NR hy hgx x2 x3
    unfold U at hcm xm hset
    go_wp2_with fail
    refine wp_region_still_tail 16 (by kernel_rfl) (by kernel_rfl) ?_
    change wpStill _ _ wr.drew (fun a' => wpList _ _ _ _ a' wr.drew) _ _
    generalize wr.drew = w4 at *
    simp only [List.take_succ_cons, List.take_zero, List.drop_succ_cons, List.drop_zero]
    repeat still_step
    still_call ((load80 _ _ _ hcm).mono fun _ _ ⟨p1, p2⟩ => ⟨p1, p2.symm⟩)
    repeat still_step
    refine wpStill_nil ?_
    go_wp2_with fail
    go_roundw
    case rel => exact ⟨m + 1, by omega, by go_num, hset.out.1, hset.out.2⟩
    case measure => simp [intOf]; omega
  obtain rfl : m = s.pl.length := by have := HLm.out.2; omega
  have NR' := NR
  rw [fill_all] at NR'
  have NP := Lib.hid NR'
  have GF := Lib.hid GR
  clear NR NR' hlt GR

  have DF := Lib.hid (D5.out.other GF.out.2 m3 NN.out.1 NN.out.2 ⟨_, rfl⟩)
  have g14 : wr.cell? ⟨g, 14, none⟩ = some (.int .i32 0) := cellOf GF.out.1 rfl
  have q14 : wr.frozen? ⟨g, 14, none⟩ = false := frOf GF.out.1
  have d13 : wr.cell? ⟨d, 13, none⟩ = some (.int .i32 s.ns) := DF.out.bk.N.1
  obtain ⟨WG, hWG⟩ : ∃ WG, WG = wr.setCell ⟨g, 14, none⟩ (.int .i32 s.ns) := ⟨_, rfl⟩
  have NPW := Lib.hid (show ∀ x, x ≠ g → WG.heap[x]? = wr.heap[x]? by intro x hx; rw [hWG]; exact Below.heap_setCell _ _ _ _ hx)
  have GG := Lib.hid (show Got W5 g #[.int .u64 H0, .slice (some ⟨z, 0, none⟩) 0 0, .int .i64 0, .int .i64 0, .int .u64 (T : Int), .int .i64 0, .bool false, .int .i64 0, .bool false, .int .i64 0, .int .i32 s.sc, .int .u64 (s.zc : Int), .int .i32 s.ps, .slice ap s.pl.length s.pl.length, .int .i32 s.ns, .slice none 0 0, .float .f64 0, .slice none 0 0] WG by rw [hWG]; exact GF.out.set rfl)
  have DG := Lib.hid (D5.out.other GG.out.2 m3 NN.out.1 NN.out.2 ⟨_, rfl⟩)
  obtain ⟨e0, e1, hslA⟩ := DG.out.bk.N.slice
  have dA : WG.drew.cell? ⟨d, 14, none⟩ = some (.slice e0 s.nl.length e1) := hslA
  have gA : WG.drew.cell? ⟨g, 15, none⟩ = some (.slice none 0 0) := cellOf GG.out.1 rfl
  have w3 : ¬ (s.pl.length : Int) < (s.pl.length : Int) := by omega
  go_upto_region 27 with fail
  rw [← hWG]
  clear g14 q14 d13 hWG
  go_cut [] from 167 to 190 (fun wx => ∃ ad, Got W5 g #[.int .u64 H0, .slice (some ⟨z, 0, none⟩) 0 0, .int .i64 0, .int .i64 0, .int .u64 (T : Int), .int .i64 0, .bool false, .int .i64 0, .bool false, .int .i64 0, .int .i32 s.sc, .int .u64 (s.zc : Int), .int .i32 s.ps, .slice ap s.pl.length s.pl.length, .int .i32 s.ns, .slice ad s.nl.length s.nl.length, .float .f64 0, .slice none 0 0] wx ∧ NumIn W5 wx ad (List.replicate s.nl.length 0) ∧ NumIn W5 wx ap s.pl ∧ ∀ x, ad = some ⟨x, 0, none⟩ → ap ≠ some ⟨x, 0, none⟩)
  case first =>
    obtain ⟨ad, had⟩ : ∃ ad, ad = adOf s.nl.length WG.drew := ⟨_, rfl⟩
    have C81 : Calls Tryz.prog 81 #[.slice none 0 0, .int .i64 (s.nl.length : Int), .int .i64 (s.nl.length : Int)] WG.drew fun e w' => e = .returned (.slice ad s.nl.length s.nl.length) ∧ w'.cell? ⟨g, 15, none⟩ = some (.slice none 0 0) ∧ w'.frozen? ⟨g, 15, none⟩ = false ∧ Hid (NumIn W5 w' ad (List.replicate s.nl.length 0) ∧ Kept [] WG w') := by
      rw [had]
      refine (reset81_in _ HL.out.2.1 W5 WG.drew GG.out.2.size).mono ?_
      rintro e w' ⟨rfl, h1, h2⟩
      have h2' : Kept [] WG w' := ((Kept.refl [] WG).dr ⟨1, rfl⟩).trans h2
      exact ⟨rfl, cellOf (h2'.obj GG.out.1 (by simp)) rfl, frOf (h2'.obj GG.out.1 (by simp)), Lib.hid ⟨h1, h2'⟩⟩
    have CC := Lib.hid C81
    have HADD := Lib.hid had
    clear C81 had
    have FIN : ∀ wB : World, Hid (NumIn W5 wB ad (List.replicate s.nl.length 0) ∧ Kept [] WG wB) → (∃ ad', Got W5 g #[.int .u64 H0, .slice (some ⟨z, 0, none⟩) 0 0, .int .i64 0, .int .i64 0, .int .u64 (T : Int), .int .i64 0, .bool false, .int .i64 0, .bool false, .int .i64 0, .int .i32 s.sc, .int .u64 (s.zc : Int), .int .i32 s.ps, .slice ap s.pl.length s.pl.length, .int .i32 s.ns, .slice ad' s.nl.length s.nl.length, .float .f64 0, .slice none 0 0] (wB.setCell ⟨g, 15, none⟩ (.slice ad s.nl.length s.nl.length)) ∧ NumIn W5 (wB.setCell ⟨g, 15, none⟩ (.slice ad s.nl.length s.nl.length)) ad' (List.replicate s.nl.length 0) ∧ NumIn W5 (wB.setCell ⟨g, 15, none⟩ (.slice ad s.nl.length s.nl.length)) ap s.pl ∧ ∀ x, ad' = some ⟨x, 0, none⟩ → ap ≠ some ⟨x, 0, none⟩) := by
      intro wB hB
      have GB := (GG.out.kept hB.out.2 (heap_lt GG.out.1)).set (i := 15) (v := .slice ad s.nl.length s.nl.length) rfl
      refine ⟨ad, GB, ?_, ?_, ?_⟩
      rotate_left
      · rcases NP.out with h | ⟨x', y1, y2, y3, y4⟩
        · exact .inl h
        · have hx' : x' ≠ g := by have := heap_lt G5.out.1; omega
          refine .inr ⟨x', y1, y2, y3, ?_⟩
          have y5 : WG.heap[x']? = some (numObj s.pl) := by rw [NPW.out x' hx']; exact y4
          rw [Below.heap_setCell _ _ _ _ hx']; exact hB.out.2.obj y5 (by simp)
      · rintro x e1 e2
        rcases NP.out with ⟨h, _⟩ | ⟨x', y1, y2, y3, y4⟩
        · rw [h] at e2; cases e2
        · have hx' : x' ≠ g := by have := heap_lt G5.out.1; omega
          have y5 : WG.heap[x']? = some (numObj s.pl) := by rw [NPW.out x' hx']; exact y4
          have hl := heap_lt y5
          rw [y1] at e2; cases e2
          have had' := HADD.out
          unfold adOf at had'
          rw [e1] at had'
          split at had'
          · cases had'
          · have h := Option.some.inj had'
            have h2 : x = WG.drew.heap.size := congrArg Addr.block h
            have h3 : WG.drew.heap.size = WG.heap.size := rfl
            omega
      rcases hB.out.1 with h | ⟨x, x1, x2, x3, x4⟩
      · exact .inl h
      · refine .inr ⟨x, x1, x2, x3, ?_⟩
        have hgl := heap_lt G5.out.1
        have hgx : x ≠ g := by omega
        rw [Below.heap_setCell _ _ _ _ hgx]; exact x4
    go_region_with (first | (go_at_call 81; refine CC.out.mono ?_; rintro e wB ⟨rfl, gA, qA, hB⟩) | fail)
    all_goals
      go_wp2_with fail
      go_meet
      exact FIN _ hB
  case rest =>
  obtain ⟨an, GC, NC, MP, hne⟩ := hcut
  have DH := Lib.hid (D5.out.other GC.2 m3 NN.out.1 NN.out.2 ⟨_, rfl⟩)
  obtain ⟨e2, e3, hslB⟩ := DH.out.bk.N.slice
  have GC := Lib.hid GC
  have NC := Lib.hid NC
  have MP := Lib.hid MP
  have hne := Lib.hid hne
  clear dA gA GG DG e0 e1 hslA
  go_wp2_with fail
  go_loopw [197] (fun i wr => ∃ m : Nat, m ≤ s.nl.length ∧ i = .int .i64 (m : Int) ∧ Got W5 g #[.int .u64 H0, .slice (some ⟨z, 0, none⟩) 0 0, .int .i64 0, .int .i64 0, .int .u64 (T : Int), .int .i64 0, .bool false, .int .i64 0, .bool false, .int .i64 0, .int .i32 s.sc, .int .u64 (s.zc : Int), .int .i32 s.ps, .slice ap s.pl.length s.pl.length, .int .i32 s.ns, .slice an s.nl.length s.nl.length, .float .f64 0, .slice none 0 0] wr ∧ NumIn W5 wr an (fill s.nl m) ∧ NumIn W5 wr ap s.pl) (fun i _ => s.nl.length - (intOf i).toNat)
  case atStart => exact ⟨0, by omega, rfl, GC.out, by rw [fill_zero]; exact NC.out, MP.out⟩
  case round =>
  obtain ⟨m, hm, rfl, GR, NR, MP⟩ := hrel
  have HLm := Lib.hid (And.intro HL.out.2.1 hm)
  clear GC NC hslB hm
  by_cases hlt : m < s.nl.length
  · have DR := D5.out.other GR.2 m3 NN.out.1 NN.out.2 ⟨_, rfl⟩
    obtain ⟨x, rfl, x2, x3, x4⟩ : ∃ x, an = some ⟨x, 0, none⟩ ∧ fill s.nl m ≠ [] ∧ W5.heap.size ≤ x ∧ wr.heap[x]? = some (numObj (fill s.nl m)) := by
      rcases NR with ⟨_, h⟩ | h
      · have := congrArg List.length h; rw [fill_len _ _ HLm.out.2] at this; simp only [List.length_nil] at this; omega
      · exact h
    obtain ⟨gi, F, hv, _, _, hgi, _, hlF, hF, htk⟩ : ∃ gi F, wr.cell? ⟨d, 14, none⟩ = some (.slice (some ⟨gi, 0, none⟩) s.nl.length F.length) ∧ oh = some gi ∧ s.nl ≠ [] ∧ wr.heap[gi]? = some (rowObj F) ∧ gi ≠ d ∧ s.nl.length ≤ F.length ∧ F.length ≤ maxLen ∧ F.take s.nl.length = s.nl := by
      rcases DR.bk.N.2 with ⟨_, h, _⟩ | h
      · rw [h] at hlt; simp at hlt
      · exact h
    obtain ⟨y, hy⟩ : ∃ y, y = s.nl.getD m 0 := ⟨_, rfl⟩
    have hcell := (rowU hgi htk m hlt).1
    rw [← hy] at hcell
    have hvm : wr.drew.cell? ⟨d, 14, none⟩ = some (.slice (some ⟨gi, 0, none⟩) s.nl.length F.length) := hv
    have hcm : wr.drew.cell? ⟨gi, m, none⟩ = some (U y) := hcell
    have gm : wr.drew.cell? ⟨g, 15, none⟩ = some (.slice (some ⟨x, 0, none⟩) s.nl.length s.nl.length) := cellOf GR.1 rfl
    have xm : wr.drew.cell? ⟨x, m, none⟩ = some (U ((fill s.nl m).getD m 0)) := numObj_cell x4 (by rw [fill_len _ _ HLm.out.2]; exact hlt)
    have fm : wr.drew.frozen? ⟨x, m, none⟩ = false := frOf x4
    have hgx : g ≠ x := by have := heap_lt G5.out.1; omega
    have hset := Lib.hid (show Got W5 g #[.int .u64 H0, .slice (some ⟨z, 0, none⟩) 0 0, .int .i64 0, .int .i64 0, .int .u64 (T : Int), .int .i64 0, .bool false, .int .i64 0, .bool false, .int .i64 0, .int .i32 s.sc, .int .u64 (s.zc : Int), .int .i32 s.ps, .slice ap s.pl.length s.pl.length, .int .i32 s.ns, .slice (some ⟨x, 0, none⟩) s.nl.length s.nl.length, .float .f64 0, .slice none 0 0] (wr.drew.setCell ⟨x, m, none⟩ (U y)) ∧ NumIn W5 (wr.drew.setCell ⟨x, m, none⟩ (U y)) (some ⟨x, 0, none⟩) (fill s.nl (m + 1)) ∧ NumIn W5 (wr.drew.setCell ⟨x, m, none⟩ (U y)) ap s.pl by
      refine ⟨⟨?_, ?_⟩, .inr ⟨x, rfl, ?_, x3, ?_⟩, ?_⟩
      · rw [Below.heap_setCell _ _ _ _ hgx]; exact GR.1
      · exact (GR.2.dr (c := wr.drew) ⟨1, rfl⟩).setCell (.inr x3) _
      · intro h; have := congrArg List.length h; rw [fill_len _ _ (by omega)] at this; simp only [List.length_nil] at this; omega
      · have := numObj_set (m := m) (v := y) (show wr.drew.heap[x]? = _ from x4)
        rw [hy, fill_set _ _ hlt, ← hy] at this; exact this
      · rcases MP with h | ⟨x', y1, y2, y3, y4⟩
        · exact .inl h
        · have hxx : x' ≠ x := by rintro rfl; exact hne.out x' rfl y1
          refine .inr ⟨x', y1, y2, y3, ?_⟩
          rw [Below.heap_setCell _ _ _ _ hxx]; exact y4)
    have w5 : (m : Int) < (s.nl.length : Int) := by omega
    have w6 : (s.nl.length : Int) ≤ 1000 := by have := HLm.out.1; omega
    have w7 : (0 : Int) ≤ (m : Int) := by omega
    have w1 : IntKind.i64.wrap ((m : Int) + 1) = (m : Int) + 1 := IntWalk.i64_in _ (by omega)
    clear hgi htk hcell x4 hv DR GR NR hy hgx x2 x3 MP
    unfold U at hcm xm hset
    go_wp2_with fail
    refine wp_region_still_tail 16 (by kernel_rfl) (by kernel_rfl) ?_
    change wpStill _ _ wr.drew (fun a' => wpList _ _ _ _ a' wr.drew) _ _
    generalize wr.drew = w4 at *
    simp only [List.take_succ_cons, List.take_zero, List.drop_succ_cons, List.drop_zero]
    repeat still_step
    still_call ((load80 _ _ _ hcm).mono fun _ _ ⟨p1, p2⟩ => ⟨p1, p2.symm⟩)
    repeat still_step
    refine wpStill_nil ?_
    go_wp2_with fail
    go_roundw
    case rel => exact ⟨m + 1, by omega, by go_num, hset.out.1, hset.out.2.1, hset.out.2.2⟩
    case measure => simp [intOf]; omega
  obtain rfl : m = s.nl.length := by have := HLm.out.2; omega
  have NR' := NR
  rw [fill_all] at NR'
  have NQ := Lib.hid NR'
  have NP := Lib.hid MP
  clear MP
  have GI := Lib.hid GR
  clear NR NR' hlt GR

  have DI := Lib.hid (D5.out.other GI.out.2 m3 NN.out.1 NN.out.2 ⟨_, rfl⟩)
  have HHI := Lib.hid (GI.out.2.obj HH5.out (by simp; try omega))
  have h0 : wr.cell? ⟨h, 0, none⟩ = some (.bool false) := cellOf HHI.out rfl
  have w9 : ¬ (s.nl.length : Int) < (s.nl.length : Int) := by omega
  have BR := Lib.hid (show wr.heap[b]? = some (.map #[⟨.agg #[.int .u64 H0], .pointer (some ⟨d, 0, none⟩), n⟩] c) ∧ wr.heap[g + 1]? = some (.mapIter (some b) c #[n] c) from ⟨GI.out.2.obj HSS.out.1 (by simp; try omega), GI.out.2.obj HSS.out.2.1 (by simp)⟩)
  have K25g := Lib.hid ((K25.out.sub (S' := [g]) (by simp)).trans GI.out.2)
  have hl2 : q < W2.heap.size := cell_lt BG.out.1
  have hlt2 : w1.heap.size < W2.heap.size := cell_lt BG.out.2.2.1
  have hla2 : w1.heap.size + 1 < W2.heap.size := cell_lt BG.out.2.2.2.1
  have CR := Lib.hid (show wr.cell? ⟨q, 0, none⟩ = some .nilIface ∧ wr.frozen? ⟨q, 0, none⟩ = false ∧ wr.cell? ⟨w1.heap.size, 0, none⟩ = some (.int .i64 0) ∧ wr.cell? ⟨w1.heap.size + 1, 0, none⟩ = some (.slice none 0 0) ∧ wr.cell? ⟨w1.heap.size + 1, 1, none⟩ = some (.int .u8 2) ∧ wr.frozen? ⟨w1.heap.size + 1, 0, none⟩ = false from
    ⟨(K25g.out.cell hl2 (by simp; try omega)).trans BG.out.1, (K25g.out.frozen hl2 (by simp; try omega)).trans BG.out.2.1, (K25g.out.cell hlt2 (by simp; try omega)).trans BG.out.2.2.1, (K25g.out.cell hla2 (by simp; try omega)).trans BG.out.2.2.2.1, (K25g.out.cell hla2 (by simp; try omega)).trans BG.out.2.2.2.2.1, (K25g.out.frozen hla2 (by simp; try omega)).trans BG.out.2.2.2.2.2⟩)
  have hgR := heap_lt GI.out.1
  have hNW : W5.heap.size = g + 2 := HSS.out.2.2
  have hgs5 := Lib.hid hNW
  clear hNW hl2 hlt2 hla2
  have KWR := Lib.hid (K05.out.trans2 GI.out.2 (fun i hi => .inr (by simp at hi; omega)))
  have GJ := Lib.hid (show Got wr g #[.int .u64 H0, .slice (some ⟨z, 0, none⟩) 0 0, .int .i64 0, .int .i64 0, .int .u64 (T : Int), .int .i64 0, .bool false, .int .i64 0, .bool false, .int .i64 0, .int .i32 s.sc, .int .u64 (s.zc : Int), .int .i32 s.ps, .slice ap s.pl.length s.pl.length, .int .i32 s.ns, .slice an s.nl.length s.nl.length, .float .f64 0, .slice none 0 0] wr from ⟨GI.out.1, Kept.refl _ _⟩)
  clear GI w3
  go_wp2_with fail
  refine (sumI99 d 5 ni wr DI.out.c6).mono ?_; rintro e wS ⟨hdS, r, rfl, hr1, hr2⟩
  have SR := Lib.hid (show SumRd fb ni r from ⟨hr1, hr2⟩)
  have GS := Lib.hid (GJ.out.dr hdS)
  clear hdS hr1 hr2 h0 w9
  have g9 : wS.cell? ⟨g, 9, none⟩ = some (.int .i64 0) := cellOf GS.out.1 rfl
  have q9 : wS.frozen? ⟨g, 9, none⟩ = false := frOf GS.out.1
  have h1 : wS.cell? ⟨h, 1, none⟩ = some (.bool false) := cellOf (GS.out.2.obj HHI.out (by simp; try omega)) rfl
  go_wp2_with fail
  refine grab (Got wr g #[.int .u64 H0, .slice (some ⟨z, 0, none⟩) 0 0, .int .i64 0, .int .i64 0, .int .u64 (T : Int), .int .i64 0, .bool false, .int .i64 0, .bool false, .int .i64 r, .int .i32 s.sc, .int .u64 (s.zc : Int), .int .i32 s.ps, .slice ap s.pl.length s.pl.length, .int .i32 s.ns, .slice an s.nl.length s.nl.length, .float .f64 0, .slice none 0 0]) ?_ ?_
  · exact GS.out.set rfl
  intro wT GT
  clear g9 q9 h1
  have DT := Lib.hid (DI.out.other GT.2 m3 NN.out.1 NN.out.2 ⟨_, rfl⟩)
  refine (load83 _ true _ DT.out.mm.2.2).mono ?_; rintro e w' ⟨rfl, rfl⟩
  have GT := Lib.hid GT
  go_wp2_with fail
  refine (load101 _ mn _ DT.out.mm.1).mono ?_; rintro e w' ⟨rfl, rfl⟩
  go_wp2_with fail
  refine (newExt100 (sgn mn) _).mono ?_; rintro e wU ⟨rfl, hkU⟩
  have GU := Lib.hid (GT.out.kept hkU (heap_lt GT.out.1))
  clear hkU DT
  have g5 : wU.cell? ⟨g, 5, none⟩ = some (.int .i64 0) := cellOf GU.out.1 rfl
  have q5 : wU.frozen? ⟨g, 5, none⟩ = false := frOf GU.out.1
  have g6 : wU.cell? ⟨g, 6, none⟩ = some (.bool false) := cellOf GU.out.1 rfl
  have q6 : wU.frozen? ⟨g, 6, none⟩ = false := frOf GU.out.1
  go_wp2_with fail
  refine grab (Got wr g #[.int .u64 H0, .slice (some ⟨z, 0, none⟩) 0 0, .int .i64 0, .int .i64 0, .int .u64 (T : Int), .int .i64 (sgn mn), .bool true, .int .i64 0, .bool false, .int .i64 r, .int .i32 s.sc, .int .u64 (s.zc : Int), .int .i32 s.ps, .slice ap s.pl.length s.pl.length, .int .i32 s.ns, .slice an s.nl.length s.nl.length, .float .f64 0, .slice none 0 0]) ?_ ?_
  · exact (GU.out.set rfl).set rfl
  intro wV GV
  clear g5 q5 g6 q6
  have DV := Lib.hid (DI.out.other GV.2 m3 NN.out.1 NN.out.2 ⟨_, rfl⟩)
  refine (load101 _ mx _ DV.out.mm.2.1).mono ?_; rintro e w' ⟨rfl, rfl⟩
  have GV := Lib.hid GV
  go_wp2_with fail
  refine (newExt100 (sgn mx) _).mono ?_; rintro e wY ⟨rfl, hkY⟩
  have GY := Lib.hid (GV.out.kept hkY (heap_lt GV.out.1))
  clear hkY DV
  have g7 : wY.cell? ⟨g, 7, none⟩ = some (.int .i64 0) := cellOf GY.out.1 rfl
  have q7 : wY.frozen? ⟨g, 7, none⟩ = false := frOf GY.out.1
  have g8 : wY.cell? ⟨g, 8, none⟩ = some (.bool false) := cellOf GY.out.1 rfl
  have q8 : wY.frozen? ⟨g, 8, none⟩ = false := frOf GY.out.1
  obtain ⟨WZ, hWZ⟩ : ∃ WZ, WZ = (wY.setCell ⟨g, 7, none⟩ (.int .i64 (sgn mx))).setCell ⟨g, 8, none⟩ (.bool true) := ⟨_, rfl⟩
  have GZ := Lib.hid (show Got wr g #[.int .u64 H0, .slice (some ⟨z, 0, none⟩) 0 0, .int .i64 0, .int .i64 0, .int .u64 (T : Int), .int .i64 (sgn mn), .bool true, .int .i64 (sgn mx), .bool true, .int .i64 r, .int .i32 s.sc, .int .u64 (s.zc : Int), .int .i32 s.ps, .slice ap s.pl.length s.pl.length, .int .i32 s.ns, .slice an s.nl.length s.nl.length, .float .f64 0, .slice none 0 0] WZ by rw [hWZ]; exact (GY.out.set rfl).set rfl)
  go_wp2_with fail
  rw [← hWZ]
  clear hWZ g7 q7 g8 q8
  -- the second round: nothing is left
  have hbZ := GZ.out.2.obj BR.out.1 (by simp; try omega)
  have hrZ := GZ.out.2.obj BR.out.2 (by simp)
  have hnx2 := next210_end b (g + 1) c n _ _ WZ hbZ hrZ hnc
  have hclr := clear210 b c _ WZ hbZ
  have hbl := heap_lt hbZ
  obtain ⟨WQ, hWQ⟩ : ∃ WQ, WQ = putObj WZ b (.map #[] c) := ⟨_, rfl⟩
  rw [← hWQ] at hclr
  have KQ := Lib.hid (show Kept [g, b] wr WQ by rw [hWQ]; exact putObj_kept (GZ.out.2.sub (by simp)) (.inl (by simp)) _)
  have hbQ := Lib.hid (show WQ.heap[b]? = some (.map #[] c) by rw [hWQ]; exact putObj_at hbl _)
  have hgQ0 : WQ.heap[g]? = WZ.heap[g]? := by rw [hWQ]; exact putObj_other (by omega) _
  have hgQ := Lib.hid (hgQ0.trans GZ.out.1)
  clear hgQ0
  have hZ5 : WZ.cell? ⟨h, 5, none⟩ = some (.map (some b)) := cellOf (GZ.out.2.obj HHI.out (by simp; try omega)) rfl
  have hhQ := KQ.out.obj HHI.out (by simp; try omega)
  have d6 : WQ.cell? ⟨h, 6, none⟩ = some (.int .i64 0) := cellOf hhQ rfl
  have e6 : WQ.frozen? ⟨h, 6, none⟩ = false := frOf hhQ
  have b0 : b < w1.heap.size := by omega
  have d2 : WQ.cell? ⟨q, 0, none⟩ = some .nilIface := (KQ.out.cell (cell_lt CR.out.1) (by simp; try omega)).trans CR.out.1
  have e2 : WQ.frozen? ⟨q, 0, none⟩ = false := (KQ.out.frozen (cell_lt CR.out.1) (by simp; try omega)).trans CR.out.2.1
  have dt : WQ.cell? ⟨w1.heap.size, 0, none⟩ = some (.int .i64 0) := (KQ.out.cell (cell_lt CR.out.2.2.1) (by simp; try omega)).trans CR.out.2.2.1
  have da : WQ.cell? ⟨w1.heap.size + 1, 0, none⟩ = some (.slice none 0 0) := (KQ.out.cell (cell_lt CR.out.2.2.2.1) (by simp; try omega)).trans CR.out.2.2.2.1
  have db : WQ.cell? ⟨w1.heap.size + 1, 1, none⟩ = some (.int .u8 2) := (KQ.out.cell (cell_lt CR.out.2.2.2.2.1) (by simp; try omega)).trans CR.out.2.2.2.2.1
  have ea : WQ.frozen? ⟨w1.heap.size + 1, 0, none⟩ = false := (KQ.out.frozen (cell_lt CR.out.2.2.2.2.1) (by simp; try omega)).trans CR.out.2.2.2.2.2
  have hset6 := setCell_id WQ _ _ d6
  clear hbZ hrZ hWQ hhQ
  rw [rounds_succ]
  go_wp2_with fail
  refine leaves_cons (f := 69) (args := #[.pointer (some ⟨h, 6, none⟩)]) (by show ¬ (FrameMode.returning = FrameMode.run); intro h; cases h) (by simp [go_sem]) ?_
  refine (unlock69 _ .returning _).mono ?_
  rintro e u' w'' ⟨rfl, rfl, rfl⟩
  have hqab : q ≠ w1.heap.size + 1 := by omega
  have hbab : b ≠ w1.heap.size + 1 := by omega
  have KX : Kept [g, b, w1.heap.size + 1, q] wr ((WQ.setCell ⟨w1.heap.size + 1, 0, none⟩ (.slice (some ⟨g, 0, none⟩) 1 1)).setCell ⟨q, 0, none⟩ (.iface 106 (.agg #[.slice (some ⟨g, 0, none⟩) 1 1, .int .u8 2]))) :=
    ((KQ.out.sub (fun i hi => by simp at hi ⊢; omega)).setCell (.inl (by simp)) _).setCell (.inl (by simp)) _
  have hS : ∀ i, i ∈ [g, b, w1.heap.size + 1, q] → i < W5.heap.size := by
    intro i hi
    have h1 := hgs5.out
    have h2 := HSZ.out
    have h3 := HG.out
    simp at hi; omega
  refine ⟨_, results_tmp rfl _ _ _, rfl, g, r, .slice ap s.pl.length s.pl.length, .slice an s.nl.length s.nl.length, SR.out, ?_, (NP.out.kept KX hS).at, (NQ.out.kept KX hS).at, ?_, ?_, ?_⟩
  · rw [Below.heap_setCell _ _ _ _ n4, Below.heap_setCell _ _ _ _ n6, HT.out]; exact hgQ.out
  · rw [Below.heap_setCell _ _ _ _ hqb.symm, Below.heap_setCell _ _ _ _ hbab]; exact hbQ.out
  · refine ((KWR.out.sub (S' := [q, b]) (by simp)).trans2 KX ?_)
    intro i hi
    simp at hi ⊢
    omega
  · have hz : ∀ v x, ((WQ.setCell ⟨w1.heap.size + 1, 0, none⟩ x).setCell ⟨q, 0, none⟩ v).cell? ⟨q, 0, none⟩ = some v := by intro v x; go_simp
    exact hz _ _

end Go.Proofs.YtlpddogcnpokfaaGreat.I
