/- FnExpoCounts: the walk of the law. -/
import Derived.Test.YtlpddogcnpokfaaGreatOne
import Derived.Test.YtlpddogcnpokfaaGreatPl2
namespace Go.Proofs.YtlpddogcnpokfaaGreat
open Go.RowKit Go.Maps
/-- a law's end: true, and old memory as it was -/
def LawTrue (w : World) (e : Ending) (w' : World) : Prop := e = .returned (.bool true) ∧ Kept [] w w'
/-- the two sides of a data point in memory -/
structure Sides (w : World) (B : Nat) (size : Int) (zc : Nat) (vs : Nat → Value) (ls : Nat → List Nat) : Prop where
  cell : ∀ j, j < 2 → w.cell? ⟨B, j, none⟩ = some (vs j)
  sl : ∀ j, j < 2 → SlAt w (vs j) ((ls j).map U)
  len : ∀ j, j < 2 → ((ls j).length : Int) ≤ size
  ends : ∀ j, j < 2 → 0 < (ls j).length → (ls j).getD 0 0 ≠ 0 ∧ (ls j).getD ((ls j).length - 1) 0 ≠ 0
  sum : zc + (ls 0).sum + (ls 1).sum < 1000000
/-- the counts of the first sides -/
def sdSum (zc : Nat) (ls : Nat → List Nat) (j : Nat) : Nat := zc + (if 0 < j then (ls 0).sum else 0) + (if 1 < j then (ls 1).sum else 0)
theorem sdSum_succ (zc : Nat) (ls : Nat → List Nat) (j : Nat) (hj : j < 2) : sdSum zc ls (j + 1) = sdSum zc ls j + (ls j).sum := by
  unfold sdSum
  rcases Nat.lt_or_ge j 1 with h | h
  · obtain rfl : j = 0 := by omega
    simp
  · obtain rfl : j = 1 := by omega
    simp
theorem addr_zero (a : Addr) : a.add 0 = a := by unfold Addr.add; split <;> simp_all
set_option maxHeartbeats 2000000 in
set_option maxRecDepth 100000 in
theorem counts3 (size scale : Int) (l : List Nat) (V : Value) (w : World) (hl : SlAt w V (l.map Fl)) (hlt : ∀ v, v ∈ l → v < 18446744073709551616) : Calls Tryz.prog 3 #[.int .i32 size, .int .i32 scale, V] w (LawTrue w) := by
  obtain ⟨p, c, rfl, hp⟩ := hl.read
  rw [List.length_map] at *
  clear hp
  by_cases hbig : (2147483647 : Int) < (l.length : Int)
  · go_enter Tryz.func3, Tryz.ntmps3
    go_wp2_with fail
    go_ret
    exact ⟨rfl, Kept.refl _ _⟩
  have hbg : decide ((2147483647 : Int) < (l.length : Int)) = false := decide_eq_false hbig
  have HL := Lib.hid (And.intro hl hlt)
  clear hbig hl hlt
  go_enter Tryz.func3, Tryz.ntmps3
  go_wp2_with fail
  refine (one10 size scale l _ w HL.out.1 HL.out.2).mono ?_
  rintro e w1 ⟨cs, asked, rfl, h11, hone, hk1, h⟩
  have HK1 := Lib.hid hk1
  have H26 := Lib.hid (MapKept.heap_alloc w1 (.cells exZero.toArray 26)).1
  have HC := Lib.hid (And.intro h11 (And.intro hone (show exZero.toArray.size = cs.toArray.size from by rw [List.size_toArray, List.size_toArray, h11]; rfl)))
  clear h11 hone hk1
  have hk2 : Kept [] w1 ((w1.alloc (.cells exZero.toArray 26)).setRow w1.heap.size cs.toArray) := setRow_kept ((Kept.refl _ _).alloc _) (.inr (Nat.le_refl _))
  have HK2 := Lib.hid hk2
  clear hk2
  cases asked
  · clear h
    go_wp2_with (refine wpList_store_row rfl 26 _ _ rfl w1.heap.size cs.toArray rfl rfl 26 exZero.toArray H26.out (sz26 HC.out.1) HC.out.2.2 HC.out.2.1 ?_)
    refine (awake _).mono ?_; rintro e w3 ⟨rfl, hk⟩
    have HK3 := Lib.hid (HK1.out.trans (HK2.out.trans hk))
    clear hk
    go_wp2_with fail
    go_ret
    exact ⟨rfl, HK3.out⟩
  · obtain ⟨hask, hone⟩ : Asked size scale l ∧ OneIs w1 size scale l cs := by
      rcases h with ⟨h, _⟩ | ⟨_, h⟩
      · cases h
      · exact h
    clear h
    obtain ⟨b, s, r, mn, mx, va, vb, hbk, hsum, hlim, hmm, hcs, ha, hb⟩ := hone
    obtain ⟨W2, hW2⟩ : ∃ W, W = (w1.alloc (.cells exZero.toArray 26)).setRow w1.heap.size cs.toArray := ⟨_, rfl⟩
    have hk2 : Kept [] w1 W2 := by rw [hW2]; exact HK2.out
    have hcell : ∀ j u, (exVals (s.pl.sum + s.nl.sum + s.zc) r mn mx s va vb)[j]? = some u → W2.cell? ⟨w1.heap.size, j, none⟩ = some u := fun j u hj => by
      rw [hW2]
      exact cellOf (setRow_heap _ _ _ _ _ _ H26.out) (by rw [hcs]; simpa using hj)
    have hB : W2.heap.size = w1.heap.size + 1 := by rw [hW2]; simp
    obtain ⟨pa, na, ca, rfl⟩ := ha.form
    obtain ⟨pb, nb, cb, rfl⟩ := hb.form
    have d0 : W2.cell? ⟨w1.heap.size, 0, none⟩ = some (.bool true) := hcell 0 _ rfl
    have d1 : W2.cell? ⟨w1.heap.size, 1, none⟩ = some (.int .u64 ((l.length : Nat) : Int)) := by rw [← hsum]; exact hcell 1 _ rfl
    have d5 : W2.cell? ⟨w1.heap.size, 5, none⟩ = some (.int .i32 s.sc) := hcell 5 _ rfl
    have d6 : W2.cell? ⟨w1.heap.size, 6, none⟩ = some (.int .u64 ((s.zc : Nat) : Int)) := hcell 6 _ rfl
    have d8 : W2.cell? ⟨w1.heap.size, 8, none⟩ = some (.slice pa na ca) := hcell 8 _ rfl
    have d10 : W2.cell? ⟨w1.heap.size, 10, none⟩ = some (.slice pb nb cb) := hcell 10 _ rfl
    have HS := Lib.hid (And.intro hask (And.intro hbk (And.intro hsum (And.intro hlim (And.intro (ha.kept hk2) (hb.kept hk2))))))
    have HK3 := Lib.hid (HK1.out.trans hk2)
    clear hask hbk hsum hlim hmm hcs ha hb hk2 hcell HK1 HK2
    obtain ⟨zc, hzc⟩ : ∃ z, z = s.zc := ⟨_, rfl⟩
    obtain ⟨sc, hsc⟩ : ∃ z, z = s.sc := ⟨_, rfl⟩
    rw [← hsc] at d5
    rw [← hzc] at d6
    have HE := Lib.hid (And.intro hzc hsc)
    clear hzc hsc
    go_upto_region 6 with (refine wpList_store_row rfl 26 _ _ rfl w1.heap.size _ rfl rfl 26 exZero.toArray H26.out (sz26 HC.out.1) HC.out.2.2 HC.out.2.1 ?_)
    rw [show ((w1.alloc (.cells #[.bool false, .int .u64 0, .int .u64 0, .int .u64 0, .int .u64 0, .int .i32 0, .int .u64 0, .int .i32 0, .slice none 0 0, .int .i32 0, .slice none 0 0] 26)).setRow w1.heap.size cs.toArray) = W2 from hW2.symm]
    clear hW2 H26 HC
    have hne : w1.heap.size ≠ W2.heap.size := by omega
    have hlt2 : w1.heap.size < W2.heap.size := by omega
    clear hB
    go_wp2_with fail
    obtain ⟨W5, hW5⟩ : ∃ W, W = W2.alloc (.cells #[.slice pa na ca, .slice pb nb cb] 24) := ⟨_, rfl⟩
    rw [← hW5]
    have hk5 : Kept [] W2 W5 := by rw [hW5]; exact (Kept.refl _ _).alloc _
    obtain ⟨vs, hvs⟩ : ∃ vs : Nat → Value, vs = fun j => if j = 0 then .slice pa na ca else .slice pb nb cb := ⟨_, rfl⟩
    obtain ⟨ls, hls⟩ : ∃ ls : Nat → List Nat, ls = fun j => if j = 0 then s.pl else s.nl := ⟨_, rfl⟩
    obtain ⟨B, hB⟩ : ∃ B, B = W2.heap.size := ⟨_, rfl⟩
    have hSd : Sides W5 B size zc vs ls := by
      obtain ⟨hask, hbk, hsum, hlim, ha, hb⟩ := HS.out
      have two : ∀ j, j < 2 → j = 0 ∨ j = 1 := fun j hj => by omega
      refine ⟨?_, ?_, ?_, ?_, ?_⟩
      · intro j hj
        rw [hW5, hvs, hB]
        rcases two j hj with rfl | rfl <;> go_simp
      · intro j hj
        rw [hvs, hls]
        rcases two j hj with rfl | rfl
        · exact ha.kept hk5
        · exact hb.kept hk5
      · intro j hj
        rw [hls]
        rcases two j hj with rfl | rfl
        · exact (hbk.sp.fit hask.1.1).1 hbk.fp
        · exact (hbk.sn.fit hask.1.1).1 hbk.fn
      · intro j hj
        rw [hls]
        rcases two j hj with rfl | rfl
        · exact hbk.sp.ends
        · exact hbk.sn.ends
      · rw [hls, HE.out.1]
        have := hlim.sum
        show s.zc + s.pl.sum + s.nl.sum < 1000000
        omega
    have HSd := Lib.hid hSd
    have HK5 := Lib.hid (HK3.out.trans hk5)
    have e0 := (hk5.cell (k := w1.heap.size) (i := 0) hlt2 (by simp)).trans d0
    have e1 := (hk5.cell (k := w1.heap.size) (i := 1) hlt2 (by simp)).trans d1
    have e5 := (hk5.cell (k := w1.heap.size) (i := 5) hlt2 (by simp)).trans d5
    have HLS := Lib.hid hls
    clear hSd hW5 hk5 hvs hls d0 d1 d5 d6 d8 d10 HK3 hlt2 hne
    rw [← hB]
    clear hB
    go_loopw [10, 37] (fun n i wr => ∃ j : Nat, j ≤ 2 ∧ i = .int .i64 (j : Int) ∧ n = .int .u64 ((sdSum zc ls j : Nat) : Int) ∧ W5 = wr) (fun _ i _ => 2 - (intOf i).toNat)
    case atStart => exact ⟨0, by omega, rfl, by unfold sdSum; simp, rfl⟩
    case round =>
    obtain ⟨j, hj2, rfl, rfl, rfl⟩ := hrel
    by_cases hj : j < 2
    · have hji : (j : Int) < 2 := by omega
      have hjw : IntKind.i64.wrap ((j : Int) + 1) = (j : Int) + 1 := IntWalk.i64_in _ (by omega)
      have hc := HSd.out.cell j hj
      obtain ⟨p2, c2, hv, hr⟩ := (HSd.out.sl j hj).read
      rw [List.length_map] at hv
      rw [hv] at hc
      obtain ⟨L, hL⟩ : ∃ L, L = ls j := ⟨_, rfl⟩
      rw [← hL] at hc hr
      have hb1 : zc + (ls 0).sum + (ls 1).sum < 1000000 := HSd.out.sum
      have hss := sdSum_succ zc ls j hj
      have hsb : sdSum zc ls (j + 1) < 1000000 := by
        unfold sdSum; split <;> split <;> omega
      rw [← hL] at hss
      have hlen : (L.length : Int) ≤ size := by rw [hL]; exact HSd.out.len j hj
      have hends : 0 < L.length → L.getD 0 0 ≠ 0 ∧ L.getD (L.length - 1) 0 ≠ 0 := by rw [hL]; exact HSd.out.ends j hj
      obtain ⟨S, hS⟩ : ∃ S, S = sdSum zc ls j := ⟨_, rfl⟩
      rw [← hS]
      rw [← hS] at hss
      have HX := Lib.hid (And.intro hr (And.intro hss (And.intro hsb (And.intro hlen (And.intro hends hj)))))
      clear hr hss hsb hlen hends hv hb1 hS hL hj2
      go_wp2_with fail
      go_loopw [10, 43] (fun n k wr => ∃ m : Nat, m ≤ L.length ∧ k = .int .i64 (m : Int) ∧ n = .int .u64 ((S + (L.take m).sum : Nat) : Int) ∧ W5 = wr) (fun _ k _ => L.length - (intOf k).toNat)
      case atStart => exact ⟨0, by omega, rfl, by simp, rfl⟩
      case round =>
      obtain ⟨m, hm, rfl, rfl, rfl⟩ := hrel
      obtain ⟨hr, hss, hsb, hlen, hends, hj2⟩ := HX.out
      have hsum' : (L.take m).sum ≤ L.sum := by have := take_sum_le L m L.length hm; rwa [List.take_length] at this
      by_cases hmlt : m < L.length
      · obtain ⟨x, hx⟩ : ∃ x, x = L.getD m 0 := ⟨_, rfl⟩
        have hgx : (L.map U)[m]? = some (U x) := by rw [List.getElem?_map, List.getElem?_eq_getElem hmlt, hx, List.getD_eq_getElem?_getD, List.getElem?_eq_getElem hmlt]; rfl
        obtain ⟨a1, rfl, hcx⟩ := hr m _ hgx
        unfold U at hcx
        have HR := take_succ_sum L m hmlt
        have hb2 : (L.take (m + 1)).sum ≤ L.sum := by have := take_sum_le L (m + 1) L.length (by omega); rwa [List.take_length] at this
        rw [← hx] at HR
        obtain ⟨T, hT⟩ : ∃ T, T = S + (L.take m).sum := ⟨_, rfl⟩
        rw [← hT]
        have w2 : IntKind.u64.wrap ((T : Int) + (x : Int)) = ((T + x : Nat) : Int) := by rw [IntKind.wrap_u64]; omega
        have hmi : (m : Int) < (L.length : Int) := by omega
        have hmw : IntKind.i64.wrap ((m : Int) + 1) = (m : Int) + 1 := IntWalk.i64_in _ (by have : S + L.sum < 1000000 := by omega
                                                                                            have h200 : L.length ≤ 1000000 := by have := HSd.out.len j hj; have := HS.out.1.1; omega
                                                                                            omega)
        have HRR := Lib.hid (And.intro HR hT)
        clear HR hT hx hgx hr hss hsb hlen hends hsum' hb2
        go_wp2_with fail
        go_roundw
        case rel => exact ⟨m + 1, by omega, by go_num, by rw [HRR.out.1]; have := HRR.out.2; congr 1; push_cast; omega, trivial⟩
        case measure => simp [intOf]; omega
      · have hml : m = L.length := by omega
        subst hml
        rw [List.take_length, ← hss]
        have hg1 : decide (size < (L.length : Int)) = false := decide_eq_false (by omega)
        have hsize : IntKind.i64.wrap size = size := IntWalk.i64_in _ (by have := HS.out.1.1; omega)
        have hmi : ¬ (L.length : Int) < (L.length : Int) := by omega
        by_cases hL0 : L = []
        · subst hL0
          have hgz : decide (size < 0) = false := decide_eq_false (by have := HS.out.1.1; omega)
          clear hr hss hsb hlen hends hj2 hsum' hm hmlt
          go_wp2_with fail
          go_roundw
          case rel => exact ⟨j + 1, by omega, by go_num, rfl, trivial⟩
          case measure => simp [intOf]; omega
        · have hpos : 0 < L.length := List.length_pos_iff.2 hL0
          obtain ⟨x, hx⟩ : ∃ x, x = L.getD 0 0 := ⟨_, rfl⟩
          obtain ⟨y, hy⟩ : ∃ y, y = L.getD (L.length - 1) 0 := ⟨_, rfl⟩
          have hgx : (L.map U)[0]? = some (U x) := by rw [List.getElem?_map, List.getElem?_eq_getElem hpos, hx, List.getD_eq_getElem?_getD, List.getElem?_eq_getElem hpos]; rfl
          have hgy : (L.map U)[L.length - 1]? = some (U y) := by rw [List.getElem?_map, List.getElem?_eq_getElem (show L.length - 1 < L.length by omega), hy, List.getD_eq_getElem?_getD, List.getElem?_eq_getElem (show L.length - 1 < L.length by omega)]; rfl
          obtain ⟨a1, rfl, hcx⟩ := hr 0 _ hgx
          obtain ⟨a2, ha2, hcy⟩ := hr (L.length - 1) _ hgy
          injection ha2 with ha2
          subst ha2
          unfold U at hcx hcy
          rw [addr_zero] at hcx
          have hx0 : ((x : Int) == 0) = false := by rw [beq_eq_false_iff_ne]; have := (hends hpos).1; omega
          have hy0 : ((y : Int) == 0) = false := by rw [beq_eq_false_iff_ne]; have := (hends hpos).2; omega
          have hg2 : decide ((0 : Int) < (L.length : Int)) = true := decide_eq_true (by omega)
          have hlw : IntKind.i64.wrap ((L.length : Int) - 1) = ((L.length - 1 : Nat) : Int) := by rw [IntWalk.i64_in _ (by have := HS.out.1.1; omega)]; omega
          have hi0 : (0 : Int) < (L.length : Int) := by omega
          have hi1 : ((L.length - 1 : Nat) : Int) < (L.length : Int) := by omega
          clear hr hss hsb hlen hends hj2 hsum' hm hmlt hx hy hgx hgy
          go_wp2_with fail
          go_roundw
          case rel => exact ⟨j + 1, by omega, by go_num, rfl, trivial⟩
          case measure => simp [intOf]; omega
    · have hj2' : j = 2 := by omega
      subst hj2'
      have hji : ¬ ((2 : Nat) : Int) < 2 := by omega
      have hN : sdSum zc ls 2 = l.length := by
        unfold sdSum
        rw [HLS.out, HE.out.1, ← HS.out.2.2.1]
        show s.zc + s.pl.sum + s.nl.sum = _
        omega
      rw [hN]
      have hlw : IntKind.u64.wrap ((l.length : Int)) = (l.length : Int) := by rw [IntKind.wrap_u64]; have := HS.out.1.2.1; omega
      have hsc : sc ≤ scale := by
        have h1 := HE.out.2
        have h2 := HS.out.2.1.sc
        have h3 := HS.out.2.1.le
        omega
      have hsd : decide (sc ≤ scale) = true := decide_eq_true hsc
      clear hN hj hj2
      go_wp2_with fail
      refine (awake _).mono ?_; rintro e w9 ⟨rfl, hk⟩
      have hlt5 : w1.heap.size < W5.heap.size := cell_lt e0
      replace e0 := (hk.cell (k := w1.heap.size) (i := 0) hlt5 (by simp)).trans e0
      replace e1 := (hk.cell (k := w1.heap.size) (i := 1) hlt5 (by simp)).trans e1
      replace e5 := (hk.cell (k := w1.heap.size) (i := 5) hlt5 (by simp)).trans e5
      have HK9 := Lib.hid (HK5.out.trans hk)
      clear hk hlt5
      go_wp2_with fail
      go_ret
      exact ⟨rfl, HK9.out⟩
end Go.Proofs.YtlpddogcnpokfaaGreat
