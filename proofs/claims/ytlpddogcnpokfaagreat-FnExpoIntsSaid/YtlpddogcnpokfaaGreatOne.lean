/- expoAwake is true; expoOne: the data point of one round that is asked. -/
import Derived.Test.YtlpddogcnpokfaaGreatEx5
import Derived.Test.YtlpddogcnpokfaaGreatSp7
import Derived.Test.YtlpddogcnpokfaaGreatOv
import Derived.Deep.MidRow
namespace Go.Proofs.YtlpddogcnpokfaaGreat
open Go.RowKit Go.Maps
def l124 : List Nat := [4607182418800017408, 4611686018427387904, 4616189618054758400]
theorem fine124 : Fine 0 160 (((0 : Nat) : Int) - 0).toNat 0 l124 := by
  refine ⟨?_, ?_, ?_, Nat.le_refl _, by decide, ?_, ?_⟩
  · decide
  · decide
  · decide
  · have : pIs 0 l124 = [-1, 0, 1] := by decide
    rw [this]; decide
  · have : nIs 0 l124 = [] := by decide
    rw [this]; decide
theorem bk124 : bkOf 0 160 0 l124 = ⟨0, -1, [1, 1, 1], 0, [], 0⟩ := by kernel_rfl
/-- the one data point of a result -/
theorem ResAt.one {w : World} {top : Nat} {ms S : Int} {acc : Nat → List Nat} {V : Value} {es : List (List Value)} (h : ResAt w [] top ms S acc V 1 es) :
    ∃ g c cs, V = .slice (some ⟨g, 0, none⟩) 1 c ∧ cs.length = 11 ∧ ExIs w [] top ms S (acc 0) cs ∧ ∀ j u, cs[j]? = some u → w.cell? ⟨g, j, none⟩ = some u := by
  have hl := h.len
  match es, hl with
  | [cs], _ =>
    obtain ⟨h11, hx⟩ := h.el 0 (by decide)
    obtain ⟨g, c, rfl⟩ := own_form h.own.1 (by decide)
    refine ⟨g, c, cs, rfl, h11, hx, fun j u hj => ?_⟩
    have := (h.own.1.cells (g := g) rfl) j u (by simpa using hj)
    rw [add0] at this
    exact this

theorem aw11 (hov : ∀ w1, Calls Tryz.prog 71 #[] w1 fun e w' => ∃ x : Int, e = .returned (.agg #[.int .u64 x]) ∧ Kept [] w1 w') (w : World) : Calls Tryz.prog 11 #[] w fun e w' => e = .returned (.bool true) ∧ Kept [] w w' := by
  have HV := Lib.hid hov
  clear hov
  have hk0 : Kept [] w (w.alloc (.cells #[.float .f64 4607182418800017408, .float .f64 4611686018427387904, .float .f64 4616189618054758400] 32)) := (Kept.refl _ _).alloc _
  have HA := Lib.hid (show SlAt (w.alloc (.cells #[.float .f64 4607182418800017408, .float .f64 4611686018427387904, .float .f64 4616189618054758400] 32)) (.slice (some ⟨w.heap.size, 0, none⟩) 3 3) (l124.map Fl) from
    .inr ⟨⟨w.heap.size, 0, none⟩, 3, rfl, by simp, by decide, by decide, new_cells w (l124.map Fl) 32⟩)
  have H0' := Lib.hid hk0
  clear hk0
  go_enter Tryz.func11, Tryz.ntmps11
  go_wp2_with fail
  refine (bits20 _ l124 _ HA.out (by decide)).mono ?_; rintro e w1 ⟨v1, rfl, ho, hk⟩
  obtain ⟨g1, c1, rfl⟩ := own_form ho (by decide)
  have HO := Lib.hid ho
  have HK := Lib.hid (H0'.out.trans hk)
  clear ho hk HA H0'
  go_wp2_with fail
  have hk2 : Kept [] w1 (w1.alloc (.cells #[.slice (some ⟨g1, 0, none⟩) l124.length c1] 24)) := (Kept.refl _ _).alloc _
  refine (floats22d 0 160 0 [l124] (.slice (some ⟨w1.heap.size, 0, none⟩) 1 1) [.slice (some ⟨g1, 0, none⟩) l124.length c1] _
    (.inr ⟨⟨w1.heap.size, 0, none⟩, 1, rfl, by simp, Nat.le_refl _, by decide, new_cells w1 [.slice (some ⟨g1, 0, none⟩) l124.length c1] 24⟩) rfl
    (fun i hi => by
      have : i = 0 := by simp at hi; exact hi
      subst this
      exact (SlAt.own HO.out).kept hk2)
    (fun i hi => by
      have : i = 0 := by simp at hi; exact hi
      subst this
      exact ⟨0, fine124⟩) (by decide) (by decide) (by decide) (by decide) (by decide) (by decide) (by decide) HV.out).mono ?_
  rintro e w2 ⟨V, es, rfl, hres, hk⟩
  obtain ⟨g, c, cs, rfl, h11, hx, hc⟩ := ResAt.one hres
  have hacc : accL true [l124] 0 = l124 := rfl
  rw [hacc] at hx
  rcases hx with ⟨h0, _⟩ | ⟨_, r, mn, mx, va, vb, _, _, rfl, ha, _⟩
  · cases h0
  rw [bk124] at hc ha
  obtain ⟨ga, ca, rfl⟩ := own_form ha.1 (by decide)
  have d0 : w2.cell? ⟨g, 0, none⟩ = some (.bool true) := hc 0 _ rfl
  have d1 : w2.cell? ⟨g, 1, none⟩ = some (.int .u64 3) := hc 1 _ rfl
  have d5 : w2.cell? ⟨g, 5, none⟩ = some (.int .i32 0) := hc 5 _ rfl
  have d7 : w2.cell? ⟨g, 7, none⟩ = some (.int .i32 (-1)) := hc 7 _ rfl
  have d8 : w2.cell? ⟨g, 8, none⟩ = some (.slice (some ⟨ga, 0, none⟩) 3 ca) := hc 8 _ rfl
  have HS := Lib.hid (SlAt.own ha.1)
  have HK2 := Lib.hid (HK.out.trans (hk2.trans hk))
  clear hc ha h11 hres hk hk2 HK HO HV hacc
  go_wp2_with fail
  refine (equal13 [1, 1, 1] [1, 1, 1] _ _ _ (HS.out.kept ((Kept.refl _ _).alloc _)) (.inr ⟨⟨w2.heap.size, 0, none⟩, 3, rfl, by simp, by decide, by decide, new_cells w2 ([1, 1, 1].map U) 23⟩) (by decide)).mono ?_; rintro e w3 ⟨rfl, hk⟩
  have HK3 := Lib.hid (HK2.out.trans (((Kept.refl _ _).alloc _).trans hk))
  clear hk
  go_wp2_with fail
  go_ret
  exact ⟨by simp, HK3.out⟩
end Go.Proofs.YtlpddogcnpokfaaGreat
namespace Go.Proofs.YtlpddogcnpokfaaGreat
open Go.RowKit Go.Maps
/-- the greatest of a scale and 0 -/
def topOf (scale : Int) : Nat := (max scale 0).toNat
/-- what is asked of one round -/
def Asked (size scale : Int) (l : List Nat) : Prop := (1 ≤ size ∧ size ≤ 200 ∧ -10 ≤ scale ∧ scale ≤ 20) ∧ l.length ≤ 60 ∧ l ≠ [] ∧ Fine (topOf scale) size ((topOf scale : Int) - scale).toNat (topOf scale + 10) l
/-- a data point of one round -/
def OneIs (w : World) (size scale : Int) (l : List Nat) (cs : List Value) : Prop :=
  ∃ b s r mn mx va vb, BkOk (topOf scale) size ((topOf scale : Int) - scale).toNat (pIs (topOf scale) l) (nIs (topOf scale) l) (zIs l) b s ∧ s.pl.sum + s.nl.sum + s.zc = l.length ∧ BkLim s ∧ mmOf l = some (mn, mx) ∧
    cs = exVals (s.pl.sum + s.nl.sum + s.zc) r mn mx s va vb ∧ w.ownsRow 0 23 1 va s.pl.length (s.pl.map U) ∧ w.ownsRow 0 23 1 vb s.nl.length (s.nl.map U)
def OnePost (w : World) (size scale : Int) (l : List Nat) (e : Ending) (w' : World) : Prop :=
  ∃ cs asked, e = .returned (.tuple #[.agg (List.toArray cs), .bool asked, .bool true]) ∧ cs.length = 11 ∧ (List.toArray cs).all (·.oneCell') = true ∧ Kept [] w w' ∧ ((asked = false ∧ ¬ Asked size scale l) ∨ (asked = true ∧ Asked size scale l ∧ OneIs w' size scale l cs))
theorem OneIs.kept {w w' : World} {size scale : Int} {l : List Nat} {cs : List Value} (h : OneIs w size scale l cs) (hk : Kept [] w w') : OneIs w' size scale l cs := by
  obtain ⟨b, s, r, mn, mx, va, vb, h1, h2, h3, h4, h5, h6, h7⟩ := h
  exact ⟨b, s, r, mn, mx, va, vb, h1, h2, h3, h4, h5, own_keptK h6 hk (by simp), own_keptK h7 hk (by simp)⟩
theorem res10 {tmps : Array Value} {w : World} {g : Nat} {cs : Array Value} {b1 b2 : Bool} (h6 : tmps.getD 6 undef = .pointer (some ⟨g, 0, none⟩)) (h7 : tmps.getD 7 undef = .bool b1) (h8 : tmps.getD 8 undef = .bool b2) (hg : w.heap[g]? = some (.cells cs 26 (0, 0))) (hs : cs.size = 11) :
    (results Tryz.f10 tmps).run Tryz.prog w = .ok (.tuple #[.agg cs, .bool b1, .bool b2]) w := by
  have hl : (loadVar 26 ⟨g, 0, none⟩).run Tryz.prog w = .ok (.agg cs) w := run_loadVar_row w g 26 26 cs (0, 0) _ hg Tryz.underlying26 rfl (by rw [hs]; kernel_rfl)
  simp only [Array.getD_eq_getD_getElem?] at h6 h7 h8
  simp [results, h6, h7, h8, hl, asAddr]
theorem sz26 {cs : List Value} (h : cs.length = 11) : (Tryz.prog.info? 26).map (·.size) = some cs.toArray.size := by rw [List.size_toArray, h]; kernel_rfl
theorem sz26' {cs : List Value} (h : cs.length = 11) : (Tryz.prog.info? 26).map (·.size) = some cs.length := by rw [h]; kernel_rfl
theorem sz43 {cs : List Value} (h : cs.length = 11) : (Tryz.prog.info? 43).map (·.size) = some cs.toArray.size := by rw [List.size_toArray, h]; kernel_rfl
theorem slForm {w : World} {v : Value} {xs : List Value} (h : SlAt w v xs) : v.oneCell' = true := by
  obtain ⟨p, n, c, rfl⟩ := h.form; rfl
theorem exVals_one {w : World} {cnt r mn mx : Nat} {s : Bk} {va vb : Value} {xs ys : List Value} (h1 : SlAt w va xs) (h2 : SlAt w vb ys) : (exVals cnt r mn mx s va vb).toArray.all (·.oneCell') = true := by
  have := slForm h1; have := slForm h2
  simp [exVals, U, *]; simp [Value.oneCell']
set_option maxHeartbeats 1000000 in
set_option maxRecDepth 100000 in
theorem one10 (size scale : Int) (l : List Nat) (V : Value) (w : World) (hl : SlAt w V (l.map Fl)) (hlt : ∀ v, v ∈ l → v < 18446744073709551616) : Calls Tryz.prog 10 #[.int .i32 size, .int .i32 scale, V] w (OnePost w size scale l) := by
  by_cases hr : 1 ≤ size ∧ size ≤ 200 ∧ -10 ≤ scale ∧ scale ≤ 20
  case neg =>
    obtain ⟨p, c, rfl, hp⟩ := hl.read
    rw [List.length_map] at *
    have HN := Lib.hid (show ¬ Asked size scale l from fun h => hr h.1)
    have HQ := Lib.hid (decide_eq_false hr)
    clear hr hp hl hlt
    go_enter Tryz.func10, Tryz.ntmps10
    go_wp2_with fail
    refine (right17 _ _ _).mono ?_; rintro e w1 ⟨rfl, hk⟩
    rw [HQ.out]
    have HK := Lib.hid hk.past
    have HH := Lib.hid (hk.obj (MapKept.heap_alloc w _).1 (by simp))
    clear hk
    go_wp2_with (refine wpList_store_row rfl 26 _ _ rfl w.heap.size exZero.toArray rfl rfl 26 exZero.toArray HH.out (sz26 rfl) rfl exz_one ?_)
    (try simp only [Exit.inBlock, Exit.then])
    refine bodyPost_ret (res10 (g := w.heap.size) (cs := exZero.toArray) (b1 := false) (b2 := true) rfl rfl rfl (setRow_heap _ _ _ _ _ _ HH.out) rfl) rfl ?_
    exact ⟨exZero, false, rfl, rfl, exz_one, setRow_kept HK.out (.inr (Nat.le_refl _)), .inl ⟨rfl, HN.out⟩⟩
  have HQ := Lib.hid (decide_eq_true hr)
  by_cases h60 : l.length ≤ 60
  case neg =>
    obtain ⟨p, c, rfl, hp⟩ := hl.read
    rw [List.length_map] at *
    have HN := Lib.hid (show ¬ Asked size scale l from fun h => h60 h.2.1)
    have hg : (60 : Int) < (l.length : Int) := by omega
    clear hr hp hl hlt h60
    go_enter Tryz.func10, Tryz.ntmps10
    go_wp2_with fail
    refine (right17 _ _ _).mono ?_; rintro e w1 ⟨rfl, hk⟩
    rw [HQ.out]
    have HK := Lib.hid hk.past
    have HH := Lib.hid (hk.obj (MapKept.heap_alloc w _).1 (by simp))
    clear hk
    go_wp2_with (refine wpList_store_row rfl 26 _ _ rfl w.heap.size exZero.toArray rfl rfl 26 exZero.toArray HH.out (sz26 rfl) rfl exz_one ?_)
    (try simp only [Exit.inBlock, Exit.then])
    refine bodyPost_ret (res10 (g := w.heap.size) (cs := exZero.toArray) (b1 := false) (b2 := true) rfl rfl rfl (setRow_heap _ _ _ _ _ _ HH.out) rfl) rfl ?_
    exact ⟨exZero, false, rfl, rfl, exz_one, setRow_kept HK.out (.inr (Nat.le_refl _)), .inl ⟨rfl, HN.out⟩⟩
  by_cases h0 : l = []
  case pos =>
    subst h0
    obtain ⟨p, c, rfl, hp⟩ := hl.read
    rw [List.length_map] at *
    have HN := Lib.hid (show ¬ Asked size scale [] from fun h => h.2.2.1 rfl)
    clear hr hp hl hlt h60
    go_enter Tryz.func10, Tryz.ntmps10
    go_wp2_with fail
    refine (right17 _ _ _).mono ?_; rintro e w1 ⟨rfl, hk⟩
    rw [HQ.out]
    have HK := Lib.hid hk.past
    have HH := Lib.hid (hk.obj (MapKept.heap_alloc w _).1 (by simp))
    clear hk
    go_wp2_with (refine wpList_store_row rfl 26 _ _ rfl w.heap.size exZero.toArray rfl rfl 26 exZero.toArray HH.out (sz26 rfl) rfl exz_one ?_)
    (try simp only [Exit.inBlock, Exit.then])
    refine bodyPost_ret (res10 (g := w.heap.size) (cs := exZero.toArray) (b1 := false) (b2 := true) rfl rfl rfl (setRow_heap _ _ _ _ _ _ HH.out) rfl) rfl ?_
    exact ⟨exZero, false, rfl, rfl, exz_one, setRow_kept HK.out (.inr (Nat.le_refl _)), .inl ⟨rfl, HN.out⟩⟩
  obtain ⟨p, c, hV, hp⟩ := hl.read
  rw [List.length_map] at *
  subst hV
  have hln : 0 < l.length := List.length_pos_iff.2 h0
  have hg : decide ((60 : Int) < (l.length : Int)) = false := decide_eq_false (by omega)
  have hg0 : ((l.length : Int) == 0) = false := by rw [beq_eq_false_iff_ne]; omega
  have ht : ((topOf scale : Nat) : Int) = max scale 0 := by unfold topOf; omega
  have HI := Lib.hid (And.intro hr (And.intro h60 (And.intro h0 (And.intro hlt ht))))
  have HL := Lib.hid hl
  clear hp hlt ht hl h60 h0 hr hln
  go_enter Tryz.func10, Tryz.ntmps10
  go_wp2_with fail
  refine (right17 _ _ _).mono ?_; rintro e w1 ⟨rfl, hk⟩
  rw [HQ.out]
  have HK := Lib.hid hk.past
  have HH := Lib.hid (hk.obj (MapKept.heap_alloc w _).1 (by simp))
  clear hk
  go_wp2_with fail
  refine (point19 l (topOf scale) size scale _ w1 (HL.out.kept HK.out) HI.out.2.2.2.1 (by have := HI.out.2.1; omega) HI.out.2.2.1 HI.out.1.1 HI.out.1.2.1 HI.out.1.2.2.1 HI.out.1.2.2.2 HI.out.2.2.2.2).mono ?_
  rintro e w2 ⟨cs, op, rfl, hk2, h⟩
  have hcs : cs.length = 11 ∧ (List.toArray cs).all (·.oneCell') = true := by
    rcases h with ⟨_, rfl, _⟩ | ⟨_, _, b, s, stp, lp, stn, ln, va, vb, _, _, _, _, _, _, _, _, rfl, ha, hb⟩
    · exact ⟨rfl, exz_one⟩
    · refine ⟨rfl, ?_⟩
      have h1 := slForm ha; have h2 := slForm hb
      simp [U, h1, h2]; simp [Value.oneCell']
  have HH2 := Lib.hid (hk2.obj HH.out (by simp))
  have HK2 := Lib.hid (HK.out.trans hk2)
  have H43 := Lib.hid (MapKept.heap_alloc w2 (.cells exZero.toArray 43)).1
  have HC := Lib.hid (And.intro hcs.1 (And.intro hcs.2 (show exZero.toArray.size = cs.toArray.size from by rw [List.size_toArray, List.size_toArray, hcs.1]; rfl)))
  have hs2 : w.heap.size < w2.heap.size := heap_lt HH2.out
  have HS2 := Lib.hid hs2
  clear hk2 hcs HK HH hs2
  cases op
  · have HF : Fine (topOf scale) size ((topOf scale : Int) - scale).toNat (topOf scale + 10) l := by
      rcases h with ⟨h, _⟩ | ⟨_, hf, _⟩
      · cases h
      · exact hf
    have HF := Lib.hid HF
    clear h
    go_wp2_with (refine wpList_store_row rfl 43 _ _ rfl w2.heap.size cs.toArray rfl rfl 43 exZero.toArray H43.out (sz43 HC.out.1) HC.out.2.2 HC.out.2.1 ?_)
    obtain ⟨W3, hW3⟩ : ∃ W, W = (w2.alloc (.cells exZero.toArray 43)).setRow w2.heap.size cs.toArray := ⟨_, rfl⟩
    have hk3 : Kept [] w2 W3 := by rw [hW3]; exact setRow_kept ((Kept.refl _ _).alloc _) (.inr (Nat.le_refl _))
    have HH3 := Lib.hid (hk3.obj HH2.out (by simp))
    have HK3 := Lib.hid (HK2.out.trans hk3)
    clear hk3
    rw [show ((w2.alloc (.cells #[.bool false, .int .u64 0, .int .u64 0, .int .u64 0, .int .u64 0, .int .i32 0, .int .u64 0, .int .i32 0, .slice none 0 0, .int .i32 0, .slice none 0 0] 43)).setRow w2.heap.size cs.toArray) = W3 from hW3.symm]
    clear hW3 HH2 HK2 H43 HC HS2
    refine (bits20 _ l _ (HL.out.kept HK3.out) (by have := HI.out.2.1; omega)).mono ?_; rintro e w4 ⟨v4, rfl, ho, hk⟩
    obtain ⟨g1, c1, rfl⟩ := own_form ho (List.length_pos_iff.2 HI.out.2.2.1)
    have HO := Lib.hid ho
    have HK4 := Lib.hid (HK3.out.trans hk)
    have HH4 := Lib.hid (hk.obj HH3.out (by simp))
    clear ho hk HK3 HH3
    go_wp2_with fail
    have hk5 : Kept [] w4 (w4.alloc (.cells #[.slice (some ⟨g1, 0, none⟩) l.length c1] 24)) := (Kept.refl _ _).alloc _
    have hacc : accL true [l] 0 = l := rfl
    refine (floats22d (topOf scale) size scale [l] (.slice (some ⟨w4.heap.size, 0, none⟩) 1 1) [.slice (some ⟨g1, 0, none⟩) l.length c1] _
      (.inr ⟨⟨w4.heap.size, 0, none⟩, 1, rfl, by simp, Nat.le_refl _, by decide, new_cells w4 [.slice (some ⟨g1, 0, none⟩) l.length c1] 24⟩) rfl
      (fun i hi => by
        have : i = 0 := by simp at hi; exact hi
        subst this
        exact (SlAt.own HO.out).kept hk5)
      (fun i hi => by
        have : i = 0 := by simp at hi; exact hi
        subst this
        exact ⟨_, HF.out⟩) (by simp) (by have := HI.out.2.1; simp; omega) HI.out.1.1 HI.out.1.2.1 (by have := HI.out.2.2.2.2; have := HI.out.1; omega) (by have := HI.out.2.2.2.2; omega) HI.out.1.2.2.1 over71).mono ?_
    rintro e w6 ⟨V, es, rfl, hres, hk⟩
    obtain ⟨g, c6, cs6, rfl, h11, hx, hc6⟩ := ResAt.one hres
    rw [hacc] at hx
    have hh6 : w6.heap[w.heap.size]? = some (.cells exZero.toArray 26 (0, 0)) := hk.obj (hk5.obj HH4.out (by simp)) (by simp)
    have hfar : ∀ (v : Value) (n : Nat) (xs : List Value), w6.ownsRow 0 23 1 v n xs → (w6.setRow w.heap.size cs6.toArray).ownsRow 0 23 1 v n xs := fun v n xs hv =>
      own_keptK hv (setRow_kept (S := [w.heap.size]) (Kept.refl _ _) (.inl (by simp))) (fun z hz hm => by
        obtain ⟨cur, hcur⟩ := own_type hv hz
        simp at hm; subst hm
        rw [hh6] at hcur
        cases hcur)
    have hfin : OneIs (w6.setRow w.heap.size cs6.toArray) size scale l cs6 := by
      rcases hx with ⟨h0, _⟩ | ⟨_, r, mn, mx, va, vb, hmm, _, he, ha, hb⟩
      · exact absurd h0 HI.out.2.2.1
      · obtain ⟨b, hbk⟩ := HF.out.ok HI.out.1.1 (by have := HI.out.2.2.2.2; have := HI.out.1; omega) (by have := HI.out.2.2.2.2; omega)
        obtain ⟨hlim, _, hsum⟩ := HF.out.lim HI.out.1.1 HI.out.1.2.1 (by have := HI.out.2.2.2.2; have := HI.out.1; omega) (by have := HI.out.2.2.2.2; omega) (by have := HI.out.2.1; omega)
        exact ⟨b, _, r, mn, mx, va, vb, hbk, hsum, hlim, hmm, he, hfar _ _ _ ha.1, hfar _ _ _ hb.1⟩
    have hone : (List.toArray cs6).all (·.oneCell') = true := by
      obtain ⟨b, s, r, mn, mx, va, vb, _, _, _, _, rfl, ha, hb⟩ := hfin
      exact exVals_one (SlAt.own ha) (SlAt.own hb)
    have HX := Lib.hid (And.intro hfin (And.intro hone h11))
    have HR := Lib.hid (show w6.rangeAt g 0 cs6 from fun j v hj => by rw [Nat.zero_add]; exact hc6 j v hj)
    have HK6 := Lib.hid (HK4.out.trans (hk5.trans hk))
    have HH6 := Lib.hid hh6
    have HZ := Lib.hid (show exZero.toArray.size = cs6.toArray.size from by rw [List.size_toArray, List.size_toArray, h11]; rfl)
    clear hres hk hk5 hx hfin hone hc6 h11 hacc HO HK4 HH4 hh6 hfar
    go_wp2_with (first
      | (refine wpList_load_mid rfl 26 _ rfl g 0 rfl cs6 _ HR.out Tryz.underlying26 rfl (sz26' HX.out.2.2) ?_)
      | (refine wpList_store_row rfl 26 _ _ rfl w.heap.size cs6.toArray rfl rfl 26 exZero.toArray HH6.out (sz26 HX.out.2.2) HZ.out HX.out.2.1 ?_))
    (try simp only [Exit.inBlock, Exit.then])
    refine bodyPost_ret (res10 (g := w.heap.size) (cs := cs6.toArray) (b1 := true) (b2 := true) rfl rfl rfl (setRow_heap _ _ _ _ _ _ HH6.out) (by rw [List.size_toArray]; exact HX.out.2.2)) rfl ?_
    refine ⟨cs6, true, rfl, HX.out.2.2, HX.out.2.1, setRow_kept HK6.out (.inr (Nat.le_refl _)), .inr ⟨rfl, ⟨HI.out.1, HI.out.2.1, HI.out.2.2.1, HF.out⟩, HX.out.1⟩⟩
  · have HN := Lib.hid (show ¬ Asked size scale l from fun h' => by
      rcases h with ⟨_, _, h⟩ | ⟨h, _⟩
      · exact h h'.2.2.2
      · cases h)
    clear h
    have HK3 := Lib.hid (setRow_kept (cs := cs.toArray) (g := w2.heap.size) (HK2.out.alloc (.cells exZero.toArray 43)) (.inr (by have := HS2.out; omega)))
    have HH3 := Lib.hid (show ((w2.alloc (.cells exZero.toArray 43)).setRow w2.heap.size cs.toArray).heap[w.heap.size]? = some (.cells exZero.toArray 26 (0, 0)) from
      (setRow_kept (S := [w2.heap.size]) ((Kept.refl [w2.heap.size] w2).alloc _) (.inl (by simp))).obj HH2.out (by have := HS2.out; simp; omega))
    go_wp2_with (first
      | (refine wpList_store_row rfl 43 _ _ rfl w2.heap.size cs.toArray rfl rfl 43 exZero.toArray H43.out (sz43 HC.out.1) HC.out.2.2 HC.out.2.1 ?_)
      | (refine wpList_store_row rfl 26 _ _ rfl w.heap.size exZero.toArray rfl rfl 26 exZero.toArray HH3.out (sz26 rfl) rfl exz_one ?_))
    (try simp only [Exit.inBlock, Exit.then])
    refine bodyPost_ret (res10 (g := w.heap.size) (cs := exZero.toArray) (b1 := false) (b2 := true) rfl rfl rfl (setRow_heap _ _ _ _ _ _ HH3.out) rfl) rfl ?_
    exact ⟨exZero, false, rfl, rfl, exz_one, setRow_kept HK3.out (.inr (Nat.le_refl _)), .inl ⟨rfl, HN.out⟩⟩
/-- the numbers 1, 2 and 4 have one bucket each -/
theorem awake (w : World) : Calls Tryz.prog 11 #[] w fun e w' => e = .returned (.bool true) ∧ Kept [] w w' := aw11 over71 w
end Go.Proofs.YtlpddogcnpokfaaGreat
