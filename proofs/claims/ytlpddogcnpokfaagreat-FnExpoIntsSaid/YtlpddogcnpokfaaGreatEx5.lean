/- The walk of ExpoFloats: round by round, both temporalities. -/
import Derived.Test.YtlpddogcnpokfaaGreatEx3
import Derived.Test.YtlpddogcnpokfaaGreatEx4
namespace Go.Proofs.YtlpddogcnpokfaaGreat
open Go.RowKit
theorem info22 : ∃ i, Tryz.prog.info? 22 = some i ∧ i.zero = some (.slice none 0 0) ∧ i.size = 1 ∧ i.bytes = 24 := by
  have h : (Tryz.prog.info? 22).map (fun i => (i.zero, i.size, i.bytes)) = some (some (.slice none 0 0), 1, 24) := by kernel_rfl
  cases hi : Tryz.prog.info? 22 with
  | none => rw [hi] at h; cases h
  | some i => rw [hi] at h; simp only [Option.map_some, Option.some.injEq, Prod.mk.injEq] at h; exact ⟨i, rfl, h.1, h.2.1, h.2.2⟩
/-- rows of numbers, so far -/
structure FlRows (w : World) (f : Nat → Value) (e : TypeId) (rs : List (List Nat)) (m : Nat) (vs : List Value) : Prop where
  len : vs.length = m
  el : ∀ i, i < m → w.ownsRow 0 e 1 (vs.getD i undef) (rs.getD i []).length ((rs.getD i []).map f)
theorem FlRows.nil (w : World) (f : Nat → Value) (e : TypeId) (rs : List (List Nat)) : FlRows w f e rs 0 [] := ⟨rfl, fun i h => by omega⟩
theorem FlRows.kept {w w' : World} {f : Nat → Value} {e : TypeId} {rs : List (List Nat)} {m : Nat} {vs : List Value} (h : FlRows w f e rs m vs) (hk : Kept [] w w') : FlRows w' f e rs m vs :=
  ⟨h.len, fun i hi => own_keptK (h.el i hi) hk (by simp)⟩
theorem FlRows.push {w w' : World} {f : Nat → Value} {e e' : TypeId} {rs : List (List Nat)} {m k n : Nat} {vs xs : List Value} {v o : Value} (h : FlRows w f e rs m vs) (hv : w.ownsRow 0 e 1 v (rs.getD m []).length ((rs.getD m []).map f)) (ho : w.ownsRow 0 e' k o n xs) (he : e ≠ e') (hg : w.grownBy w' o.ownBlock) :
    FlRows w' f e rs (m + 1) (vs ++ [v]) := by
  refine ⟨by simp [h.len], fun i hi => ?_⟩
  rw [List.getD_eq_getElem?_getD]
  by_cases hin : i < m
  · rw [List.getElem?_append_left (by rw [h.len]; exact hin), ← List.getD_eq_getElem?_getD]
    exact (h.el i hin).kept hg (own_ne (h.el i hin) ho he)
  · have : i = m := by omega
    subst this
    rw [List.getElem?_append_right (by rw [h.len]; exact Nat.le_refl _), h.len, Nat.sub_self]
    exact hv.kept hg (own_ne hv ho he)
theorem FlRows.sl {w : World} {f : Nat → Value} {e : TypeId} {rs : List (List Nat)} {m : Nat} {vs : List Value} (h : FlRows w f e rs m vs) : ∀ i, i < m → SlAt w (vs.getD i undef) ((rs.getD i []).map f) := fun i hi => SlAt.own (h.el i hi)
theorem own_form {w : World} {base : Nat} {e : TypeId} {k : Nat} {v : Value} {n : Nat} {xs : List Value} (h : w.ownsRow base e k v n xs) (hn : 0 < n) : ∃ g cap, v = .slice (some ⟨g, 0, none⟩) n cap := by
  rcases h.2 with ⟨_, h0⟩ | ⟨g, cap, cur, hv, _⟩
  · omega
  · exact ⟨g, cap, hv⟩
theorem own_shape {w : World} {base : Nat} {e : TypeId} {k : Nat} {v : Value} {n : Nat} {xs : List Value} (h : w.ownsRow base e k v n xs) : ∃ ad cap, v = .slice ad n cap := by
  rcases h.2 with ⟨h1, h0⟩ | ⟨g, cap, cur, hv, _⟩
  · subst h0; exact ⟨none, 0, h1⟩
  · exact ⟨_, cap, hv⟩

theorem expo40d_nil (top : Nat) (ms S : Int) (w : World) (hs : 1 ≤ ms) (hs2 : ms ≤ 200) :
    Calls Tryz.prog 40 #[.bool true, .int .i32 ms, .int .i32 S, .slice none 0 0, .func (.func 30) #[] #[]] w (ExPost w top ms S true []) := by
  go_enter Tryz.func40, Tryz.ntmps40
  go_wp2_with fail
  have h47 := bld47 ms S (w.alloc (.cells #[.int .u8 2, .nilFunc, .int .i64 0] 118)) (by omega) (by omega)
  unfold bldV at h47
  refine h47.mono ?_
  clear h47
  rintro e w1 ⟨p, h, b, rfl, hp, hh, hb, hne, hlp, hlh, hlb, hk1⟩
  have HK := Lib.hid hk1.past
  clear hp hh hb hk1 hne hlp hlh hlb
  go_wp2_with fail
  refine wp_loop_once ?_
  go_wp2_with fail
  go_ret
  exact ⟨_, [], rfl, ResAt.nil _ _ _ _ _ _, HK.out⟩

set_option maxHeartbeats 1000000 in
set_option maxRecDepth 100000 in
theorem floats22d_some (top : Nat) (ms S : Int) (rs : List (List Nat)) (a : Addr) (vc : Nat) (vs : List Value) (w : World) (hvs : vs.length = rs.length) (hab : a.block < w.heap.size) (hrs0 : 0 < rs.length)
    (hv : ∀ i u, vs[i]? = some u → w.cell? (a.add i) = some u) (hr : ∀ i, i < rs.length → SlAt w (vs.getD i undef) ((rs.getD i []).map U))
    (hf : ∀ i, i < rs.length → ∃ B, Fine top ms ((top : Int) - S).toNat B (accL true rs i)) (hlen : rs.length ≤ 500) (htot : rs.flatten.length ≤ 500)
    (hs : 1 ≤ ms) (hs2 : ms ≤ 200) (ht : top ≤ 20) (hS : S ≤ top) (hS2 : -10 ≤ S)
    (hov : ∀ w1, Calls Tryz.prog 71 #[] w1 fun e w' => ∃ x : Int, e = .returned (.agg #[.int .u64 x]) ∧ Kept [] w1 w') :
    Calls Tryz.prog 22 #[.bool true, .int .i32 ms, .int .i32 S, .slice (some a) rs.length vc] w (ExPost w top ms S true rs) := by
  obtain ⟨i0, hi⟩ := info32
  obtain ⟨i1, hi1⟩ := info22
  have HI := Lib.hid hi
  have HJ := Lib.hid hi1
  have HV := Lib.hid (And.intro hvs (And.intro hab (And.intro hv hr)))
  have HE := Lib.hid (fun (wx : World) (a' : Addr) (c' : Nat) (vs' : List Value) (h1 : vs'.length = rs.length) (h2 : a'.block < wx.heap.size) (h3 : ∀ i u, vs'[i]? = some u → wx.cell? (a'.add i) = some u) (h4 : ∀ i, i < rs.length → SlAt wx (vs'.getD i undef) ((rs.getD i []).map Fl)) =>
    expo40d top ms S rs a' c' vs' wx h1 h2 h3 h4 hf hlen htot hs hs2 ht hS hS2 hov)
  have HR0 := Lib.hid hrs0
  have HT := Lib.hid htot
  clear hi hi1 hvs hab hv hr hf htot hov hs hs2 ht hS hS2 hrs0
  go_enter Tryz.func22, Tryz.ntmps22
  go_wp2_with fail
  go_loopw [9, 17] (fun o i wr => ∃ (m : Nat) (xs : List Value), m ≤ rs.length ∧ i = .int .i64 (m : Int) ∧ wr.ownsRow w.heap.size 22 1 o m xs ∧ FlRows wr Fl 32 rs m xs ∧ Kept [] w wr) (fun _ i _ => rs.length - (intOf i).toNat)
  case atStart => exact ⟨0, [], by omega, rfl, ⟨rfl, .inl ⟨rfl, rfl⟩⟩, FlRows.nil _ _ _ _, Kept.refl _ _⟩
  case round =>
  obtain ⟨m, xs, hm, rfl, ho, hfr, hk⟩ := hrel
  have HO := Lib.hid ho
  have HFR := Lib.hid hfr
  have HK := Lib.hid hk
  clear ho hfr hk
  by_cases hge : rs.length ≤ m
  · obtain rfl : m = rs.length := by omega
    have w7 : ¬ (rs.length : Int) < (rs.length : Int) := by omega
    obtain ⟨g, cap, rfl⟩ := own_form HO.out HR0.out
    go_wp2_with fail
    have sl := SlAt.own HO.out
    rcases sl with ⟨h, _⟩ | ⟨a', c', h1, h2, h3, h4, h5⟩
    · cases h
    · have hxl := HFR.out.len
      injection h1 with q1 q2 q3
      injection q1 with q1
      subst q1
      refine (HE.out _ _ cap xs hxl h2 h5 HFR.out.sl).mono ?_
      rintro e w' ⟨V, es, rfl, k1, k2⟩
      have KK := Lib.hid (And.intro k1 (HK.out.trans k2))
      clear k1 k2 h5 q2 q3 hxl h3 h4
      go_wp2_with fail
      go_ret
      exact ⟨V, es, rfl, KK.out.1, KK.out.2⟩
  have hlt : m < rs.length := by omega
  clear hge
  obtain ⟨v, hvm⟩ : ∃ v, v = vs.getD m undef := ⟨_, rfl⟩
  have hvm2 : vs[m]? = some v := by rw [hvm, List.getD_eq_getElem?_getD, List.getElem?_eq_getElem (by rw [HV.out.1]; exact hlt)]; rfl
  have hcell : wr.cell? (a.add m) = some v := (cellKept HK.out (by rw [Addr_add_block]; exact HV.out.2.1) (by simp)).trans (HV.out.2.2.1 m v hvm2)
  have hsl := HV.out.2.2.2 m hlt
  rw [← hvm] at hsl
  obtain ⟨r, hrr⟩ : ∃ r, r = rs.getD m [] := ⟨_, rfl⟩
  rw [← hrr] at hsl
  obtain ⟨ad, vn, hvv⟩ : ∃ ad vn, v = .slice ad r.length vn := by
    rcases hsl with ⟨h1, h2⟩ | ⟨x, c, h1, _⟩
    · have : r = [] := by simpa using h2
      subst this; exact ⟨none, 0, h1⟩
    · rw [List.length_map] at h1; exact ⟨_, _, h1⟩
  have hrl : r.length ≤ 500 := by
    have h1 := HT.out
    have h2 : r ∈ rs := by rw [hrr, List.getD_eq_getElem?_getD, List.getElem?_eq_getElem hlt]; exact List.getElem_mem hlt
    have h3 := mem_le_sum (rs.map List.length) r.length (List.mem_map.2 ⟨r, h2, rfl⟩)
    rw [List.length_flatten] at h1; omega
  have HRR := Lib.hid (And.intro hrr hsl)
  clear hsl hvm hvm2 hrr
  subst hvv
  have w7 : (m : Int) < (rs.length : Int) := by omega
  have w1 : IntKind.i64.wrap ((m : Int) + 1) = (m : Int) + 1 := IntWalk.i64_in _ (by omega)
  obtain ⟨wb, hwb⟩ : ∃ wb, wb = wr := ⟨_, rfl⟩
  have HWB := Lib.hid hwb
  clear hwb
  go_wp2_with fail
  clear hcell
  go_loopw [12, 23] (fun o j wx => ∃ (k : Nat), k ≤ r.length ∧ j = .int .i64 (k : Int) ∧ wx.ownsRow wb.heap.size 32 1 o k ((r.take k).map Fl) ∧ Kept [] wb wx) (fun _ j _ => r.length - (intOf j).toNat)
  case atStart => exact ⟨0, by omega, rfl, ⟨rfl, .inl ⟨rfl, rfl⟩⟩, by rw [HWB.out]; exact Kept.refl _ _⟩
  case round =>
  obtain ⟨k, hk, rfl, ho, hkk⟩ := hrel
  have HOx := Lib.hid ho
  have HKx := Lib.hid hkk
  clear ho hkk
  by_cases hge : r.length ≤ k
  · obtain rfl : k = r.length := by omega
    have w8 : ¬ (r.length : Int) < (r.length : Int) := by omega
    obtain ⟨xd, xc, hxx⟩ := own_shape HOx.out
    subst hxx
    rw [HWB.out] at HKx
    have HO2 := Lib.hid (own_keptK HO.out HKx.out (by simp))
    have hbs := Lib.hid (HK.out.trans HKx.out).size
    go_wp2_with (at_builtin; refine wpList_append_own_at _ rfl _ _ 56 rfl w.heap.size 22 i1 (.slice none 0 0) 1 24 Tryz.underlying56 HJ.out.1 HJ.out.2.1 HJ.out.2.2.1 HJ.out.2.2.2 rfl (by decide) _ _ _ rfl (HO2.out.alloc _) ⟨_, 0, none⟩ 1 1 [.slice xd r.length xc] rfl rfl (cell_one_new _ _ _) (by simp [Value.oneCell']) (by unfold maxLen; omega) (by omega) (by have := hbs.out; simp; omega) ?_; intro v' w4 hown' hgrow hnil hloc)
    have hxo := HOx.out
    rw [List.take_length] at hxo
    have hk2 := HK.out.trans HKx.out
    have FN := Lib.hid (((HFR.out.kept HKx.out).kept ((Kept.refl [] _).alloc (.cells #[.slice xd r.length xc] 22))).push (by rw [← HRR.out.1]; exact own_mono0 (hxo.alloc _)) (own_mono0 (HO2.out.alloc (.cells #[.slice xd r.length xc] 22))) (by decide) hgrow)
    have KN := Lib.hid (own_kept hk2 HO2.out hgrow)
    clear hxo hk2
    go_roundw
    case rel => exact ⟨m + 1, _, by omega, by go_num, hown', FN.out, KN.out⟩
    case measure => simp [intOf]; omega
  have hkl : k < r.length := by omega
  clear hge
  obtain ⟨x, hx⟩ : ∃ x, x = r.getD k 0 := ⟨_, rfl⟩
  have hlm : (r.map U)[k]? = some (U x) := by rw [List.getElem?_map, List.getElem?_eq_getElem hkl, hx, List.getD_eq_getElem?_getD, List.getElem?_eq_getElem hkl]; rfl
  obtain ⟨a2, rfl, hcx⟩ : ∃ a2, ad = some a2 ∧ wr.cell? (a2.add k) = some (.int .u64 (x : Int)) := by
    rcases HRR.out.2 with ⟨_, h2⟩ | ⟨a2, c2, h1, h2, _, _, h5⟩
    · have := congrArg List.length h2; simp only [List.length_map, List.length_nil] at this; omega
    · injection h1 with h1 _ _
      have hkw : Kept [] w wr := by have := HKx.out; rw [HWB.out] at this; exact HK.out.trans this
      exact ⟨a2, h1, (cellKept hkw (by rw [Addr_add_block]; exact h2) (by simp)).trans (h5 k _ hlm)⟩
  have hnext : (r.take k).map Fl ++ [.float .f64 x] = (r.take (k + 1)).map Fl := by
    rw [List.take_succ_eq_append_getElem hkl, List.map_append, hx, List.getD_eq_getElem?_getD, List.getElem?_eq_getElem hkl]; rfl
  have HN := Lib.hid hnext
  have hbs := Lib.hid HKx.out.size
  clear hx hlm hnext
  have w8 : (k : Int) < (r.length : Int) := by omega
  have w9 : IntKind.i64.wrap ((k : Int) + 1) = (k : Int) + 1 := IntWalk.i64_in _ (by omega)
  go_wp2_with (at_builtin; refine wpList_append_own_at _ rfl _ _ 22 rfl wb.heap.size 32 i0 (.float .f64 0) 1 8 Tryz.underlying22 HI.out.1 HI.out.2.1 HI.out.2.2.1 HI.out.2.2.2 rfl (by decide) _ _ _ rfl (HOx.out.alloc _) ⟨_, 0, none⟩ 1 1 [.float .f64 x] rfl rfl (cell_one_new _ _ _) (by simp [Value.oneCell']) (by unfold maxLen; omega) (by omega) (by have := hbs.out; simp; omega) ?_; intro v' w4 hown' hgrow hnil hloc)
  go_roundw
  case rel => exact ⟨k + 1, by omega, by go_num, by rw [← HN.out]; exact hown', own_kept HKx.out HOx.out hgrow⟩
  case measure => simp [intOf]; omega

theorem floats22d_nil (top : Nat) (ms S : Int) (ad : Option Addr) (c : Nat) (w : World) (hs : 1 ≤ ms) (hs2 : ms ≤ 200) :
    Calls Tryz.prog 22 #[.bool true, .int .i32 ms, .int .i32 S, .slice ad 0 c] w (ExPost w top ms S true []) := by
  have HE := Lib.hid (fun wx => expo40d_nil top ms S wx hs hs2)
  clear hs hs2
  go_enter Tryz.func22, Tryz.ntmps22
  go_wp2_with fail
  refine wp_loop_once ?_
  go_wp2_with fail
  refine (HE.out _).mono ?_
  rintro e w' ⟨V, es, rfl, k1, k2⟩
  have KK := Lib.hid (And.intro k1 k2)
  clear k1 k2
  go_wp2_with fail
  go_ret
  exact ⟨V, es, rfl, KK.out.1, KK.out.2⟩
theorem floats22d (top : Nat) (ms S : Int) (rs : List (List Nat)) (v : Value) (vs : List Value) (w : World) (hv : SlAt w v vs) (hvs : vs.length = rs.length) (hr : ∀ i, i < rs.length → SlAt w (vs.getD i undef) ((rs.getD i []).map U))
    (hf : ∀ i, i < rs.length → ∃ B, Fine top ms ((top : Int) - S).toNat B (accL true rs i)) (hlen : rs.length ≤ 500) (htot : rs.flatten.length ≤ 500)
    (hs : 1 ≤ ms) (hs2 : ms ≤ 200) (ht : top ≤ 20) (hS : S ≤ top) (hS2 : -10 ≤ S)
    (hov : ∀ w1, Calls Tryz.prog 71 #[] w1 fun e w' => ∃ x : Int, e = .returned (.agg #[.int .u64 x]) ∧ Kept [] w1 w') :
    Calls Tryz.prog 22 #[.bool true, .int .i32 ms, .int .i32 S, v] w (ExPost w top ms S true rs) := by
  rcases hv with ⟨rfl, rfl⟩ | ⟨a, c, rfl, h2, h3, h4, h5⟩
  · have : rs = [] := List.eq_nil_of_length_eq_zero (by simpa using hvs.symm)
    subst this
    exact floats22d_nil top ms S none 0 w hs hs2
  · rw [hvs]
    rcases Nat.eq_zero_or_pos rs.length with h0 | h0
    · have : rs = [] := List.eq_nil_of_length_eq_zero h0
      subst this
      exact floats22d_nil top ms S (some a) c w hs hs2
    · exact floats22d_some top ms S rs a c vs w hvs h2 h0 h5 hr hf hlen htot hs hs2 ht hS hS2 hov

theorem expo40c_nil (top : Nat) (ms S : Int) (w : World) (hs : 1 ≤ ms) (hs2 : ms ≤ 200) :
    Calls Tryz.prog 40 #[.bool false, .int .i32 ms, .int .i32 S, .slice none 0 0, .func (.func 30) #[] #[]] w (ExPost w top ms S false []) := by
  go_enter Tryz.func40, Tryz.ntmps40
  go_wp2_with fail
  have h47 := bld47c ms S (w.alloc (.cells #[.int .u8 1, .nilFunc, .int .i64 0] 118)) (by omega) (by omega)
  unfold bldV at h47
  refine h47.mono ?_
  clear h47
  rintro e w1 ⟨p, h, b, rfl, hp, hh, hb, hne, hlp, hlh, hlb, hk1⟩
  have HK := Lib.hid hk1.past
  clear hp hh hb hk1 hne hlp hlh hlb
  go_wp2_with fail
  refine wp_loop_once ?_
  go_wp2_with fail
  go_ret
  exact ⟨_, [], rfl, ResAt.nil _ _ _ _ _ _, HK.out⟩

set_option maxHeartbeats 1000000 in
set_option maxRecDepth 100000 in
theorem floats22c_some (top : Nat) (ms S : Int) (rs : List (List Nat)) (a : Addr) (vc : Nat) (vs : List Value) (w : World) (hvs : vs.length = rs.length) (hab : a.block < w.heap.size) (hrs0 : 0 < rs.length)
    (hv : ∀ i u, vs[i]? = some u → w.cell? (a.add i) = some u) (hr : ∀ i, i < rs.length → SlAt w (vs.getD i undef) ((rs.getD i []).map U))
    (hf : ∀ i, i < rs.length → ∃ B, Fine top ms ((top : Int) - S).toNat B (accL false rs i)) (hlen : rs.length ≤ 500) (htot : rs.flatten.length ≤ 500)
    (hs : 1 ≤ ms) (hs2 : ms ≤ 200) (ht : top ≤ 20) (hS : S ≤ top) (hS2 : -10 ≤ S)
    (hov : ∀ w1, Calls Tryz.prog 71 #[] w1 fun e w' => ∃ x : Int, e = .returned (.agg #[.int .u64 x]) ∧ Kept [] w1 w') :
    Calls Tryz.prog 22 #[.bool false, .int .i32 ms, .int .i32 S, .slice (some a) rs.length vc] w (ExPost w top ms S false rs) := by
  obtain ⟨i0, hi⟩ := info32
  obtain ⟨i1, hi1⟩ := info22
  have HI := Lib.hid hi
  have HJ := Lib.hid hi1
  have HV := Lib.hid (And.intro hvs (And.intro hab (And.intro hv hr)))
  have HE := Lib.hid (fun (wx : World) (a' : Addr) (c' : Nat) (vs' : List Value) (h1 : vs'.length = rs.length) (h2 : a'.block < wx.heap.size) (h3 : ∀ i u, vs'[i]? = some u → wx.cell? (a'.add i) = some u) (h4 : ∀ i, i < rs.length → SlAt wx (vs'.getD i undef) ((rs.getD i []).map Fl)) =>
    expo40c top ms S rs a' c' vs' wx h1 h2 h3 h4 hf hlen htot hs hs2 ht hS hS2 hov)
  have HR0 := Lib.hid hrs0
  have HT := Lib.hid htot
  clear hi hi1 hvs hab hv hr hf htot hov hs hs2 ht hS hS2 hrs0
  go_enter Tryz.func22, Tryz.ntmps22
  go_wp2_with fail
  go_loopw [9, 17] (fun o i wr => ∃ (m : Nat) (xs : List Value), m ≤ rs.length ∧ i = .int .i64 (m : Int) ∧ wr.ownsRow w.heap.size 22 1 o m xs ∧ FlRows wr Fl 32 rs m xs ∧ Kept [] w wr) (fun _ i _ => rs.length - (intOf i).toNat)
  case atStart => exact ⟨0, [], by omega, rfl, ⟨rfl, .inl ⟨rfl, rfl⟩⟩, FlRows.nil _ _ _ _, Kept.refl _ _⟩
  case round =>
  obtain ⟨m, xs, hm, rfl, ho, hfr, hk⟩ := hrel
  have HO := Lib.hid ho
  have HFR := Lib.hid hfr
  have HK := Lib.hid hk
  clear ho hfr hk
  by_cases hge : rs.length ≤ m
  · obtain rfl : m = rs.length := by omega
    have w7 : ¬ (rs.length : Int) < (rs.length : Int) := by omega
    obtain ⟨g, cap, rfl⟩ := own_form HO.out HR0.out
    go_wp2_with fail
    have sl := SlAt.own HO.out
    rcases sl with ⟨h, _⟩ | ⟨a', c', h1, h2, h3, h4, h5⟩
    · cases h
    · have hxl := HFR.out.len
      injection h1 with q1 q2 q3
      injection q1 with q1
      subst q1
      refine (HE.out _ _ cap xs hxl h2 h5 HFR.out.sl).mono ?_
      rintro e w' ⟨V, es, rfl, k1, k2⟩
      have KK := Lib.hid (And.intro k1 (HK.out.trans k2))
      clear k1 k2 h5 q2 q3 hxl h3 h4
      go_wp2_with fail
      go_ret
      exact ⟨V, es, rfl, KK.out.1, KK.out.2⟩
  have hlt : m < rs.length := by omega
  clear hge
  obtain ⟨v, hvm⟩ : ∃ v, v = vs.getD m undef := ⟨_, rfl⟩
  have hvm2 : vs[m]? = some v := by rw [hvm, List.getD_eq_getElem?_getD, List.getElem?_eq_getElem (by rw [HV.out.1]; exact hlt)]; rfl
  have hcell : wr.cell? (a.add m) = some v := (cellKept HK.out (by rw [Addr_add_block]; exact HV.out.2.1) (by simp)).trans (HV.out.2.2.1 m v hvm2)
  have hsl := HV.out.2.2.2 m hlt
  rw [← hvm] at hsl
  obtain ⟨r, hrr⟩ : ∃ r, r = rs.getD m [] := ⟨_, rfl⟩
  rw [← hrr] at hsl
  obtain ⟨ad, vn, hvv⟩ : ∃ ad vn, v = .slice ad r.length vn := by
    rcases hsl with ⟨h1, h2⟩ | ⟨x, c, h1, _⟩
    · have : r = [] := by simpa using h2
      subst this; exact ⟨none, 0, h1⟩
    · rw [List.length_map] at h1; exact ⟨_, _, h1⟩
  have hrl : r.length ≤ 500 := by
    have h1 := HT.out
    have h2 : r ∈ rs := by rw [hrr, List.getD_eq_getElem?_getD, List.getElem?_eq_getElem hlt]; exact List.getElem_mem hlt
    have h3 := mem_le_sum (rs.map List.length) r.length (List.mem_map.2 ⟨r, h2, rfl⟩)
    rw [List.length_flatten] at h1; omega
  have HRR := Lib.hid (And.intro hrr hsl)
  clear hsl hvm hvm2 hrr
  subst hvv
  have w7 : (m : Int) < (rs.length : Int) := by omega
  have w1 : IntKind.i64.wrap ((m : Int) + 1) = (m : Int) + 1 := IntWalk.i64_in _ (by omega)
  obtain ⟨wb, hwb⟩ : ∃ wb, wb = wr := ⟨_, rfl⟩
  have HWB := Lib.hid hwb
  clear hwb
  go_wp2_with fail
  clear hcell
  go_loopw [12, 23] (fun o j wx => ∃ (k : Nat), k ≤ r.length ∧ j = .int .i64 (k : Int) ∧ wx.ownsRow wb.heap.size 32 1 o k ((r.take k).map Fl) ∧ Kept [] wb wx) (fun _ j _ => r.length - (intOf j).toNat)
  case atStart => exact ⟨0, by omega, rfl, ⟨rfl, .inl ⟨rfl, rfl⟩⟩, by rw [HWB.out]; exact Kept.refl _ _⟩
  case round =>
  obtain ⟨k, hk, rfl, ho, hkk⟩ := hrel
  have HOx := Lib.hid ho
  have HKx := Lib.hid hkk
  clear ho hkk
  by_cases hge : r.length ≤ k
  · obtain rfl : k = r.length := by omega
    have w8 : ¬ (r.length : Int) < (r.length : Int) := by omega
    obtain ⟨xd, xc, hxx⟩ := own_shape HOx.out
    subst hxx
    rw [HWB.out] at HKx
    have HO2 := Lib.hid (own_keptK HO.out HKx.out (by simp))
    have hbs := Lib.hid (HK.out.trans HKx.out).size
    go_wp2_with (at_builtin; refine wpList_append_own_at _ rfl _ _ 56 rfl w.heap.size 22 i1 (.slice none 0 0) 1 24 Tryz.underlying56 HJ.out.1 HJ.out.2.1 HJ.out.2.2.1 HJ.out.2.2.2 rfl (by decide) _ _ _ rfl (HO2.out.alloc _) ⟨_, 0, none⟩ 1 1 [.slice xd r.length xc] rfl rfl (cell_one_new _ _ _) (by simp [Value.oneCell']) (by unfold maxLen; omega) (by omega) (by have := hbs.out; simp; omega) ?_; intro v' w4 hown' hgrow hnil hloc)
    have hxo := HOx.out
    rw [List.take_length] at hxo
    have hk2 := HK.out.trans HKx.out
    have FN := Lib.hid (((HFR.out.kept HKx.out).kept ((Kept.refl [] _).alloc (.cells #[.slice xd r.length xc] 22))).push (by rw [← HRR.out.1]; exact own_mono0 (hxo.alloc _)) (own_mono0 (HO2.out.alloc (.cells #[.slice xd r.length xc] 22))) (by decide) hgrow)
    have KN := Lib.hid (own_kept hk2 HO2.out hgrow)
    clear hxo hk2
    go_roundw
    case rel => exact ⟨m + 1, _, by omega, by go_num, hown', FN.out, KN.out⟩
    case measure => simp [intOf]; omega
  have hkl : k < r.length := by omega
  clear hge
  obtain ⟨x, hx⟩ : ∃ x, x = r.getD k 0 := ⟨_, rfl⟩
  have hlm : (r.map U)[k]? = some (U x) := by rw [List.getElem?_map, List.getElem?_eq_getElem hkl, hx, List.getD_eq_getElem?_getD, List.getElem?_eq_getElem hkl]; rfl
  obtain ⟨a2, rfl, hcx⟩ : ∃ a2, ad = some a2 ∧ wr.cell? (a2.add k) = some (.int .u64 (x : Int)) := by
    rcases HRR.out.2 with ⟨_, h2⟩ | ⟨a2, c2, h1, h2, _, _, h5⟩
    · have := congrArg List.length h2; simp only [List.length_map, List.length_nil] at this; omega
    · injection h1 with h1 _ _
      have hkw : Kept [] w wr := by have := HKx.out; rw [HWB.out] at this; exact HK.out.trans this
      exact ⟨a2, h1, (cellKept hkw (by rw [Addr_add_block]; exact h2) (by simp)).trans (h5 k _ hlm)⟩
  have hnext : (r.take k).map Fl ++ [.float .f64 x] = (r.take (k + 1)).map Fl := by
    rw [List.take_succ_eq_append_getElem hkl, List.map_append, hx, List.getD_eq_getElem?_getD, List.getElem?_eq_getElem hkl]; rfl
  have HN := Lib.hid hnext
  have hbs := Lib.hid HKx.out.size
  clear hx hlm hnext
  have w8 : (k : Int) < (r.length : Int) := by omega
  have w9 : IntKind.i64.wrap ((k : Int) + 1) = (k : Int) + 1 := IntWalk.i64_in _ (by omega)
  go_wp2_with (at_builtin; refine wpList_append_own_at _ rfl _ _ 22 rfl wb.heap.size 32 i0 (.float .f64 0) 1 8 Tryz.underlying22 HI.out.1 HI.out.2.1 HI.out.2.2.1 HI.out.2.2.2 rfl (by decide) _ _ _ rfl (HOx.out.alloc _) ⟨_, 0, none⟩ 1 1 [.float .f64 x] rfl rfl (cell_one_new _ _ _) (by simp [Value.oneCell']) (by unfold maxLen; omega) (by omega) (by have := hbs.out; simp; omega) ?_; intro v' w4 hown' hgrow hnil hloc)
  go_roundw
  case rel => exact ⟨k + 1, by omega, by go_num, by rw [← HN.out]; exact hown', own_kept HKx.out HOx.out hgrow⟩
  case measure => simp [intOf]; omega

theorem floats22c_nil (top : Nat) (ms S : Int) (ad : Option Addr) (c : Nat) (w : World) (hs : 1 ≤ ms) (hs2 : ms ≤ 200) :
    Calls Tryz.prog 22 #[.bool false, .int .i32 ms, .int .i32 S, .slice ad 0 c] w (ExPost w top ms S false []) := by
  have HE := Lib.hid (fun wx => expo40c_nil top ms S wx hs hs2)
  clear hs hs2
  go_enter Tryz.func22, Tryz.ntmps22
  go_wp2_with fail
  refine wp_loop_once ?_
  go_wp2_with fail
  refine (HE.out _).mono ?_
  rintro e w' ⟨V, es, rfl, k1, k2⟩
  have KK := Lib.hid (And.intro k1 k2)
  clear k1 k2
  go_wp2_with fail
  go_ret
  exact ⟨V, es, rfl, KK.out.1, KK.out.2⟩
theorem floats22c (top : Nat) (ms S : Int) (rs : List (List Nat)) (v : Value) (vs : List Value) (w : World) (hv : SlAt w v vs) (hvs : vs.length = rs.length) (hr : ∀ i, i < rs.length → SlAt w (vs.getD i undef) ((rs.getD i []).map U))
    (hf : ∀ i, i < rs.length → ∃ B, Fine top ms ((top : Int) - S).toNat B (accL false rs i)) (hlen : rs.length ≤ 500) (htot : rs.flatten.length ≤ 500)
    (hs : 1 ≤ ms) (hs2 : ms ≤ 200) (ht : top ≤ 20) (hS : S ≤ top) (hS2 : -10 ≤ S)
    (hov : ∀ w1, Calls Tryz.prog 71 #[] w1 fun e w' => ∃ x : Int, e = .returned (.agg #[.int .u64 x]) ∧ Kept [] w1 w') :
    Calls Tryz.prog 22 #[.bool false, .int .i32 ms, .int .i32 S, v] w (ExPost w top ms S false rs) := by
  rcases hv with ⟨rfl, rfl⟩ | ⟨a, c, rfl, h2, h3, h4, h5⟩
  · have : rs = [] := List.eq_nil_of_length_eq_zero (by simpa using hvs.symm)
    subst this
    exact floats22c_nil top ms S none 0 w hs hs2
  · rw [hvs]
    rcases Nat.eq_zero_or_pos rs.length with h0 | h0
    · have : rs = [] := List.eq_nil_of_length_eq_zero h0
      subst this
      exact floats22c_nil top ms S (some a) c w hs hs2
    · exact floats22c_some top ms S rs a c vs w hvs h2 h0 h5 hr hf hlen htot hs hs2 ht hS hS2 hov
end Go.Proofs.YtlpddogcnpokfaaGreat
