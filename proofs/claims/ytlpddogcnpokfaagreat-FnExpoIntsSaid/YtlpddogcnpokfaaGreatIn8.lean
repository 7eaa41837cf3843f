/- ExpoInts. -/
import Derived.Test.YtlpddogcnpokfaaGreatIn6
import Derived.Test.YtlpddogcnpokfaaGreatIn7
import Derived.Test.YtlpddogcnpokfaaGreatSp7
namespace Go.Proofs.YtlpddogcnpokfaaGreat.I
open Go.RowKit

set_option maxRecDepth 100000 in
theorem expo40d_nil (top : Nat) (ms S : Int) (ad : Option Addr) (c : Nat) (w : World) (hs : 1 ≤ ms) (hs2 : ms ≤ 200) :
    Calls Tryz.prog 38 #[.bool true, .int .i32 ms, .int .i32 S, .slice ad 0 c, .func (.func 39) #[] #[]] w (ExPost w top ms S true []) := by
  go_enter Tryz.func38, Tryz.ntmps38
  go_wp2_with fail
  have h47 := bld47 ms S (w.alloc (.cells #[.int .u8 2, .nilFunc, .int .i64 0] 87)) (by omega) (by omega)
  unfold bldV at h47
  refine h47.mono ?_
  clear h47
  rintro e w1 ⟨p, h, b, rfl, hp, hh, hb, hne, hlp, hlh, hlb, hk1⟩
  have HK := Lib.hid hk1.past
  clear hp hh hb hk1 hne hlp hlh hlb
  go_wp2_with fail
  refine wp_loop_once ?_
  go_wp2_with fail
  go_ret
  exact ⟨_, [], rfl, ResAt.nil _ _ _ _ _ _, HK.out⟩

set_option maxRecDepth 100000 in
theorem expo40c_nil (top : Nat) (ms S : Int) (ad : Option Addr) (c : Nat) (w : World) (hs : 1 ≤ ms) (hs2 : ms ≤ 200) :
    Calls Tryz.prog 38 #[.bool false, .int .i32 ms, .int .i32 S, .slice ad 0 c, .func (.func 39) #[] #[]] w (ExPost w top ms S false []) := by
  go_enter Tryz.func38, Tryz.ntmps38
  go_wp2_with fail
  have h47 := bld47c ms S (w.alloc (.cells #[.int .u8 1, .nilFunc, .int .i64 0] 87)) (by omega) (by omega)
  unfold bldV at h47
  refine h47.mono ?_
  clear h47
  rintro e w1 ⟨p, h, b, rfl, hp, hh, hb, hne, hlp, hlh, hlb, hk1⟩
  have HK := Lib.hid hk1.past
  clear hp hh hb hk1 hne hlp hlh hlb
  go_wp2_with fail
  refine wp_loop_once ?_
  go_wp2_with fail
  go_ret
  exact ⟨_, [], rfl, ResAt.nil _ _ _ _ _ _, HK.out⟩

set_option maxRecDepth 100000 in
theorem ints21d (top : Nat) (ms S : Int) (rs : List (List Nat)) (V : Value) (vs : List Value) (w : World) (hV : SlAt w V vs) (hvs : vs.length = rs.length)
    (hr : ∀ i, i < rs.length → SlRd w (vs.getD i undef) ((rs.getD i []).map Iw))
    (hf : ∀ i, i < rs.length → ∃ B, Fine top ms ((top : Int) - S).toNat B ((accL true rs i).map fv)) (hok : ∀ i, i < rs.length → ∀ v, v ∈ rs.getD i [] → okI v) (hlen : rs.length ≤ 500) (htot : rs.flatten.length ≤ 500)
    (hs : 1 ≤ ms) (hs2 : ms ≤ 200) (ht : top ≤ 20) (hS : S ≤ top) (hS2 : -10 ≤ S)
    (hov : ∀ w1, Calls Tryz.prog 71 #[] w1 fun e w' => ∃ x : Int, e = .returned (.agg #[.int .u64 x]) ∧ Kept [] w1 w') :
    Calls Tryz.prog 21 #[.bool true, .int .i32 ms, .int .i32 S, V] w (ExPost w top ms S true rs) := by
  obtain ⟨p, c, hVe, hp⟩ := hV.read
  rw [hvs] at hVe
  subst hVe
  have F : Calls Tryz.prog 38 #[.bool true, .int .i32 ms, .int .i32 S, .slice p rs.length c, .func (.func 39) #[] #[]] w (ExPost w top ms S true rs) := by
    rcases Nat.eq_zero_or_pos rs.length with h0 | h0
    · have : rs = [] := List.eq_nil_of_length_eq_zero h0
      subst this
      exact expo40d_nil top ms S p c w hs hs2
    · rcases hV with ⟨h1, h2⟩ | ⟨a, c', h1, h2, h3, h4, h5⟩
      · subst h2; simp at hvs; omega
      · injection h1 with h1 _ _
        subst h1
        exact expo40d top ms S rs a c vs w hvs h2 h5 hr hf hok hlen htot hs hs2 ht hS hS2 hov
  have FF := Lib.hid F
  clear F hp hV hr hf hok hov hvs
  go_enter Tryz.func21, Tryz.ntmps21
  go_wp2_with fail
  refine FF.out.mono ?_
  rintro e w' ⟨V', es, rfl, k1, k2⟩
  have KK := Lib.hid (And.intro k1 k2)
  clear k1 k2
  go_wp2_with fail
  go_ret
  exact ⟨V', es, rfl, KK.out.1, KK.out.2⟩

set_option maxRecDepth 100000 in
theorem ints21c (top : Nat) (ms S : Int) (rs : List (List Nat)) (V : Value) (vs : List Value) (w : World) (hV : SlAt w V vs) (hvs : vs.length = rs.length)
    (hr : ∀ i, i < rs.length → SlRd w (vs.getD i undef) ((rs.getD i []).map Iw))
    (hf : ∀ i, i < rs.length → ∃ B, Fine top ms ((top : Int) - S).toNat B ((accL false rs i).map fv)) (hok : ∀ i, i < rs.length → ∀ v, v ∈ rs.getD i [] → okI v) (hlen : rs.length ≤ 500) (htot : rs.flatten.length ≤ 500)
    (hs : 1 ≤ ms) (hs2 : ms ≤ 200) (ht : top ≤ 20) (hS : S ≤ top) (hS2 : -10 ≤ S)
    (hov : ∀ w1, Calls Tryz.prog 71 #[] w1 fun e w' => ∃ x : Int, e = .returned (.agg #[.int .u64 x]) ∧ Kept [] w1 w') :
    Calls Tryz.prog 21 #[.bool false, .int .i32 ms, .int .i32 S, V] w (ExPost w top ms S false rs) := by
  obtain ⟨p, c, hVe, hp⟩ := hV.read
  rw [hvs] at hVe
  subst hVe
  have F : Calls Tryz.prog 38 #[.bool false, .int .i32 ms, .int .i32 S, .slice p rs.length c, .func (.func 39) #[] #[]] w (ExPost w top ms S false rs) := by
    rcases Nat.eq_zero_or_pos rs.length with h0 | h0
    · have : rs = [] := List.eq_nil_of_length_eq_zero h0
      subst this
      exact expo40c_nil top ms S p c w hs hs2
    · rcases hV with ⟨h1, h2⟩ | ⟨a, c', h1, h2, h3, h4, h5⟩
      · subst h2; simp at hvs; omega
      · injection h1 with h1 _ _
        subst h1
        exact expo40c top ms S rs a c vs w hvs h2 h5 hr hf hok hlen htot hs hs2 ht hS hS2 hov
  have FF := Lib.hid F
  clear F hp hV hr hf hok hov hvs
  go_enter Tryz.func21, Tryz.ntmps21
  go_wp2_with fail
  refine FF.out.mono ?_
  rintro e w' ⟨V', es, rfl, k1, k2⟩
  have KK := Lib.hid (And.intro k1 k2)
  clear k1 k2
  go_wp2_with fail
  go_ret
  exact ⟨V', es, rfl, KK.out.1, KK.out.2⟩

theorem ints21 (delta : Bool) (top : Nat) (ms S : Int) (rs : List (List Nat)) (V : Value) (vs : List Value) (w : World) (hV : SlAt w V vs) (hvs : vs.length = rs.length)
    (hr : ∀ i, i < rs.length → SlRd w (vs.getD i undef) ((rs.getD i []).map Iw))
    (hf : ∀ i, i < rs.length → ∃ B, Fine top ms ((top : Int) - S).toNat B ((accL delta rs i).map fv)) (hok : ∀ i, i < rs.length → ∀ v, v ∈ rs.getD i [] → okI v) (hlen : rs.length ≤ 500) (htot : rs.flatten.length ≤ 500)
    (hs : 1 ≤ ms) (hs2 : ms ≤ 200) (ht : top ≤ 20) (hS : S ≤ top) (hS2 : -10 ≤ S)
    (hov : ∀ w1, Calls Tryz.prog 71 #[] w1 fun e w' => ∃ x : Int, e = .returned (.agg #[.int .u64 x]) ∧ Kept [] w1 w') :
    Calls Tryz.prog 21 #[.bool delta, .int .i32 ms, .int .i32 S, V] w (ExPost w top ms S delta rs) := by
  cases delta
  · exact ints21c top ms S rs V vs w hV hvs hr hf hok hlen htot hs hs2 ht hS hS2 hov
  · exact ints21d top ms S rs V vs w hV hvs hr hf hok hlen htot hs hs2 ht hS hS2 hov

end Go.Proofs.YtlpddogcnpokfaaGreat.I
