/- Walk: how much the scale of a point must fall (scaleChange), at both kinds of numbers. -/
import Derived.Test.YtlpddogcnpokfaaGreatWa
namespace Go.Proofs.YtlpddogcnpokfaaGreat
open Go.RowKit

/-- how much the scale must fall: 'n' rounds are left -/
def scLoop (size : Int) : Nat → Int → Int → Int
  | 0, _, _ => 0
  | n + 1, l, h => if size ≤ h - l then 1 + scLoop size n (l / 2) (h / 2) else 0

theorem scLoop_le (size : Int) (n : Nat) : ∀ l h : Int, 0 ≤ scLoop size n l h ∧ scLoop size n l h ≤ n := by
  induction n with
  | zero => intro l h; simp [scLoop]
  | succ n ih =>
    intro l h
    have := ih (l / 2) (h / 2)
    simp only [scLoop]
    split <;> omega

def scLow (bin st : Int) : Int := if bin ≤ st then bin else st
def scHigh (bin st len : Int) : Int := if bin ≤ st then st + len - 1 else bin
def scOf (size bin st len : Int) : Int := if len = 0 then 0 else scLoop size 31 (scLow bin st) (scHigh bin st len)

theorem scOf_le (size bin st len : Int) : 0 ≤ scOf size bin st len ∧ scOf size bin st len ≤ 31 := by
  unfold scOf
  split
  · omega
  · exact scLoop_le size 31 _ _

set_option maxHeartbeats 400000 in
theorem scaleChange130 (b : Nat) (o : Nat) (ms bin st len : Int) (w : World) (hc : w.cell? ⟨b, o + 7, none⟩ = some (.int .i64 ms))
   (hms : 1 ≤ ms) (hms2 : ms ≤ 1000) (hb : -2147483648 ≤ bin) (hb2 : bin ≤ 2147483647) (hs : -2147483648 ≤ st) (hs2 : st ≤ 2147483647) (hl : 0 ≤ len) (hl2 : len ≤ 10000) :
    Calls Tryz.prog 130 #[.pointer (some ⟨b, o, none⟩), .int .i32 bin, .int .i32 st, .int .i64 len] w fun e w' => e = .returned (.int .i32 (scOf ms bin st len)) ∧ w = w' := by
  by_cases h0 : len = 0
  · subst h0
    go_enter Tryz.func130, Tryz.ntmps130
    go_wp2
    go_ret
    exact ⟨rfl, rfl⟩
  · have hfin := Lib.hid (show scOf ms bin st len = scLoop ms 31 (scLow bin st) (scHigh bin st len) by unfold scOf; rw [if_neg h0])
    have hlen : (len == 0) = false := by simpa using h0
    have hlow := Lib.hid (show scLow bin st = if bin ≤ st then bin else st from rfl)
    have hhigh := Lib.hid (show scHigh bin st len = if bin ≤ st then st + len - 1 else bin from rfl)
    have h1 : 1 ≤ len := by omega
    clear h0 hl
    by_cases hlt : bin ≤ st
    all_goals
      go_enter Tryz.func130, Tryz.ntmps130
      go_wp2
      go_loop [9, 10, 11] (fun l h c => ∃ (x y : Int) (k : Nat), l = .int .i64 x ∧ h = .int .i64 y ∧ c = .int .i32 (k : Int) ∧ k ≤ 30 ∧ -2147483648 ≤ x ∧ x ≤ y ∧ y ≤ 2147493647 ∧ Hid (scLoop ms 31 (scLow bin st) (scHigh bin st len) = k + scLoop ms (31 - k) x y)) (fun _ _ c => (31 - intOf c).toNat)
      case atStart =>
        refine ⟨_, _, 0, rfl, rfl, rfl, by omega, by omega, by omega, by omega, ?_⟩
        have a1 := hlow.out
        have a2 := hhigh.out
        first | (rw [if_pos hlt] at a1 a2; rw [a1, a2]; show _ = _; simp) | (rw [if_neg hlt] at a1 a2; rw [a1, a2]; show _ = _; simp) | (rw [if_neg (by omega)] at a1 a2; rw [a1, a2]; show _ = _; simp)
      case round =>
        obtain ⟨x, y, k, rfl, rfl, rfl, hk, hx, hxy, hy, hrec⟩ := hrel
        clear hlow hhigh
        by_cases hg : ms ≤ y - x
        · by_cases hk30 : k = 30
          · have hres := Lib.hid (show scLoop ms 31 (scLow bin st) (scHigh bin st len) = 31 by
              rw [hrec.out, hk30]; simp only [show 31 - 30 = 1 from rfl, scLoop]; rw [if_pos hg]; omega)
            clear hrec
            subst hk30
            go_wp2
            go_ret
            exact ⟨ret_int (by rw [hfin.out, hres.out]), rfl⟩
          · have hres := Lib.hid (show scLoop ms 31 (scLow bin st) (scHigh bin st len) = ((k + 1 : Nat) : Int) + scLoop ms (31 - (k + 1)) (x / 2) (y / 2) by
              rw [hrec.out, show 31 - k = (31 - (k + 1)) + 1 from by omega]; simp only [scLoop]; rw [if_pos hg]; omega)
            clear hrec
            have hk' : k < 30 := by omega
            clear hk30
            go_wp2
            go_round
            case rel => exact ⟨x / 2, y / 2, k + 1, rfl, rfl, by go_num, by omega, by omega, by omega, by omega, hres⟩
            case measure => simp [intOf]; omega
        · have hres := Lib.hid (show scLoop ms 31 (scLow bin st) (scHigh bin st len) = (k : Int) by
            rw [hrec.out, show 31 - k = (31 - (k + 1)) + 1 from by omega]; simp only [scLoop]; rw [if_neg hg]; omega)
          clear hrec
          have hg' : y - x < ms := by omega
          clear hg
          go_wp2
          go_ret
          exact ⟨ret_int (by rw [hfin.out, hres.out]), rfl⟩

set_option maxHeartbeats 400000 in
theorem scaleChange118 (b : Nat) (o : Nat) (ms bin st len : Int) (w : World) (hc : w.cell? ⟨b, o + 7, none⟩ = some (.int .i64 ms))
   (hms : 1 ≤ ms) (hms2 : ms ≤ 1000) (hb : -2147483648 ≤ bin) (hb2 : bin ≤ 2147483647) (hs : -2147483648 ≤ st) (hs2 : st ≤ 2147483647) (hl : 0 ≤ len) (hl2 : len ≤ 10000) :
    Calls Tryz.prog 118 #[.pointer (some ⟨b, o, none⟩), .int .i32 bin, .int .i32 st, .int .i64 len] w fun e w' => e = .returned (.int .i32 (scOf ms bin st len)) ∧ w = w' := by
  by_cases h0 : len = 0
  · subst h0
    go_enter Tryz.func118, Tryz.ntmps118
    go_wp2
    go_ret
    exact ⟨rfl, rfl⟩
  · have hfin := Lib.hid (show scOf ms bin st len = scLoop ms 31 (scLow bin st) (scHigh bin st len) by unfold scOf; rw [if_neg h0])
    have hlen : (len == 0) = false := by simpa using h0
    have hlow := Lib.hid (show scLow bin st = if bin ≤ st then bin else st from rfl)
    have hhigh := Lib.hid (show scHigh bin st len = if bin ≤ st then st + len - 1 else bin from rfl)
    have h1 : 1 ≤ len := by omega
    clear h0 hl
    by_cases hlt : bin ≤ st
    all_goals
      go_enter Tryz.func118, Tryz.ntmps118
      go_wp2
      go_loop [9, 10, 11] (fun l h c => ∃ (x y : Int) (k : Nat), l = .int .i64 x ∧ h = .int .i64 y ∧ c = .int .i32 (k : Int) ∧ k ≤ 30 ∧ -2147483648 ≤ x ∧ x ≤ y ∧ y ≤ 2147493647 ∧ Hid (scLoop ms 31 (scLow bin st) (scHigh bin st len) = k + scLoop ms (31 - k) x y)) (fun _ _ c => (31 - intOf c).toNat)
      case atStart =>
        refine ⟨_, _, 0, rfl, rfl, rfl, by omega, by omega, by omega, by omega, ?_⟩
        have a1 := hlow.out
        have a2 := hhigh.out
        first | (rw [if_pos hlt] at a1 a2; rw [a1, a2]; show _ = _; simp) | (rw [if_neg hlt] at a1 a2; rw [a1, a2]; show _ = _; simp) | (rw [if_neg (by omega)] at a1 a2; rw [a1, a2]; show _ = _; simp)
      case round =>
        obtain ⟨x, y, k, rfl, rfl, rfl, hk, hx, hxy, hy, hrec⟩ := hrel
        clear hlow hhigh
        by_cases hg : ms ≤ y - x
        · by_cases hk30 : k = 30
          · have hres := Lib.hid (show scLoop ms 31 (scLow bin st) (scHigh bin st len) = 31 by
              rw [hrec.out, hk30]; simp only [show 31 - 30 = 1 from rfl, scLoop]; rw [if_pos hg]; omega)
            clear hrec
            subst hk30
            go_wp2
            go_ret
            exact ⟨ret_int (by rw [hfin.out, hres.out]), rfl⟩
          · have hres := Lib.hid (show scLoop ms 31 (scLow bin st) (scHigh bin st len) = ((k + 1 : Nat) : Int) + scLoop ms (31 - (k + 1)) (x / 2) (y / 2) by
              rw [hrec.out, show 31 - k = (31 - (k + 1)) + 1 from by omega]; simp only [scLoop]; rw [if_pos hg]; omega)
            clear hrec
            have hk' : k < 30 := by omega
            clear hk30
            go_wp2
            go_round
            case rel => exact ⟨x / 2, y / 2, k + 1, rfl, rfl, by go_num, by omega, by omega, by omega, by omega, hres⟩
            case measure => simp [intOf]; omega
        · have hres := Lib.hid (show scLoop ms 31 (scLow bin st) (scHigh bin st len) = (k : Int) by
            rw [hrec.out, show 31 - k = (31 - (k + 1)) + 1 from by omega]; simp only [scLoop]; rw [if_neg hg]; omega)
          clear hrec
          have hg' : y - x < ms := by omega
          clear hg
          go_wp2
          go_ret
          exact ⟨ret_int (by rw [hfin.out, hres.out]), rfl⟩
end Go.Proofs.YtlpddogcnpokfaaGreat
