/- The reference: whether a side fits (expoSide.fits). -/
import Derived.Test.YtlpddogcnpokfaaGreatSp2
import Derived.BigQuiet
namespace Go.Proofs.YtlpddogcnpokfaaGreat
open Go.RowKit Go.Maps

theorem div_near (x : Int) {k : Nat} : (0 ≤ x → 0 ≤ x / 2 ^ k ∧ x / 2 ^ k ≤ x) ∧ (x ≤ 0 → x ≤ x / 2 ^ k ∧ x / 2 ^ k ≤ 0) := by
  have p : (0 : Int) < 2 ^ k := Int.pow_pos (by omega)
  have p1 : (1 : Int) ≤ 2 ^ k := by omega
  generalize (2 : Int) ^ k = d at *
  constructor
  · intro h; exact ⟨Int.ediv_nonneg h (by omega), Int.ediv_le_self _ h⟩
  · intro h
    constructor
    · rw [Int.le_ediv_iff_mul_le p]
      have : x * d ≤ x * 1 := Int.mul_le_mul_of_nonpos_left h p1
      omega
    · have := Int.ediv_le_ediv p h
      simpa using this
set_option maxHeartbeats 1000000 in
set_option maxRecDepth 100000 in
theorem fits36_nil (b : Nat) (by_ size : Int) (w : World) (hb : w.heap[b]? = some (.cells #[.int .i64 0, .int .i64 0, .map none] 66 (0, 0))) :
    Calls Tryz.prog 36 #[.pointer (some ⟨b, 0, none⟩), .int .i64 by_, .int .i32 size] w (fun e w' => e = .returned (.bool true) ∧ Kept [] w w') := by
  have c2 : w.cell? ⟨b, 2, none⟩ = some (.map none) := cellOf hb rfl
  clear hb
  go_enter Tryz.func36, Tryz.ntmps36
  go_wp2_with fail
  go_quiet (fail)
  rename_i K hK
  refine hK _ _ ?_
  go_wp2
  go_ret
  exact ⟨rfl, (Kept.refl _ _).dr ⟨_, rfl⟩⟩
set_option maxHeartbeats 1000000 in
set_option maxRecDepth 100000 in
theorem fits36_more (b m : Nat) (lo hi by_ size : Int) (n : Nat) (D : DataW Unit) (w : World) (hb : w.heap[b]? = some (.cells #[.int .i64 lo, .int .i64 hi, .map (some m)] 66 (0, 0))) (hown : w.ownsMap Tryz.prog 2 (plainElem Tryz.prog 23) m n D) (hs : 0 < Maps.size D)
    (h1 : -2305843009213693952 ≤ lo) (h2 : lo ≤ hi) (h3 : hi ≤ 2305843009213693952) (hy : 0 ≤ by_) (hy2 : by_ ≤ 60) (z1 : 0 ≤ size) (z2 : size ≤ 200) :
    Calls Tryz.prog 36 #[.pointer (some ⟨b, 0, none⟩), .int .i64 by_, .int .i32 size] w (fun e w' => e = .returned (.bool (decide (hi / 2 ^ by_.toNat - lo / 2 ^ by_.toNat < size))) ∧ Kept [] w w') := by
  have c0 : w.cell? ⟨b, 0, none⟩ = some (.int .i64 lo) := cellOf hb rfl
  have c1 : w.cell? ⟨b, 1, none⟩ = some (.int .i64 hi) := cellOf hb rfl
  have c2 : w.cell? ⟨b, 2, none⟩ = some (.map (some m)) := cellOf hb rfl
  have hz : ((Maps.size D : Int) == 0) = false := by rw [beq_eq_false_iff_ne]; omega
  have hwr : wrap64 (hi / 2 ^ by_.toNat - lo / 2 ^ by_.toNat) = hi / 2 ^ by_.toNat - lo / 2 ^ by_.toNat := by
    have p : (0 : Int) < 2 ^ by_.toNat := Int.pow_pos (by omega)
    have a1 := div_near hi (k := by_.toNat)
    have a2 := div_near lo (k := by_.toNat)
    exact IntWalk.wrap64_in _ (by omega)
  have hws : wrap64 size = size := IntWalk.wrap64_in _ (by omega)
  have hlen : ∀ k, (Builtin.len_ #[64] 3 #[.map (some m)]).run Tryz.prog (w.drewN k) = .ok (.int .i64 (Maps.size D)) (w.drewN k) := by
    intro k
    have : (w.drewN k).ownsMap Tryz.prog 2 (plainElem Tryz.prog 23) m n D := hown
    exact this.len Tryz.underlying64 3
  clear hb hs hown
  go_enter Tryz.func36, Tryz.ntmps36
  go_wp2_with fail
  go_quiet (fail)
  rename_i K hK
  refine hK _ _ ?_
  clear hK
  go_wp2
  go_ret
  exact ⟨rfl, (Kept.refl _ _).dr ⟨_, rfl⟩⟩

/-- a side of the reference fits -/
theorem fits36 (b : Nat) (L : List Int) (om : Option Nat) (by_ size : Int) (w : World) (hs : SideS w b L om) (hL : ∀ x, x ∈ L → -2305843009213693952 ≤ x ∧ x ≤ 2305843009213693952) (hy : 0 ≤ by_) (hy2 : by_ ≤ 60) (z1 : 1 ≤ size) (z2 : size ≤ 200) :
    Calls Tryz.prog 36 #[.pointer (some ⟨b, 0, none⟩), .int .i64 by_, .int .i32 size] w (fun e w' => e = .returned (.bool (decide (FitB size by_.toNat L))) ∧ Kept [] w w') := by
  rcases hs with ⟨rfl, rfl, hb⟩ | ⟨hne, m, lo, hi, n, D, rfl, hb, hmb, hown, hn, hc, hlo, hhi, hall⟩
  · have : decide (FitB size by_.toNat []) = true := decide_eq_true (by simp [FitB])
    rw [this]
    exact fits36_nil b by_ size w hb
  · have e : (hi / 2 ^ by_.toNat - lo / 2 ^ by_.toNat < size) ↔ FitB size by_.toNat L := by
      have p : (0 : Int) < 2 ^ by_.toNat := Int.pow_pos (by omega)
      unfold FitB
      rw [Int.natCast_pow]
      show _ ↔ ∀ x, x ∈ L → ∀ y, y ∈ L → x / (2 : Int) ^ by_.toNat - y / (2 : Int) ^ by_.toNat < size
      constructor
      · intro h x hx y hy
        have a1 := Int.ediv_le_ediv p (hall x hx).2
        have a2 := Int.ediv_le_ediv p (hall y hy).1
        omega
      · intro h; exact h hi hhi lo hlo
    have := fits36_more b m lo hi by_ size n D w hb hown (hc.size_pos hlo) (hL lo hlo).1 (hall lo hlo).2 (hL hi hhi).2 hy hy2 (by omega) z2
    rw [decide_eq_decide.2 e] at this
    exact this
end Go.Proofs.YtlpddogcnpokfaaGreat
