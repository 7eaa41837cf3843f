/- What came in, as floats; what is closed about the program. -/
import Derived.Test.YtlpddogcnpokfaaGreatEx1
import Derived.Test.YtlpddogcnpokfaaGreatRows
import Derived.WalkKit
import Derived.ProofKit
import Derived.OpenShut
import Derived.Carry
import Derived.Deep.Slices
import Derived.Laws.Cover2
import Derived.JoinedOf
namespace Go.Proofs.YtlpddogcnpokfaaGreat
open Go.ChangeShapes Go.WideShapes Go.ChangeAt Go.RowKit Go.Deep
theorem laidOut : laidOutB Tryz.prog = true := by kernel_rfl
theorem ownNone : ownKnob Tryz.prog.godebug = none := by kernel_rfl
theorem cells32 : Tryz.prog.cellsOf 32 = 1 := by kernel_rfl
theorem has_lt {w : World} {r : Reach} {base : Nat} {a : Addr} {e : TypeId} {n : Nat} (h : w.has Tryz.prog r base a e n) : a.block < w.heap.size := by
  obtain ⟨_, _, row, cells, hs, _⟩ := h
  unfold World.shape? at hs
  rcases Nat.lt_or_ge a.block w.heap.size with h1 | h1
  · exact h1
  · rw [Array.getElem?_eq_none h1] at hs; cases hs
theorem trod_float {H : Type} {enc : TypeId × Value → H} {W : World} {base n : Nat} {sp : Nat → Bool} {hd : Bool} {v : Value} {x : DataW H × List MemPlace} (h : DataW.trod enc Tryz.prog W base sp hd n 32 [v] = some x) : ∃ k : Nat, v = Fl k ∧ k < 18446744073709551616 := by
  cases n with
  | zero => simp [DataW.trod] at h
  | succ n =>
    simp only [DataW.trod, Tryz.underlying32] at h
    cases v <;> simp at h
    rename_i k b
    obtain ⟨⟨rfl, hw⟩, _⟩ := h
    exact ⟨b, rfl, by simpa [Lit.wf] using hw⟩
set_option maxRecDepth 100000 in
/-- floats that came in -/
theorem open_fl {H : Type} {enc : TypeId × Value → H} {W : World} {v : Value} {d : DataW H} {p : List MemPlace} {base : Nat} (hval : Value.okWide Tryz.prog W .any base 22 v) (h : DataW.Trod enc Tryz.prog W 0 (fun _ => true) true 22 v d p) :
    ∃ l : List Nat, SlAt W v (l.map Fl) ∧ ∀ n, n ∈ l → n < 18446744073709551616 := by
  obtain ⟨fuel, hf⟩ := h
  obtain ⟨a0, len, cap, rfl⟩ := okWide_slice Tryz.underlying22 hval
  rcases open_slice1 Tryz.underlying22 cells32 hf with ⟨hcs, _⟩ | ⟨a, len', cap', m, n, V, D, Pl, hcs, _, hl, hm, hmm, hx, hV⟩
  · simp [Value.cells] at hcs
    obtain ⟨rfl, rfl, rfl⟩ := hcs
    exact ⟨[], .inl ⟨rfl, rfl⟩, fun n hn => by cases hn⟩
  · simp [Value.cells] at hcs
    obtain ⟨rfl, rfl, rfl⟩ := hcs
    have hmc : m = cap := by simpa using hmm
    subst hmc
    have hlt : a.block < W.heap.size := by
      simp only [Value.okWide, Tryz.underlying22, Cell.okWide, Cell.ok] at hval
      exact has_lt hval.2.2
    have hfl : ∀ i, i < len → ∃ k : Nat, V i = Fl k ∧ k < 18446744073709551616 := fun i hi => trod_float (hV i (by omega)).2
    refine ⟨(List.range len).map (fun i => match V i with | .float _ k => k | _ => 0), .inr ⟨a, m, by simp, hlt, by simpa using hl, hm, ?_⟩, ?_⟩
    · intro i u hi
      rw [List.map_map, List.getElem?_map] at hi
      rcases Nat.lt_or_ge i len with h1 | h1
      · rw [List.getElem?_range h1] at hi
        simp at hi
        obtain ⟨k, hk, _⟩ := hfl i h1
        rw [hk] at hi
        rw [(hV i (by omega)).1, hk, ← hi]; rfl
      · rw [List.getElem?_eq_none (by simpa using h1)] at hi; cases hi
    · intro k hk
      obtain ⟨i, hi, rfl⟩ := List.mem_map.1 hk
      obtain ⟨k, hk, hb⟩ := hfl i (by simpa using hi)
      rw [hk]; exact hb
end Go.Proofs.YtlpddogcnpokfaaGreat
