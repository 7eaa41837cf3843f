/- the builder -/
import Derived.Test.YtlpddogcnpokfaaGreatMsr1
import Derived.Deep.RegionWith
namespace Go.Proofs.YtlpddogcnpokfaaGreat
open Go.RowKit
/-- no limit of sets -/
theorem limiter92 (n : Int) (w : World) : Calls Tryz.prog 92 #[.int .i64 n] w fun e w' => e = .returned (.agg #[.int .i64 n]) ∧ Kept [] w w' := by
  go_enter Tryz.func92, Tryz.ntmps92
  go_wp2_with fail
  have hfin := Lib.hid ((Kept.refl [] w).alloc (.cells #[.int .i64 n] 202))
  have r0 : (w.alloc (.cells #[.int .i64 n] 202)).cell? ⟨w.heap.size, 0, none⟩ = some (.int .i64 n) := by go_simp
  generalize w.alloc (.cells #[.int .i64 n] 202) = X at *
  (try simp only [Exit.inBlock, Exit.then])
  refine bodyPost_ret (by simp [results, Tryz.results92, go_sem, r0]; rfl) rfl ?_
  exact ⟨rfl, hfin.out⟩
set_option maxRecDepth 100000 in
theorem newHg57 (ms S : Int) (w : World) (h1 : 0 ≤ ms) (h2 : ms ≤ 1000) : Calls Tryz.prog 57 #[.int .i32 ms, .int .i32 S, .bool false, .bool false, .int .i64 0] w fun e w' =>
    ∃ h b, e = .returned (.pointer (some ⟨h, 0, none⟩)) ∧ w'.heap[h]? = some (.cells (hgCells ms S b (.int .i64 0)) 212 (0, 0)) ∧ w'.heap[b]? = some (.map #[] 0) ∧ h ≠ b ∧ w.heap.size ≤ h ∧ w.heap.size ≤ b ∧ Kept [] w w' := by
  have hmk : ∀ w : World, (Instr.makeMap 210 none).run Tryz.prog w = .ok (.map (some w.heap.size)) (w.alloc (.map #[] 0)) := fun _ => by kernel_rfl
  have hw : IntKind.i64.wrap ms = ms := IntWalk.i64_in _ (by omega)
  go_enter Tryz.func57, Tryz.ntmps57
  go_wp2_with fail
  refine (limiter92 0 w).mono ?_; rintro e w1 ⟨rfl, hk1⟩
  have K1 := Lib.hid hk1
  clear hk1
  go_wp2_with fail
  refine (now64 _).mono ?_; rintro e w2 ⟨rfl, hk2⟩
  have K2 := Lib.hid hk2
  clear hk2
  go_wp2_with fail
  have m1 : (w1.alloc (.map #[] 0)).heap[w1.heap.size]? = some (.map #[] 0) := by unfold World.alloc; simp
  have m2 := K2.out.obj m1 (by simp)
  have l1 := heap_lt m2
  have hs1 := K1.out.size
  have k3 := K1.out.trans ((((Kept.refl [] w1).alloc (.map #[] 0)).trans K2.out).alloc (.cells (hgCells ms S w1.heap.size (.int .i64 0)) 212))
  have m3 : (w2.alloc (.cells (hgCells ms S w1.heap.size (.int .i64 0)) 212)).heap[w2.heap.size]? = some (.cells (hgCells ms S w1.heap.size (.int .i64 0)) 212 (0, 0)) := by unfold World.alloc; simp
  have m4 : (w2.alloc (.cells (hgCells ms S w1.heap.size (.int .i64 0)) 212)).heap[w1.heap.size]? = some (.map #[] 0) := ((Kept.refl [] w2).alloc _).obj m2 (by simp)
  go_ret
  exact ⟨w2.heap.size, w1.heap.size, rfl, m3, m4, by omega, by omega, hs1, k3⟩
end Go.Proofs.YtlpddogcnpokfaaGreat
namespace Go.Proofs.YtlpddogcnpokfaaGreat
open Go.RowKit
/-- a builder of an aggregation -/
def bldV (tp : Int) : Value := .agg #[.int .u8 tp, .nilFunc, .int .i64 0]
set_option maxRecDepth 100000 in
theorem filter58 (tp : Int) (h : Nat) (w : World) : Calls Tryz.prog 58 #[bldV tp, .func (.func 59) #[.pointer (some ⟨h, 0, none⟩)] #[]] w fun e w' => ∃ p, e = .returned (.func (.func 94) #[] #[.pointer (some ⟨p, 0, none⟩)]) ∧ w'.cell? ⟨p, 0, none⟩ = some (.func (.func 59) #[.pointer (some ⟨h, 0, none⟩)] #[]) ∧ w.heap.size ≤ p ∧ Kept [] w w' := by
  have hnf : ∀ w, (binOp .neq 85 .nilFunc .nilFunc).run Tryz.prog w = .ok (.bool false) w := fun _ => by kernel_rfl
  unfold bldV
  go_enter Tryz.func58, Tryz.ntmps58
  go_wp2_with fail
  have r0 : ((w.alloc (.cells #[.int .u8 tp, .nilFunc, .int .i64 0] 118)).alloc (.cells #[.func (.func 59) #[.pointer (some ⟨h, 0, none⟩)] #[]] 213)).cell? ⟨w.heap.size + 1, 0, none⟩ = some (.func (.func 59) #[.pointer (some ⟨h, 0, none⟩)] #[]) := by go_simp
  go_ret
  exact ⟨_, rfl, r0, by omega, ((Kept.refl _ _).alloc _).alloc _⟩

set_option maxRecDepth 100000 in
theorem bld47 (ms S : Int) (w : World) (h1 : 0 ≤ ms) (h2 : ms ≤ 1000) : Calls Tryz.prog 47 #[bldV 2, .int .i32 ms, .int .i32 S, .bool false, .bool false] w fun e w' => ∃ p h b,
    e = .returned (.tuple #[.func (.func 94) #[] #[.pointer (some ⟨p, 0, none⟩)], .func (.func 60) #[.pointer (some ⟨h, 0, none⟩)] #[]]) ∧ w'.cell? ⟨p, 0, none⟩ = some (.func (.func 59) #[.pointer (some ⟨h, 0, none⟩)] #[]) ∧
    w'.heap[h]? = some (.cells (hgCells ms S b (.int .i64 0)) 212 (0, 0)) ∧ w'.heap[b]? = some (.map #[] 0) ∧ h ≠ b ∧ w.heap.size ≤ p ∧ w.heap.size ≤ h ∧ w.heap.size ≤ b ∧ Kept [] w w' := by
  unfold bldV
  go_enter Tryz.func47, Tryz.ntmps47
  go_wp2_with fail
  refine (newHg57 ms S _ h1 h2).mono ?_; rintro e w1 ⟨h, b, rfl, hh, hb, hne, hlh, hlb, hk⟩
  have e0 : w1.cell? ⟨w.heap.size, 0, none⟩ = some (.int .u8 2) := (hk.new (by simp) 0).1
  have e1 : w1.cell? ⟨w.heap.size, 1, none⟩ = some .nilFunc := (hk.new (by simp) 1).1
  have e2 : w1.cell? ⟨w.heap.size, 2, none⟩ = some (.int .i64 0) := (hk.new (by simp) 2).1
  rw [alloc_size] at hlh hlb
  have K := Lib.hid hk.past
  have HH := Lib.hid hh
  have HB := Lib.hid hb
  clear hk hh hb
  go_wp2_with fail
  refine (filter58 2 h w1).mono ?_; rintro e w2 ⟨p, rfl, hp, hlp, hk2⟩
  have HP := Lib.hid hp
  have K2 := Lib.hid hk2
  clear hp hk2 e0 e1 e2
  go_wp2_with fail
  (try simp only [Exit.inBlock, Exit.then])
  go_ret2
  have := K.out.size
  exact ⟨p, h, b, rfl, HP.out, K2.out.obj HH.out (by simp), K2.out.obj HB.out (by simp), hne, by omega, by omega, by omega, K.out.trans K2.out⟩
end Go.Proofs.YtlpddogcnpokfaaGreat
