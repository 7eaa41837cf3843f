/- Walks of the least and the greatest number of a point (atomicMinMax of doubles), and of the small cells beside them. -/
import Derived.Test.YtlpddogcnpokfaaGreatDsc
namespace Go.Proofs.YtlpddogcnpokfaaGreat
open Go.RowKit

theorem load83 (a : Addr) (x : Bool) (w : World) (hc : w.cell? a = some (.bool x)) :
    Calls Tryz.prog 83 #[.pointer (some a)] w fun e w' => e = .returned (.bool x) ∧ w = w' := by
  go_enter Tryz.func83, Tryz.ntmps83
  go_wp2
  go_ret
  exact ⟨rfl, rfl⟩
theorem store153 (a : Addr) (x : Bool) (v0 : Value) (w : World) (hc : w.cell? a = some v0) (hf : w.frozen? a = false) :
    Calls Tryz.prog 153 #[.pointer (some a), .bool x] w fun e w' => e = .returned (.tuple #[]) ∧ w.setCell a (.bool x) = w' := by
  go_enter Tryz.func153, Tryz.ntmps153
  go_wp2
  go_end0
  exact ⟨rfl, rfl⟩

theorem mk32 (w : World) (n : Nat) : (Instr.makeInterface 32 (.float .f64 n)).run Tryz.prog w = .ok (.iface 32 (.float .f64 n)) w := by kernel_rfl
theorem as32i (w : World) (n : Nat) : (Instr.typeAssert (.iface 32 (.float .f64 n)) 20 2 true).run Tryz.prog w = .ok (.tuple #[.int .i64 0, .bool false]) w := by kernel_rfl
theorem as32f (w : World) (n : Nat) : (Instr.typeAssert (.iface 32 (.float .f64 n)) 20 32 true).run Tryz.prog w = .ok (.tuple #[.float .f64 n, .bool true]) w := by kernel_rfl
theorem mk2 (w : World) (n : Int) : (Instr.makeInterface 2 (.int .i64 n)).run Tryz.prog w = .ok (.iface 2 (.int .i64 n)) w := by kernel_rfl
theorem as2i (w : World) (n : Int) : (Instr.typeAssert (.iface 2 (.int .i64 n)) 20 2 true).run Tryz.prog w = .ok (.tuple #[.int .i64 n, .bool true]) w := by kernel_rfl
theorem as2f (w : World) (n : Int) : (Instr.typeAssert (.iface 2 (.int .i64 n)) 20 32 true).run Tryz.prog w = .ok (.tuple #[.float .f64 0, .bool false]) w := by kernel_rfl

set_option maxHeartbeats 400000 in
theorem store161 (a : Addr) (n : Nat) (v0 : Value) (w : World) (hc : w.cell? a = some v0) (hf : w.frozen? a = false) :
    Calls Tryz.prog 161 #[.pointer (some a), .float .f64 n] w fun e w' => e = .returned (.tuple #[]) ∧ w.setCell a (U n) = w' := by
  have h1 := mk32
  have h2 := as32i
  have h3 := as32f
  go_enter Tryz.func161, Tryz.ntmps161
  go_wp2_with fail
  refine (storeU _ _ _ _ hc hf).mono ?_
  rintro e w' ⟨rfl, rfl⟩
  go_wp2_with fail
  go_end0
  exact ⟨rfl, rfl⟩
set_option maxHeartbeats 400000 in
theorem load101 (a : Addr) (n : Nat) (w : World) (hc : w.cell? a = some (U n)) :
    Calls Tryz.prog 101 #[.pointer (some a)] w fun e w' => e = .returned (.float .f64 n) ∧ w = w' := by
  unfold U at hc
  have h1 := mk32
  have h2 := as32i
  have h3 := as32f
  go_enter Tryz.func101, Tryz.ntmps101
  go_wp2
  go_ret
  exact ⟨rfl, rfl⟩
set_option maxHeartbeats 400000 in
theorem cas147 (a : Addr) (n m : Nat) (w : World) (hc : w.cell? a = some (U n)) (hf : w.frozen? a = false) :
    Calls Tryz.prog 147 #[.pointer (some a), .float .f64 n, .float .f64 m] w fun e w' => e = .returned (.bool true) ∧ w.setCell a (U m) = w' := by
  unfold U at *
  have h1 := mk32
  have h2 := as32i
  have h3 := as32f
  go_enter Tryz.func147, Tryz.ntmps147
  go_wp2
  go_ret
  exact ⟨rfl, rfl⟩
end Go.Proofs.YtlpddogcnpokfaaGreat
namespace Go.Proofs.YtlpddogcnpokfaaGreat
open Go.RowKit

theorem part209 (w : World) (b : Nat) (cs : Array Value) (fz : Nat × Nat) (h : w.heap[b]? = some (.cells cs 209 fz)) :
    (partAt ⟨b, 2, none⟩ 3 17).run Tryz.prog w = .ok ⟨b, 5, some 49⟩ w := by
  have k1 : Tryz.prog.cellsOf 209 = 17 := by kernel_rfl
  have k2 : byteOfCell Tryz.prog Tryz.prog.depth 209 2 = some 32 := by kernel_rfl
  have k3 : byteOfCell Tryz.prog Tryz.prog.depth 209 5 = some 56 := by kernel_rfl
  have hs : w.shape? b = some (209, cs.size) := by unfold World.shape?; rw [h]
  simp [partAt, byteOf, noView, viewAt, hs, k1, k2, k3]
end Go.Proofs.YtlpddogcnpokfaaGreat
namespace Go.Proofs.YtlpddogcnpokfaaGreat
open Go.RowKit

theorem lock68 (a : Addr) (w : World) : Calls Tryz.prog 68 #[.pointer (some a)] w fun e w' => e = .returned (.tuple #[]) ∧ w = w' := by
  go_enter Tryz.func68, Tryz.ntmps68
  go_wp2
  go_end0
  exact ⟨rfl, rfl⟩
theorem unlock69 (a : Addr) (u : FrameMode) (w : World) : CallsD Tryz.prog 69 #[.pointer (some a)] u w fun e u' w' => u' = u ∧ (e = .returned (.tuple #[]) ∧ w' = w) := by
  go_enter_d Tryz.func69, Tryz.ntmps69
  go_wp2
  go_end0
  exact ⟨rfl, rfl⟩
theorem store153d (a : Addr) (x : Bool) (v0 : Value) (u : FrameMode) (w : World) (hc : w.cell? a = some v0) (hf : w.frozen? a = false) :
    CallsD Tryz.prog 153 #[.pointer (some a), .bool x] u w fun e u' w' => u' = u ∧ (e = .returned (.tuple #[]) ∧ w' = w.setCell a (.bool x)) := by
  go_enter_d Tryz.func153, Tryz.ntmps153
  go_wp2
  go_end0
  exact ⟨rfl, rfl⟩

set_option maxHeartbeats 400000 in
theorem init146 (b n : Nat) (cs : Array Value) (v0 v1 : Value) (w : World) (hb : w.heap[b]? = some (.cells cs 209 (0, 0))) (h0 : w.cell? ⟨b, 2, none⟩ = some v0) (h1 : w.cell? ⟨b, 3, none⟩ = some v1) (h2 : w.cell? ⟨b, 4, none⟩ = some (.bool false))
    (f0 : w.frozen? ⟨b, 2, none⟩ = false) (f1 : w.frozen? ⟨b, 3, none⟩ = false) (f2 : w.frozen? ⟨b, 4, none⟩ = false) :
    Calls Tryz.prog 146 #[.pointer (some ⟨b, 2, none⟩), .float .f64 n] w fun e w' => e = .returned (.bool true) ∧
      ((w.setCell ⟨b, 2, none⟩ (U n)).setCell ⟨b, 3, none⟩ (U n)).setCell ⟨b, 4, none⟩ (.bool true) = w' := by
  have hp := part209 w b cs (0, 0) hb
  have q1 : ((w.setCell ⟨b, 2, none⟩ (U n)).setCell ⟨b, 3, none⟩ (U n)).cell? ⟨b, 4, none⟩ = some (.bool false) := by go_simp
  have q2 : ((w.setCell ⟨b, 2, none⟩ (U n)).setCell ⟨b, 3, none⟩ (U n)).frozen? ⟨b, 4, none⟩ = false := by go_simp
  have q3 : (w.setCell ⟨b, 2, none⟩ (U n)).cell? ⟨b, 3, none⟩ = some v1 := by go_simp
  have q4 : (w.setCell ⟨b, 2, none⟩ (U n)).frozen? ⟨b, 3, none⟩ = false := by go_simp
  have Q1 := Lib.hid q1
  have Q2 := Lib.hid q2
  clear hb q1 q2
  go_enter_defers Tryz.func146, Tryz.ntmps146
  go_wp2_with (first | (go_at_call 68; refine (lock68 _ _).mono ?_; rintro e w' ⟨rfl, rfl⟩) | (go_at_call 83; refine (load83 _ _ _ h2).mono ?_; rintro e w' ⟨rfl, rfl⟩))
  refine (store161 _ _ _ _ h0 f0).mono ?_
  rintro e w' ⟨rfl, rfl⟩
  go_wp2_with fail
  refine (store161 _ _ _ _ q3 q4).mono ?_
  rintro e w' ⟨rfl, rfl⟩
  go_wp2_with fail
  refine leaves_cons (f := 153) (args := #[.pointer (some ⟨b, 4, none⟩), .bool true]) (by simp) (by simp [go_sem]) ?_
  refine (store153d _ _ _ .returning _ Q1.out Q2.out).mono ?_
  rintro e u' w'' ⟨rfl, rfl, rfl⟩
  refine leaves_cons (f := 69) (args := #[.pointer (some ⟨b, 5, some 49⟩)]) (by show ¬ (FrameMode.returning = FrameMode.run); intro h; cases h) (by simp [go_sem]) ?_
  refine (unlock69 _ .returning _).mono ?_
  rintro e u' w'' ⟨rfl, rfl, rfl⟩
  exact ⟨_, results_tmp rfl _ _ _, rfl, rfl⟩

/-- less, of doubles -/
def ltW (a b : Nat) : Bool := FloatKind.f64.format.order a b == some .lt

/-- the least and the greatest number behind a measurement -/
def mmStep (v mn mx : Nat) : Nat × Nat := if ltW v mn then (v, mx) else if ltW mx v then (mn, v) else (mn, mx)

set_option maxHeartbeats 400000 in
theorem update127_first (b n : Nat) (cs : Array Value) (v0 v1 : Value) (w : World) (hb : w.heap[b]? = some (.cells cs 209 (0, 0))) (h0 : w.cell? ⟨b, 2, none⟩ = some v0) (h1 : w.cell? ⟨b, 3, none⟩ = some v1) (h2 : w.cell? ⟨b, 4, none⟩ = some (.bool false))
    (f0 : w.frozen? ⟨b, 2, none⟩ = false) (f1 : w.frozen? ⟨b, 3, none⟩ = false) (f2 : w.frozen? ⟨b, 4, none⟩ = false) :
    Calls Tryz.prog 127 #[.pointer (some ⟨b, 2, none⟩), .float .f64 n] w fun e w' => e = .returned (.tuple #[]) ∧
      ((w.setCell ⟨b, 2, none⟩ (U n)).setCell ⟨b, 3, none⟩ (U n)).setCell ⟨b, 4, none⟩ (.bool true) = w' := by
  have HB := Lib.hid hb
  clear hb
  go_enter Tryz.func127, Tryz.ntmps127
  go_wp2_with fail
  refine (load83 _ _ _ h2).mono ?_; rintro e w' ⟨rfl, rfl⟩
  go_wp2_with fail
  refine (init146 b n cs v0 v1 _ HB.out h0 h1 h2 f0 f1 f2).mono ?_; rintro e w' ⟨rfl, rfl⟩
  go_wp2_with fail
  (try simp only [Exit.inBlock, Exit.then])
  refine bodyPost_ret (results_none rfl _ _ _) rfl ?_
  exact ⟨rfl, rfl⟩

set_option maxHeartbeats 400000 in
theorem update127_more (b n mn mx : Nat) (w : World) (h0 : w.cell? ⟨b, 2, none⟩ = some (U mn)) (h1 : w.cell? ⟨b, 3, none⟩ = some (U mx)) (h2 : w.cell? ⟨b, 4, none⟩ = some (.bool true))
    (f0 : w.frozen? ⟨b, 2, none⟩ = false) (f1 : w.frozen? ⟨b, 3, none⟩ = false) :
    Calls Tryz.prog 127 #[.pointer (some ⟨b, 2, none⟩), .float .f64 n] w fun e w' => e = .returned (.tuple #[]) ∧
      (if ltW n mn then w.setCell ⟨b, 2, none⟩ (U n) else if ltW mx n then w.setCell ⟨b, 3, none⟩ (U n) else w) = w' := by
  by_cases hl : ltW n mn = true
  · rw [if_pos hl]
    unfold ltW at hl
    go_enter Tryz.func127, Tryz.ntmps127
    go_wp2_with fail
    refine (load83 _ _ _ h2).mono ?_; rintro e w' ⟨rfl, rfl⟩
    go_wp2_with fail
    refine (load101 _ _ _ h0).mono ?_; rintro e w' ⟨rfl, rfl⟩
    go_wp2_with fail
    refine wp_loop_once ?_
    go_wp2_with fail
    refine (cas147 _ _ _ _ h0 f0).mono ?_; rintro e w' ⟨rfl, rfl⟩
    go_wp2_with fail
    (try simp only [Exit.inBlock, Exit.then])
    refine bodyPost_ret (results_none rfl _ _ _) rfl ?_
    exact ⟨rfl, rfl⟩
  · have hl' : ltW n mn = false := by simpa using hl
    rw [if_neg hl]
    unfold ltW at hl'
    clear hl
    by_cases hg : ltW mx n = true
    · rw [if_pos hg]
      unfold ltW at hg
      go_enter Tryz.func127, Tryz.ntmps127
      go_wp2_with fail
      refine (load83 _ _ _ h2).mono ?_; rintro e w' ⟨rfl, rfl⟩
      go_wp2_with fail
      refine (load101 _ _ _ h0).mono ?_; rintro e w' ⟨rfl, rfl⟩
      go_wp2_with fail
      refine wp_loop_once ?_
      go_wp2_with fail
      refine (load101 _ _ _ h1).mono ?_; rintro e w' ⟨rfl, rfl⟩
      go_wp2_with fail
      refine wp_loop_once ?_
      go_wp2_with fail
      refine (cas147 _ _ _ _ h1 f1).mono ?_; rintro e w' ⟨rfl, rfl⟩
      go_wp2_with fail
      (try simp only [Exit.inBlock, Exit.then])
      refine bodyPost_ret (results_none rfl _ _ _) rfl ?_
      exact ⟨rfl, rfl⟩
    · have hg' : ltW mx n = false := by simpa using hg
      rw [if_neg hg]
      unfold ltW at hg'
      clear hg
      go_enter Tryz.func127, Tryz.ntmps127
      go_wp2_with fail
      refine (load83 _ _ _ h2).mono ?_; rintro e w' ⟨rfl, rfl⟩
      go_wp2_with fail
      refine (load101 _ _ _ h0).mono ?_; rintro e w' ⟨rfl, rfl⟩
      go_wp2_with fail
      refine wp_loop_once ?_
      go_wp2_with fail
      refine (load101 _ _ _ h1).mono ?_; rintro e w' ⟨rfl, rfl⟩
      go_wp2_with fail
      refine wp_loop_once ?_
      go_wp2_with fail
      go_end0
      exact ⟨rfl, rfl⟩
end Go.Proofs.YtlpddogcnpokfaaGreat
