/- a measurement, the point is there -/
import Derived.Test.YtlpddogcnpokfaaGreatSet3
import Derived.MapKept
import Derived.StillTailTactics
namespace Go.Proofs.YtlpddogcnpokfaaGreat
open Go.RowKit

theorem check176 (em : Bool) (h : Int) (w : World) : (Instr.checkKey em 10000 176 (.agg #[.int .u64 h])).run Tryz.prog w = .ok () w := by kernel_rfl
theorem find0 (v : Value) (w : World) : (Instr.findKey 176 v []).run Tryz.prog w = .ok none w := by kernel_rfl
theorem find1 (x : Value) (n : Nat) (w : World) : (Instr.findKey 176 (.agg #[.int .u64 H0]) [⟨.agg #[.int .u64 H0], x, n⟩]).run Tryz.prog w = .ok (some (0, x)) w := by kernel_rfl

/-- a map without entries -/
theorem look0 (b c : Nat) (h : Int) (w : World) (hb : w.heap[b]? = some (.map #[] c)) :
    (Instr.lookup 210 (.map (some b)) (.agg #[.int .u64 h]) true).run Tryz.prog w = .ok (.tuple #[.pointer none, .bool false]) w := by
  simp [Instr.lookup, run_underlying Tryz.underlying210, MapKept.run_getObj_map hb, check176, find0]
theorem look1 (b c n : Nat) (x : Value) (w : World) (hb : w.heap[b]? = some (.map #[⟨.agg #[.int .u64 H0], x, n⟩] c)) :
    (Instr.lookup 210 (.map (some b)) (.agg #[.int .u64 H0]) true).run Tryz.prog w = .ok (.tuple #[x, .bool true]) w := by
  simp [Instr.lookup, run_underlying Tryz.underlying210, MapKept.run_getObj_map hb, check176, find1]
/-- the world with another map in a block -/
def putMap (w : World) (b : Nat) (es : Array MapEntry) (c : Nat) : World := { w with heap := w.heap.setIfInBounds b (.map es c) }
theorem update0 (b c : Nat) (h : Int) (x : Value) (w : World) (hb : w.heap[b]? = some (.map #[] c)) :
    (Instr.mapUpdate 210 (.map (some b)) (.agg #[.int .u64 h]) x).run Tryz.prog w = .ok () (putMap w b #[⟨.agg #[.int .u64 h], x, c⟩] (c + 1)) := by
  simp [Instr.mapUpdate, run_underlying Tryz.underlying210, MapKept.run_getObj_map hb, check176, find0, MapKept.run_setObj_map _ hb, Result.andThen, putMap]
end Go.Proofs.YtlpddogcnpokfaaGreat
namespace Go.Proofs.YtlpddogcnpokfaaGreat
open Go.RowKit

/-- an exponential histogram, in memory: its block -/
def hgCells (ms S : Int) (b : Nat) (tm : Value) : Array Value := #[.bool false, .bool false, .int .i64 ms, .int .i32 S, .int .i64 0, .map (some b), tm]

theorem Kept.obj {S : List Nat} {a b : World} (hk : Kept S a b) {k : Nat} {o : Obj} (h : a.heap[k]? = some o) (hs : k ∉ S) : b.heap[k]? = some o := by
  have hl : k < a.heap.size := by
    rcases Nat.lt_or_ge k a.heap.size with h1 | h1
    · exact h1
    · rw [Array.getElem?_eq_none h1] at h; cases h
  exact (hk.block k hl hs).trans h
theorem Kept.pt {w w' : World} (hk : Kept [] w w') {d : Nat} (hd : d < w.heap.size) : PtBut w w' d [] := ⟨fun _ _ => hk.cell hd (by simp), fun _ => hk.frozen hd (by simp), hk.sub (by simp)⟩
theorem DpAt.kept {w w' : World} {d : Nat} {mm : Option (Nat × Nat)} {fb : Nat} {ni ms : Int} {s : Bk} {og oh : Option Nat} (h : DpAt w d mm fb ni ms s og oh) (hk : Kept [] w w') : DpAt w' d mm fb ni ms s og oh := by
  have k := hk.pt h.lt
  have c : ∀ i, i ∉ ([] : List Nat) := by simp
  refine ⟨Nat.lt_of_lt_of_le h.lt hk.size, fun i => (k.fz i).trans (h.fz i), ?_, (k.cell _ (c _)).trans h.c5, (k.cell _ (c _)).trans h.c6, (k.cell _ (c _)).trans h.c7, (k.cell _ (c _)).trans h.c8, (k.cell _ (c _)).trans h.c9, h.fbl, h.bk.but k (by simp)⟩
  cases mm with
  | some m => exact h.mm.but k (by simp)
  | none =>
    obtain ⟨⟨cs, hb⟩, ⟨v0, h0⟩, ⟨v1, h1⟩, h2⟩ := h.mm
    exact ⟨⟨cs, hk.obj hb (by simp)⟩, ⟨v0, (k.cell _ (c _)).trans h0⟩, ⟨v1, (k.cell _ (c _)).trans h1⟩, (k.cell _ (c _)).trans h2⟩
theorem DpPost.past {w w4 w5 : World} {d v : Nat} {mm : Option (Nat × Nat)} {fb : Nat} {ni ms : Int} {s : Bk} {og oh : Option Nat} (h : DpPost w4 w5 d v mm fb ni ms s og oh) (hk : Kept [] w w4) (hd : d < w.heap.size) :
    DpPost w w5 d v mm fb ni ms s og oh := by
  obtain ⟨fb', ni', og', oh', h1, h2, h3, h4, h5, h6⟩ := h
  have hs := hk.size
  have nw : ∀ {a b : Option Nat}, Newer w4 a b → Newer w a b := by
    rintro a b (h | ⟨g, e, h⟩)
    · exact .inl h
    · exact .inr ⟨g, e, by omega⟩
  exact ⟨fb', ni', og', oh', h1, h2, (hk.sub (by simp)).trans h3, nw h4, nw h5, fun i hi => (h6 i hi).trans ((hk.pt hd).cell i (by simp))⟩
theorem part212 (w : World) (h : Nat) (cs : Array Value) (fz : Nat × Nat) (hh : w.heap[h]? = some (.cells cs 212 fz)) :
    (partAt ⟨h, 0, none⟩ 6 40).run Tryz.prog w = .ok ⟨h, 6, none⟩ w := by
  have k1 : Tryz.prog.cellsOf 212 = 7 := by kernel_rfl
  have k2 : byteOfCell Tryz.prog Tryz.prog.depth 212 0 = some 0 := by kernel_rfl
  have k3 : byteOfCell Tryz.prog Tryz.prog.depth 212 6 = some 40 := by kernel_rfl
  have hs : w.shape? h = some (212, cs.size) := by unfold World.shape?; rw [hh]
  simp [partAt, byteOf, noView, viewAt, hs, k1, k2, k3]
  done

set_option maxRecDepth 100000 in
theorem measure59_found (h b g c n d v top : Nat) (ms S : Int) (tm ctx : Value) (mm : Option (Nat × Nat)) (fb : Nat) (ni : Int) (s : Bk) (og oh : Option Nat) (w : World)
    (hh : w.heap[h]? = some (.cells (hgCells ms S b tm) 212 (0, 0))) (hb : w.heap[b]? = some (.map #[⟨.agg #[.int .u64 H0], .pointer (some ⟨d, 0, none⟩), n⟩] c)) (hd : DpAt w d mm fb ni ms s og oh)
    (hv : v < 18446744073709551616) (hi : Lg.infW v = false) (hna : Lg.nanW v = false)
    (hzc : s.zc < 4611686018427387904) (R : absW v ≠ 0 → RecPre top v ms s) (hp : (recBk top ms v s).pl.length ≤ 1000) (hn : (recBk top ms v s).nl.length ≤ 1000) :
    Calls Tryz.prog 59 #[.pointer (some ⟨h, 0, none⟩), ctx, .float .f64 v, lazyV g] w fun e w' => e = .returned (.tuple #[]) ∧ DpPost w w' d v mm fb ni ms (recBk top ms v s) og oh := by
  have HB := Lib.hid hb
  have HH := Lib.hid hh
  have HD := Lib.hid hd
  have RR := Lib.hid R
  have HP := Lib.hid hp
  have HN := Lib.hid hn
  have HZ := Lib.hid hzc
  clear hb hd R hp hn hzc
  unfold lazyV
  go_enter_defers Tryz.func59, Tryz.ntmps59
  go_wp2_with fail
  refine (isInf33 v _ hv).mono ?_; rintro e w' ⟨rfl, rfl⟩
  rw [hi]
  go_wp2_with fail
  refine (isNaN32 v _).mono ?_; rintro e w' ⟨rfl, rfl⟩
  rw [hna]
  obtain ⟨W1, hW1⟩ : ∃ W1, W1 = w.alloc (.cells #[.int .u64 H0, .slice (some ⟨g, 0, none⟩) 0 0, .int .u64 H0, .int .u64 0, .slice none 0 0, .bool false] 178) := ⟨_, rfl⟩
  have K1 := Lib.hid (show Kept [] w W1 by rw [hW1]; exact (Kept.refl _ _).alloc _)
  have hh1 : W1.heap[h]? = some (.cells (hgCells ms S b tm) 212 (0, 0)) := K1.out.obj hh (by simp)
  have l0 : W1.cell? ⟨w.heap.size, 0, none⟩ = some (.int .u64 H0) := by rw [hW1]; go_simp
  have l1 : W1.cell? ⟨w.heap.size, 1, none⟩ = some (.slice (some ⟨g, 0, none⟩) 0 0) := by rw [hW1]; go_simp
  have l2 : W1.cell? ⟨w.heap.size, 2, none⟩ = some (.int .u64 H0) := by rw [hW1]; go_simp
  have l3 : W1.cell? ⟨w.heap.size, 3, none⟩ = some (.int .u64 0) := by rw [hW1]; go_simp
  have l4 : W1.cell? ⟨w.heap.size, 4, none⟩ = some (.slice none 0 0) := by rw [hW1]; go_simp
  have l5 : W1.cell? ⟨w.heap.size, 5, none⟩ = some (.bool false) := by rw [hW1]; go_simp
  have hpa := part212 W1 h _ _ hh1
  rw [← hW1]
  clear hW1 hh hh1
  go_wp2_with (go_at_call 68; refine (lock68 _ _).mono ?_; rintro e w' ⟨rfl, rfl⟩)
  refine (dist70 g W1).mono ?_; rintro e w2 ⟨rfl, hk2⟩
  have HK2 := Lib.hid (K1.out.trans hk2)
  clear hk2 hpa l0 l1 l2 l3 l4 l5
  go_wp2_with fail
  obtain ⟨W3, hW3⟩ : ∃ W3, W3 = w2.alloc (.cells #[.int .u64 H0] 176) := ⟨_, rfl⟩
  have K3 := Lib.hid (show Kept [] w W3 by rw [hW3]; exact HK2.out.alloc _)
  have e0 : W3.cell? ⟨w2.heap.size, 0, none⟩ = some (.int .u64 H0) := by rw [hW3]; go_simp
  have hh3 : W3.heap[h]? = some (.cells (hgCells ms S b tm) 212 (0, 0)) := K3.out.obj HH.out (by simp)
  have hb3 := K3.out.obj HB.out (by simp)
  have c5 : W3.cell? ⟨h, 5, none⟩ = some (.map (some b)) := by unfold World.cell? hgCells at *; simp [hh3]
  have hlk := fun k => look1 b c n (.pointer (some ⟨d, 0, none⟩)) (W3.drewN k) hb3
  rw [← hW3]
  clear hW3 hh3 hb3
  go_quiet (fail)
  generalize hW4 : W3.drewN _ = w4
  have K4 := Lib.hid (K3.out.dr ⟨_, hW4⟩)
  clear hW4 hlk c5 e0
  have HD4 := Lib.hid (HD.out.kept K4.out)
  go_wp2_with fail
  refine (record96 d v top mm fb ni ms s og oh w4 HD4.out hv HZ.out RR.out HP.out HN.out).mono ?_; rintro e w5 ⟨rfl, hq⟩
  have FIN := Lib.hid (hq.past K4.out HD.out.lt)
  clear hq
  go_wp2_with fail
  refine leaves_cons (f := 69) (args := #[.pointer (some ⟨h, 6, none⟩)]) (by show ¬ (FrameMode.returning = FrameMode.run); intro h; cases h) (by simp [go_sem]) ?_
  refine (unlock69 _ .returning _).mono ?_
  rintro e u' w'' ⟨rfl, rfl, rfl⟩
  exact ⟨_, results_none rfl _ _ _, rfl, FIN.out⟩
end Go.Proofs.YtlpddogcnpokfaaGreat
