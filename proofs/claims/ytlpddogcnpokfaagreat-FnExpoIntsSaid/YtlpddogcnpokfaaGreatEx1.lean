/- The collections as one contract; slices that are read; the data points that are handed out; laws on appends and stores. -/
import Derived.Test.YtlpddogcnpokfaaGreatDl2
import Derived.Test.YtlpddogcnpokfaaGreatDl3
import Derived.Test.YtlpddogcnpokfaaGreatDl1
import Derived.Maps.AppendAt
import Derived.Deep.QuietTactic
import Derived.BigQuiet
import Derived.Deep.RegionHeld3
import Derived.Deep.RegionLaw
import Derived.Deep.WholeRow
namespace Go.Proofs.YtlpddogcnpokfaaGreat
theorem mmOf_some {l : List Nat} (h : l ≠ []) : ∃ m, mmOf l = some m := by
  rw [← List.dropLast_concat_getLast h, mmOf_snoc]; exact ⟨_, rfl⟩
/-- the sum of a list, as the program reads it -/
def SumOf (l : List Nat) (r : Nat) : Prop := ∃ fb ni, SumRun l.reverse fb ni ∧ SumRd fb ni r
/-- what a collection tells of a list -/
def Coll (w : World) (top : Nat) (ms S : Int) (l : List Nat) (V : Value) : Prop :=
  (l = [] ∧ V = .slice none 0 0) ∨ (l ≠ [] ∧ ∃ g z r vp vn mn mx, V = .slice (some ⟨g, 0, none⟩) 1 1 ∧ mmOf l = some (mn, mx) ∧ SumOf l r ∧
    w.heap[g]? = some (.cells (ptCells z ((bkOf top ms S l).pl.sum + (bkOf top ms S l).nl.sum + (bkOf top ms S l).zc) mn mx r (bkOf top ms S l) vp vn) 131 (0, 0)) ∧ NumAt w vp (bkOf top ms S l).pl ∧ NumAt w vn (bkOf top ms S l).nl)

theorem delta60 (h b q top : Nat) (ms S : Int) (l F : List Nat) (w : World)
    (hh : w.heap[h]? = some (.cells (hgCells ms S b (.int .i64 0)) 212 (0, 0))) (hm : MapAt w b top ms S l F) (hq : w.cell? ⟨q, 0, none⟩ = some .nilIface) (hqf : w.frozen? ⟨q, 0, none⟩ = false) (hqb : q ≠ b) (hqh : q ≠ h) (hhb : h ≠ b) (hlim : BkLim (bkOf top ms S l)) :
    Calls Tryz.prog 60 #[.pointer (some ⟨h, 0, none⟩), .pointer (some ⟨q, 0, none⟩)] w fun e w' => (∃ n : Int, e = .returned (.int .i64 n)) ∧ ∃ V, w'.cell? ⟨q, 0, none⟩ = some (.iface 125 (.agg #[V, .int .u8 2])) ∧ Coll w' top ms S l V ∧ MapAt w' b top ms S [] [] ∧ Kept [q, b] w w' := by
  rcases hm with ⟨rfl, rfl, c, hb⟩ | ⟨hne, d, n, c, fb, ni, og, oh, hb, hnc, hsum, hd, rfl, ⟨z, z0, z1⟩, h16, hdb⟩
  · refine (delta60_nil h b q top ms S w hh (.inl ⟨rfl, rfl, c, hb⟩) hq hqf hqb hqh hhb).mono ?_
    rintro e w' ⟨rfl, h1, h2, h3⟩
    exact ⟨⟨0, rfl⟩, _, h3, .inl ⟨rfl, rfl⟩, h1, h2⟩
  · obtain ⟨⟨mn, mx⟩, hmm⟩ := mmOf_some hne
    rw [hmm] at hd
    refine (delta60_one h b q d n c fb z mn mx ni ms S (bkOf top ms S l) og oh w hh hb hnc hd z0 z1 hq hqf hqb hqh hhb (by have := hlim.pl; omega) (by have := hlim.nl; omega) (by have := hlim.sum; omega)).mono ?_
    rintro e w' ⟨rfl, g, r, vp, vn, k1, k2, k3, k4, k5, k6, k7⟩
    exact ⟨⟨1, rfl⟩, _, k7, .inr ⟨hne, g, z, r, vp, vn, mn, mx, rfl, hmm, ⟨fb, ni, hsum, k1⟩, k2, k3, k4⟩, .inl ⟨rfl, rfl, c, k5⟩, k6⟩

theorem cum61 (h b q top : Nat) (ms S : Int) (l F : List Nat) (w : World)
    (hh : w.heap[h]? = some (.cells (hgCells ms S b (.int .i64 0)) 212 (0, 0))) (hm : MapAt w b top ms S l F) (hq : w.cell? ⟨q, 0, none⟩ = some .nilIface) (hqf : w.frozen? ⟨q, 0, none⟩ = false) (hqb : q ≠ b) (hqh : q ≠ h) (hhb : h ≠ b) (hqF : q ∉ F) (hlim : BkLim (bkOf top ms S l)) :
    Calls Tryz.prog 61 #[.pointer (some ⟨h, 0, none⟩), .pointer (some ⟨q, 0, none⟩)] w fun e w' => (∃ n : Int, e = .returned (.int .i64 n)) ∧ ∃ V, w'.cell? ⟨q, 0, none⟩ = some (.iface 125 (.agg #[V, .int .u8 1])) ∧ Coll w' top ms S l V ∧ MapAt w' b top ms S l F ∧ Kept [q] w w' := by
  have hm' := hm
  rcases hm with ⟨rfl, rfl, c, hb⟩ | ⟨hne, d, n, c, fb, ni, og, oh, hb, hnc, hsum, hd, rfl, ⟨z, z0, z1⟩, h16, hdb⟩
  · refine (cum61_nil h b q top ms S w hh (.inl ⟨rfl, rfl, c, hb⟩) hq hqf hqb hqh hhb).mono ?_
    rintro e w' ⟨rfl, h1, h2, h3⟩
    exact ⟨⟨0, rfl⟩, _, h3, .inl ⟨rfl, rfl⟩, h1, h2⟩
  · obtain ⟨⟨mn, mx⟩, hmm⟩ := mmOf_some hne
    rw [hmm] at hd
    refine (cum61_one h b q d n c fb z mn mx ni ms S (bkOf top ms S l) og oh w hh hb hnc hd z0 z1 hq hqf hqb hqh hhb (by have := hlim.pl; omega) (by have := hlim.nl; omega) (by have := hlim.sum; omega)).mono ?_
    rintro e w' ⟨rfl, g, r, vp, vn, k1, k2, k3, k4, k5, k6⟩
    exact ⟨⟨1, rfl⟩, _, k6, .inr ⟨hne, g, z, r, vp, vn, mn, mx, rfl, hmm, ⟨fb, ni, hsum, k1⟩, k2, k3, k4⟩, hm'.kept k5 (by simpa using hqb.symm) (fun i hi => by simp; rintro rfl; exact hqF hi), k5⟩
end Go.Proofs.YtlpddogcnpokfaaGreat
namespace Go.Proofs.YtlpddogcnpokfaaGreat
open Go.RowKit

set_option maxRecDepth 100000 in
theorem bld47c (ms S : Int) (w : World) (h1 : 0 ≤ ms) (h2 : ms ≤ 1000) : Calls Tryz.prog 47 #[bldV 1, .int .i32 ms, .int .i32 S, .bool false, .bool false] w fun e w' => ∃ p h b,
    e = .returned (.tuple #[.func (.func 94) #[] #[.pointer (some ⟨p, 0, none⟩)], .func (.func 61) #[.pointer (some ⟨h, 0, none⟩)] #[]]) ∧ w'.cell? ⟨p, 0, none⟩ = some (.func (.func 59) #[.pointer (some ⟨h, 0, none⟩)] #[]) ∧
    w'.heap[h]? = some (.cells (hgCells ms S b (.int .i64 0)) 212 (0, 0)) ∧ w'.heap[b]? = some (.map #[] 0) ∧ h ≠ b ∧ w.heap.size ≤ p ∧ w.heap.size ≤ h ∧ w.heap.size ≤ b ∧ Kept [] w w' := by
  unfold bldV
  go_enter Tryz.func47, Tryz.ntmps47
  go_wp2_with fail
  refine (newHg57 ms S _ h1 h2).mono ?_; rintro e w1 ⟨h, b, rfl, hh, hb, hne, hlh, hlb, hk⟩
  have e0 : w1.cell? ⟨w.heap.size, 0, none⟩ = some (.int .u8 1) := (hk.new (by simp) 0).1
  have e1 : w1.cell? ⟨w.heap.size, 1, none⟩ = some .nilFunc := (hk.new (by simp) 1).1
  have e2 : w1.cell? ⟨w.heap.size, 2, none⟩ = some (.int .i64 0) := (hk.new (by simp) 2).1
  rw [alloc_size] at hlh hlb
  have K := Lib.hid hk.past
  have HH := Lib.hid hh
  have HB := Lib.hid hb
  clear hk hh hb
  go_wp2_with fail
  refine (filter58 1 h w1).mono ?_; rintro e w2 ⟨p, rfl, hp, hlp, hk2⟩
  have HP := Lib.hid hp
  have K2 := Lib.hid hk2
  clear hp hk2 e0 e1 e2
  go_wp2_with fail
  (try simp only [Exit.inBlock, Exit.then])
  go_ret2
  have := K.out.size
  exact ⟨p, h, b, rfl, HP.out, K2.out.obj HH.out (by simp), K2.out.obj HB.out (by simp), hne, by omega, by omega, by omega, K.out.trans K2.out⟩

/-- a slice of one-cell values, as it is read -/
def SlAt (w : World) (v : Value) (xs : List Value) : Prop :=
  (v = .slice none 0 0 ∧ xs = []) ∨ ∃ (a : Addr) (c : Nat), v = .slice (some a) xs.length c ∧ a.block < w.heap.size ∧ xs.length ≤ c ∧ c ≤ maxLen ∧ ∀ i u, xs[i]? = some u → w.cell? (a.add i) = some u

theorem cellKept {S : List Nat} {w w' : World} (hk : Kept S w w') {a : Addr} (hl : a.block < w.heap.size) (hS : a.block ∉ S) : w'.cell? a = w.cell? a := World.cell?_of_block (hk.block _ hl hS)
theorem Addr_add_block (a : Addr) (n : Nat) : (a.add n).block = a.block := by unfold Addr.add; split <;> rfl
theorem SlAt.kept {w w' : World} {v : Value} {xs : List Value} (h : SlAt w v xs) (hk : Kept [] w w') : SlAt w' v xs := by
  rcases h with h | ⟨a, c, h1, h2, h3, h4, h5⟩
  · exact .inl h
  · exact .inr ⟨a, c, h1, Nat.lt_of_lt_of_le h2 hk.size, h3, h4, fun i u hi => (cellKept hk (by rw [Addr_add_block]; exact h2) (by simp)).trans (h5 i u hi)⟩
theorem SlAt.keptBut {S : List Nat} {w w' : World} {v : Value} {xs : List Value} (h : SlAt w v xs) (hk : Kept S w w') {B : Nat} (hv : ∀ a n c, v = .slice (some a) n c → a.block < B) (hS : ∀ i, i ∈ S → B ≤ i) : SlAt w' v xs := by
  rcases h with h | ⟨a, c, h1, h2, h3, h4, h5⟩
  · exact .inl h
  · have hb := hv _ _ _ h1
    exact .inr ⟨a, c, h1, Nat.lt_of_lt_of_le h2 hk.size, h3, h4, fun i u hi => (cellKept hk (by rw [Addr_add_block]; exact h2) (by rw [Addr_add_block]; intro hm; have := hS _ hm; omega)).trans (h5 i u hi)⟩
theorem grownBy_kept {w w' : World} {row : Option Nat} (h : w.grownBy w' row) : Kept row.toList w w' :=
  ⟨h.os, h.tape, h.output, h.size, fun k hk hn => h.block k hk (by intro e; exact hn (by simp [e]))⟩
/-- a row of the call's own -/
theorem SlAt.own {w : World} {e : TypeId} {v : Value} {n : Nat} {xs : List Value} {base : Nat} (h : w.ownsRow base e 1 v n xs) : SlAt w v xs := by
  obtain ⟨hl, hr⟩ := h
  have hl' : xs.length = n := by omega
  rcases hr with ⟨h1, h2⟩ | ⟨g, cap, cur, h1, h2, h3, h4, h5, h6, h7⟩
  · subst h2
    exact .inl ⟨h1, List.length_eq_zero_iff.1 hl'⟩
  · refine .inr ⟨⟨g, 0, none⟩, cap, by rw [hl']; exact h1, heap_lt h3, by omega, h5, fun i u hi => ?_⟩
    have hin : i < xs.length := by
      rcases Nat.lt_or_ge i xs.length with h | h
      · exact h
      · rw [List.getElem?_eq_none h] at hi; cases hi
    have e1 : (Addr.add ⟨g, 0, none⟩ i) = ⟨g, i, none⟩ := by unfold Addr.add; split <;> simp_all
    rw [e1]
    refine cellOf h3 ?_
    rw [← h7, List.getElem?_take] at hi

    simp at hi
    exact hi.2
end Go.Proofs.YtlpddogcnpokfaaGreat
namespace Go.Proofs.YtlpddogcnpokfaaGreat
open Go.RowKit

def Fl (n : Nat) : Value := .float .f64 n
theorem info32 : ∃ i, Tryz.prog.info? 32 = some i ∧ i.zero = some (.float .f64 0) ∧ i.size = 1 ∧ i.bytes = 8 := by
  have h : (Tryz.prog.info? 32).map (fun i => (i.zero, i.size, i.bytes)) = some (some (.float .f64 0), 1, 8) := by kernel_rfl
  cases hi : Tryz.prog.info? 32 with
  | none => rw [hi] at h; cases h
  | some i => rw [hi] at h; simp only [Option.map_some, Option.some.injEq, Prod.mk.injEq] at h; exact ⟨i, rfl, h.1, h.2.1, h.2.2⟩
theorem own_kept {w wr w1 : World} {e : TypeId} {k : Nat} {v : Value} {n : Nat} {xs : List Value} (hk : Kept [] w wr) (h : wr.ownsRow w.heap.size e k v n xs) {O : Obj} (hg : (wr.alloc O).grownBy w1 v.ownBlock) : Kept [] w w1 := by
  refine (hk.alloc O).trans2 (grownBy_kept hg) ?_
  intro i hi
  right
  rcases h.2 with ⟨rfl, _⟩ | ⟨g, cap, cur, rfl, h2, _⟩
  · simp [Value.ownBlock] at hi
  · simp [Value.ownBlock] at hi; omega

set_option maxRecDepth 100000 in
set_option maxHeartbeats 1000000 in
/-- the bits of numbers: 'expoBits' -/
theorem bits20_some (a : Addr) (c : Nat) (l : List Nat) (w : World) (_hc : l.length ≤ c) (_hcm : c ≤ maxLen) (hab : a.block < w.heap.size) (hv : ∀ i u, (l.map Fl)[i]? = some u → w.cell? (a.add i) = some u) (hl : l.length ≤ 1000) :
    Calls Tryz.prog 20 #[.slice (some a) l.length c] w fun e w' => ∃ v', e = .returned v' ∧ w'.ownsRow w.heap.size 23 1 v' l.length (l.map U) ∧ Kept [] w w' := by
  obtain ⟨i0, hi, hz0, hz1, hz2⟩ := info23
  have HV := Lib.hid hv
  have HAB := Lib.hid hab
  have HI := Lib.hid (And.intro hi (And.intro hz0 (And.intro hz1 hz2)))
  clear hv hab hi hz0 hz1 hz2
  go_enter Tryz.func20, Tryz.ntmps20
  go_wp2_with fail
  go_loopw [3, 8] (fun o i wr => ∃ m : Nat, m ≤ l.length ∧ i = .int .i64 (m : Int) ∧ wr.ownsRow w.heap.size 23 1 o m ((l.take m).map U) ∧ Kept [] w wr) (fun _ i _ => l.length - (intOf i).toNat)
  case atStart => exact ⟨0, by omega, rfl, ⟨rfl, .inl ⟨rfl, rfl⟩⟩, Kept.refl _ _⟩
  case round =>
    obtain ⟨m, hm, rfl, hown, hk⟩ := hrel
    by_cases hlt : m < l.length
    · obtain ⟨x, hx⟩ : ∃ x, x = l.getD m 0 := ⟨_, rfl⟩
      have hlm : (l.map Fl)[m]? = some (Fl x) := by rw [List.getElem?_map, List.getElem?_eq_getElem hlt, hx, List.getD_eq_getElem?_getD, List.getElem?_eq_getElem hlt]; rfl
      have hcell : wr.cell? (a.add m) = some (.float .f64 x) := (cellKept hk (by rw [Addr_add_block]; exact HAB.out) (by simp)).trans (HV.out m _ hlm)
      have hnext : (l.take m).map U ++ [.int .u64 (x : Int)] = (l.take (m + 1)).map U := by
        rw [List.take_succ_eq_append_getElem hlt, List.map_append, hx, List.getD_eq_getElem?_getD, List.getElem?_eq_getElem hlt]; rfl
      have HN := Lib.hid hnext
      have HK := Lib.hid hk
      have HO := Lib.hid hown
      have hbase := Lib.hid hk.size
      clear hx hlm hnext hk hown
      have w7 : (m : Int) < (l.length : Int) := by omega
      have w1 : IntKind.i64.wrap ((m : Int) + 1) = (m : Int) + 1 := IntWalk.i64_in _ (by omega)
      go_wp2_with (at_builtin; refine wpList_append_own_at _ rfl _ _ 24 rfl w.heap.size 23 i0 (.int .u64 0) 1 8 Tryz.underlying24 HI.out.1 HI.out.2.1 HI.out.2.2.1 HI.out.2.2.2 rfl (by decide) _ _ _ rfl (HO.out.alloc _) ⟨wr.heap.size, 0, none⟩ 1 1 [.int .u64 (x : Int)] rfl rfl (cell_one_new _ _ _) (ints_oneCell .u64 [(x : Int)]) (by unfold maxLen; omega) (by omega) (by have := hbase.out; simp; omega) ?_; intro v' w1 hown' hgrow hnil hloc)
      go_roundw
      case rel => exact ⟨m + 1, by omega, by go_num, by rw [← HN.out]; exact hown', own_kept HK.out HO.out hgrow⟩
      case measure => simp [intOf]; omega
    · have hml : m = l.length := by omega
      subst hml
      rw [List.take_length] at hown
      have HO := Lib.hid hown
      have HK := Lib.hid hk
      clear hown hk
      have w7 : ¬ (l.length : Int) < (l.length : Int) := by omega
      go_wp2_with fail
      go_ret
      exact ⟨_, rfl, HO.out, HK.out⟩
theorem bits20_nil (w : World) :
    Calls Tryz.prog 20 #[.slice none 0 0] w fun e w' => e = .returned (.slice none 0 0) ∧ w = w' := by
  go_enter Tryz.func20, Tryz.ntmps20
  go_wp2_with fail
  refine wp_loop_once ?_
  go_wp2_with fail
  go_ret
  exact ⟨rfl, rfl⟩
/-- the bits of numbers: 'expoBits' -/
theorem bits20 (v : Value) (l : List Nat) (w : World) (hv : SlAt w v (l.map Fl)) (hl : l.length ≤ 1000) :
    Calls Tryz.prog 20 #[v] w fun e w' => ∃ v', e = .returned v' ∧ w'.ownsRow w.heap.size 23 1 v' l.length (l.map U) ∧ Kept [] w w' := by
  rcases hv with ⟨rfl, h⟩ | ⟨a, c, rfl, h2, h3, h4, h5⟩
  · have : l = [] := by simpa using h
    subst this
    refine (bits20_nil w).mono ?_
    rintro e w' ⟨rfl, rfl⟩
    exact ⟨_, rfl, ⟨rfl, .inl ⟨rfl, rfl⟩⟩, Kept.refl _ _⟩
  · rw [List.length_map] at h3 ⊢
    exact bits20_some a c l w h3 h4 h2 h5 hl
end Go.Proofs.YtlpddogcnpokfaaGreat
namespace Go.Proofs.YtlpddogcnpokfaaGreat
open Go.RowKit

theorem own_lt {w : World} {base : Nat} {e : TypeId} {k : Nat} {v : Value} {n : Nat} {xs : List Value} (h : w.ownsRow base e k v n xs) {z : Nat} (hz : v.ownBlock = some z) : z < w.heap.size := (h.lt z hz).2
theorem own_type {w : World} {base : Nat} {e : TypeId} {k : Nat} {v : Value} {n : Nat} {xs : List Value} (h : w.ownsRow base e k v n xs) {z : Nat} (hz : v.ownBlock = some z) : ∃ cur, w.heap[z]? = some (.cells cur e (0, 0)) := by
  rcases h.2 with ⟨rfl, _⟩ | ⟨g, cap, cur, rfl, _, h3, _⟩
  · cases hz
  · have : g = z := by simpa [Value.ownBlock] using hz
    subst this; exact ⟨cur, h3⟩
theorem own_ne {w : World} {b1 b2 : Nat} {e1 e2 : TypeId} {k1 k2 : Nat} {v1 v2 : Value} {n1 n2 : Nat} {x1 x2 : List Value} (h1 : w.ownsRow b1 e1 k1 v1 n1 x1) (h2 : w.ownsRow b2 e2 k2 v2 n2 x2) (he : e1 ≠ e2) : v1.ownBlock = none ∨ v1.ownBlock ≠ v2.ownBlock := by
  cases h : v1.ownBlock with
  | none => exact .inl rfl
  | some z =>
    refine .inr fun e => ?_
    obtain ⟨c1, q1⟩ := own_type h1 h
    obtain ⟨c2, q2⟩ := own_type h2 e.symm
    rw [q1] at q2
    injection q2 with q2; injection q2 with _ q2; exact he q2
theorem own_keptK {S : List Nat} {w w' : World} {base : Nat} {e : TypeId} {k : Nat} {v : Value} {n : Nat} {xs : List Value} (h : w.ownsRow base e k v n xs) (hk : Kept S w w') (hS : ∀ z, v.ownBlock = some z → z ∉ S) : w'.ownsRow base e k v n xs := by
  refine ⟨h.1, ?_⟩
  rcases h.2 with h0 | ⟨g, cap, cur, rfl, h2, h3, h4⟩
  · exact .inl h0
  · exact .inr ⟨g, cap, cur, rfl, h2, hk.obj h3 (hS g rfl), h4⟩
theorem own_mono0 {w : World} {base : Nat} {e : TypeId} {k : Nat} {v : Value} {n : Nat} {xs : List Value} (h : w.ownsRow base e k v n xs) : w.ownsRow 0 e k v n xs := ⟨h.1, h.2.imp id fun ⟨g, cap, cur, a, _, c⟩ => ⟨g, cap, cur, a, Nat.zero_le _, c⟩⟩

/-- a row of the call's own that avoids some blocks -/
def OwnAv (w : World) (A : List Nat) (e : TypeId) (k : Nat) (v : Value) (n : Nat) (xs : List Value) : Prop := w.ownsRow 0 e k v n xs ∧ ∀ z, v.ownBlock = some z → z ∉ A
theorem OwnAv.kept {w w' : World} {A S : List Nat} {e : TypeId} {k : Nat} {v : Value} {n : Nat} {xs : List Value} (h : OwnAv w A e k v n xs) (hk : Kept S w w') (hS : ∀ i, i ∈ S → i ∈ A ∨ w.heap.size ≤ i) : OwnAv w' A e k v n xs :=
  ⟨own_keptK h.1 hk fun z hz hm => (hS z hm).elim (h.2 z hz) fun h' => by have := own_lt h.1 hz; omega, h.2⟩
theorem OwnAv.turn {w : World} {A A' : List Nat} {e : TypeId} {k : Nat} {v : Value} {n : Nat} {xs : List Value} (h : OwnAv w A e k v n xs) (hA : ∀ i, i ∈ A' → i ∈ A ∨ w.heap.size ≤ i) : OwnAv w A' e k v n xs :=
  ⟨h.1, fun z hz hm => (hA z hm).elim (h.2 z hz) fun h' => by have := own_lt h.1 hz; omega⟩

/-- the cells of a data point that is handed out -/
def exVals (cnt r mn mx : Nat) (s : Bk) (va vb : Value) : List Value := [.bool true, U cnt, U r, U mn, U mx, .int .i32 s.sc, U s.zc, .int .i32 s.ps, va, .int .i32 s.ns, vb]
def exZero : List Value := [.bool false, U 0, U 0, U 0, U 0, .int .i32 0, U 0, .int .i32 0, .slice none 0 0, .int .i32 0, .slice none 0 0]
/-- a data point that tells of a list of numbers -/
def ExIs (w : World) (A : List Nat) (top : Nat) (ms S : Int) (l : List Nat) (cs : List Value) : Prop :=
  (l = [] ∧ cs = exZero) ∨ (l ≠ [] ∧ ∃ r mn mx va vb, mmOf l = some (mn, mx) ∧ SumOf l r ∧ cs = exVals ((bkOf top ms S l).pl.sum + (bkOf top ms S l).nl.sum + (bkOf top ms S l).zc) r mn mx (bkOf top ms S l) va vb ∧
    OwnAv w A 23 1 va (bkOf top ms S l).pl.length ((bkOf top ms S l).pl.map U) ∧ OwnAv w A 23 1 vb (bkOf top ms S l).nl.length ((bkOf top ms S l).nl.map U))
theorem ExIs.kept {w w' : World} {A S : List Nat} {top : Nat} {ms S' : Int} {l : List Nat} {cs : List Value} (h : ExIs w A top ms S' l cs) (hk : Kept S w w') (hS : ∀ i, i ∈ S → i ∈ A ∨ w.heap.size ≤ i) : ExIs w' A top ms S' l cs := by
  rcases h with h | ⟨h0, r, mn, mx, va, vb, h1, h2, h3, h4, h5⟩
  · exact .inl h
  · exact .inr ⟨h0, r, mn, mx, va, vb, h1, h2, h3, h4.kept hk hS, h5.kept hk hS⟩
theorem ExIs.turn {w : World} {A A' : List Nat} {top : Nat} {ms S' : Int} {l : List Nat} {cs : List Value} (h : ExIs w A top ms S' l cs) (hA : ∀ i, i ∈ A' → i ∈ A ∨ w.heap.size ≤ i) : ExIs w A' top ms S' l cs := by
  rcases h with h | ⟨h0, r, mn, mx, va, vb, h1, h2, h3, h4, h5⟩
  · exact .inl h
  · exact .inr ⟨h0, r, mn, mx, va, vb, h1, h2, h3, h4.turn hA, h5.turn hA⟩

/-- the data points so far -/
structure ResAt (w : World) (A : List Nat) (top : Nat) (ms S : Int) (acc : Nat → List Nat) (o : Value) (n : Nat) (es : List (List Value)) : Prop where
  own : OwnAv w A 26 11 o n es.flatten
  len : es.length = n
  el : ∀ i, i < n → (es.getD i []).length = 11 ∧ ExIs w A top ms S (acc i) (es.getD i [])
theorem ResAt.nil (w : World) (A : List Nat) (top : Nat) (ms S : Int) (acc : Nat → List Nat) : ResAt w A top ms S acc (.slice none 0 0) 0 [] :=
  ⟨⟨⟨rfl, .inl ⟨rfl, rfl⟩⟩, fun z h => by cases h⟩, rfl, fun i h => by omega⟩
theorem ResAt.kept {w w' : World} {A K : List Nat} {top : Nat} {ms S : Int} {acc : Nat → List Nat} {o : Value} {n : Nat} {es : List (List Value)} (h : ResAt w A top ms S acc o n es) (hk : Kept K w w') (hK : ∀ i, i ∈ K → i ∈ A ∨ w.heap.size ≤ i) : ResAt w' A top ms S acc o n es :=
  ⟨h.own.kept hk hK, h.len, fun i hi => ⟨(h.el i hi).1, (h.el i hi).2.kept hk hK⟩⟩
theorem ResAt.turn {w : World} {A A' : List Nat} {top : Nat} {ms S : Int} {acc : Nat → List Nat} {o : Value} {n : Nat} {es : List (List Value)} (h : ResAt w A top ms S acc o n es) (hA : ∀ i, i ∈ A' → i ∈ A ∨ w.heap.size ≤ i) : ResAt w A' top ms S acc o n es :=
  ⟨h.own.turn hA, h.len, fun i hi => ⟨(h.el i hi).1, (h.el i hi).2.turn hA⟩⟩
/-- one more data point -/
theorem ResAt.push {w w' : World} {A : List Nat} {top : Nat} {ms S : Int} {acc : Nat → List Nat} {o o' : Value} {n : Nat} {es : List (List Value)} {cs : List Value} (h : ResAt w A top ms S acc o n es) (hc : ExIs w A top ms S (acc n) cs) (hl : cs.length = 11)
    (ho : w'.ownsRow 0 26 11 o' (n + 1) (es.flatten ++ cs)) (hg : w.grownBy w' o.ownBlock) (hloc : o'.ownBlock = o.ownBlock ∨ o'.ownBlock = some w.heap.size) (hA : ∀ i, i ∈ A → i < w.heap.size) : ResAt w' A top ms S acc o' (n + 1) (es ++ [cs]) := by
  have key : ∀ {l : List Nat} {c : List Value}, ExIs w A top ms S l c → ExIs w' A top ms S l c := by
    intro l c hx
    rcases hx with hx | ⟨h0, r, mn, mx, va, vb, h1, h2, h3, h4, h5⟩
    · exact .inl hx
    · exact .inr ⟨h0, r, mn, mx, va, vb, h1, h2, h3, ⟨h4.1.kept hg (own_ne h4.1 h.own.1 (by decide)), h4.2⟩, ⟨h5.1.kept hg (own_ne h5.1 h.own.1 (by decide)), h5.2⟩⟩
  refine ⟨⟨by simpa using ho, fun z hz hm => ?_⟩, by simp [h.len], fun i hi => ?_⟩
  · rcases hloc with e | e
    · exact h.own.2 z (e ▸ hz) hm
    · rw [hz] at e; cases e; have := hA _ hm; omega
  · rw [List.getD_eq_getElem?_getD]
    by_cases hin : i < n
    · rw [List.getElem?_append_left (by rw [h.len]; exact hin), ← List.getD_eq_getElem?_getD]
      exact ⟨(h.el i hin).1, key (h.el i hin).2⟩
    · have : i = n := by omega
      subst this
      rw [List.getElem?_append_right (by rw [h.len]; exact Nat.le_refl _), h.len, Nat.sub_self]
      exact ⟨hl, key hc⟩
end Go.Proofs.YtlpddogcnpokfaaGreat
namespace Go.Proofs.YtlpddogcnpokfaaGreat
open Go.RowKit

theorem run_append_num (v : Value) (l : List Nat) (w : World) (h : NumAt w v l) (hl : l.length ≤ 1000) (ty : TypeId) :
    ∃ ad c w', (Builtin.append_ #[24, 24] ty #[.slice none 0 0, v]).run Tryz.prog w = .ok (.slice ad l.length c) w' ∧ w'.ownsRow w.heap.size 23 1 (.slice ad l.length c) l.length (l.map U) ∧ w.grownBy w' none := by
  obtain ⟨i0, hi, hz0, hz1, hz2⟩ := info23
  rcases h with ⟨rfl, rfl⟩ | ⟨g, rfl, hne, hg⟩
  · refine ⟨none, 0, w, ?_, ⟨rfl, .inl ⟨rfl, rfl⟩⟩, ⟨rfl, rfl, rfl, Nat.le_refl _, fun _ _ _ => rfl⟩⟩
    simp [Builtin.append_, run_underlying Tryz.underlying24, sizeOf, typeInfo, hi, Builtin.lenOf, Builtin.firstCells]
  · have hln : 0 < l.length := List.length_pos_iff.2 hne
    obtain ⟨v', w', hr, h2, h3, h4, h5⟩ := run_append_own_at (P := Tryz.prog) w w.heap.size 24 ty 23 i0 (.int .u64 0) 1 8 Tryz.underlying24 hi hz0 hz1 hz2 rfl (by decide) (.slice none 0 0) 0 [] (World.ownsRow_nil w _ 23 1) ⟨g, 0, none⟩ l.length l.length (l.map U) (by simp)
      (fun j u hj => by
        have e1 : (Addr.add ⟨g, 0, none⟩ j) = ⟨g, j, none⟩ := by unfold Addr.add; split <;> simp_all
        rw [e1]; exact cellOf hg (by simpa using hj)) (fun u hu => by obtain ⟨n, _, rfl⟩ := List.mem_map.1 hu; rfl) (by unfold maxLen; omega) (by omega) (Nat.le_refl _)
    rw [Nat.zero_add, List.nil_append] at h2
    rcases h2.2 with ⟨rfl, h0⟩ | ⟨g', cap, cur, rfl, _⟩
    · omega
    · exact ⟨_, _, w', hr, h2, h3⟩

theorem step_append_num {ops : Array Oper} {o : Oper} {a : Act} {w : World} {K : Act → World → Prop} {Q : Exit → Act → World → Prop} {E : Prop} (v : Value) (l : List Nat)
    (hg : o.guard = none) (s x : Operand) (hop : o.op = Op.call { callee := Callee.builtin Builtin.append, args := #[s, x], argTypes := #[24, 24] }) (hs : a.eval s = .slice none 0 0) (hx : a.eval x = v) (hn : NumAt w v l) (hl : l.length ≤ 1000)
    (hK : ∀ ad c w', w'.ownsRow w.heap.size 23 1 (.slice ad l.length c) l.length (l.map U) → w.grownBy w' none → K (a.put o.dst (.slice ad l.length c)) w') :
    if Region.wanted o (yielded ops a.tmps) = true then Oper.wp Tryz.prog o a w K Q else E := by
  have hw : Region.wanted o (yielded ops a.tmps) = true := by simp [Region.wanted, hg]
  rw [if_pos hw]
  obtain ⟨ad, c, w', hr, h2, h3⟩ := run_append_num v l w hn hl o.type
  unfold Oper.wp
  simp [execOp, hop, resolve, invoke, builtin, hs, hx, hr, Result.andThen]
  exact hK ad c w' h2 h3
theorem step_store_row {P : Program} {ops : Array Oper} {o : Oper} {a : Act} {w : World} {K : Act → World → Prop} {Q : Exit → Act → World → Prop} {E : Prop} (hgd : o.guard = none) (ty : TypeId) (x y : Operand) (ho : o.op = .store ty x y)
    (g : Nat) (cells : Array Value) (hx : a.eval x = .pointer (some ⟨g, 0, none⟩)) (hy : a.eval y = .agg cells)
    (t : TypeId) (old : Array Value) (hg : w.heap[g]? = some (.cells old t (0, 0))) (hi : (P.info? ty).map (·.size) = some cells.size)
    (hold : old.size = cells.size) (h1 : cells.all (·.oneCell') = true)
    (h : K (a.put o.dst undef) (w.setRow g cells)) : if Region.wanted o (yielded ops a.tmps) = true then Oper.wp P o a w K Q else E := by
  have hw : Region.wanted o (yielded ops a.tmps) = true := by simp [Region.wanted, hgd]
  rw [if_pos hw]
  exact wp_store_row ty x y ho g cells hx hy t old hg hi hold h1 h

/-- the numbers of a round, ahead of it -/
def preL (delta : Bool) (rs : List (List Nat)) (m : Nat) : List Nat := if delta then [] else (rs.take m).flatten
def accL (delta : Bool) (rs : List (List Nat)) (m : Nat) : List Nat := preL delta rs m ++ rs.getD m []
theorem preL_zero (delta : Bool) (rs : List (List Nat)) : preL delta rs 0 = [] := by unfold preL; cases delta <;> rfl
theorem preL_true (rs : List (List Nat)) (m : Nat) : preL true rs m = [] := rfl
theorem preL_succ (rs : List (List Nat)) (m : Nat) (h : m < rs.length) : preL false rs (m + 1) = accL false rs m := by
  unfold accL preL
  simp only [Bool.false_eq_true, if_false]
  rw [List.take_succ_eq_append_getElem h, List.flatten_append, List.getD_eq_getElem?_getD, List.getElem?_eq_getElem h]; simp

/-- what stands as numbers are measured -/
structure ExInv (w : World) (p h b top : Nat) (ms S : Int) (l F : List Nat) (wr : World) : Prop where
  kept : Kept [] w wr
  pc : wr.cell? ⟨p, 0, none⟩ = some (.func (.func 59) #[.pointer (some ⟨h, 0, none⟩)] #[])
  hc : wr.heap[h]? = some (.cells (hgCells ms S b (.int .i64 0)) 212 (0, 0))
  map : MapAt wr b top ms S l F
  new : ∀ i, i ∈ b :: F → w.heap.size ≤ i
  hp : p ∉ b :: F
  hh : h ∉ b :: F
  bF : b ∉ F
theorem ExInv.fresh {w wr w' : World} {p h b top : Nat} {ms S : Int} {l F : List Nat} (I : ExInv w p h b top ms S l F wr) {K : List Nat} (hk : Kept K wr w') (hK : ∀ i, i ∈ K → wr.heap.size ≤ i) : ExInv w p h b top ms S l F w' := by
  have hs := I.kept.size
  have hbl : b < wr.heap.size := by
    rcases I.map with ⟨-, -, c, hm⟩ | ⟨-, d, n, c, fb, ni, og, oh, hm, -⟩
    · exact heap_lt hm
    · exact heap_lt hm
  have hFl : ∀ i, i ∈ F → i < wr.heap.size := by
    intro i hi
    rcases I.map with ⟨-, rfl, -⟩ | ⟨-, d, n, c, fb, ni, og, oh, hm, _, _, hd, rfl, _⟩
    · cases hi
    · simp only [List.mem_cons, List.mem_append, Option.mem_toList] at hi
      rcases hi with rfl | hi | hi
      · exact hd.lt
      · exact (hd.bk.P.lt hi).1
      · exact (hd.bk.N.lt hi).1
  refine ⟨I.kept.trans2 hk fun i hi => .inr (Nat.le_trans hs (hK i hi)), ?_, hk.obj I.hc fun hm => ?_, I.map.kept hk (fun hm => ?_) fun i hi hm => ?_, I.new, I.hp, I.hh, I.bF⟩
  · have hpl : p < wr.heap.size := cell_lt I.pc
    exact (hk.cell hpl fun hm => by have h1 := hK _ hm; omega).trans I.pc
  · have := hK _ hm; have := heap_lt I.hc; omega
  · have := hK _ hm; omega
  · have := hK _ hm; have := hFl i hi; omega
/-- the blocks of the map lie below the heap's end -/
theorem ExInv.lt {w wr : World} {p h b top : Nat} {ms S : Int} {l F : List Nat} (I : ExInv w p h b top ms S l F wr) : ∀ i, i ∈ b :: F → i < wr.heap.size := by
  intro i hi
  rcases List.mem_cons.1 hi with rfl | hi
  · rcases I.map with ⟨-, -, c, hm⟩ | ⟨-, d, n, c, fb, ni, og, oh, hm, -⟩
    · exact heap_lt hm
    · exact heap_lt hm
  · rcases I.map with ⟨-, rfl, -⟩ | ⟨-, d, n, c, fb, ni, og, oh, hm, _, _, hd, rfl, _⟩
    · cases hi
    · simp only [List.mem_cons, List.mem_append, Option.mem_toList] at hi
      rcases hi with rfl | hi | hi
      · exact hd.lt
      · exact (hd.bk.P.lt hi).1
      · exact (hd.bk.N.lt hi).1
theorem ResAt.step {w w' : World} {A A' : List Nat} {top : Nat} {ms S : Int} {acc : Nat → List Nat} {o : Value} {n : Nat} {es : List (List Value)} (h : ResAt w A top ms S acc o n es) (hk : Kept A w w') (hA : ∀ i, i ∈ A' → i ∈ A ∨ w.heap.size ≤ i) : ResAt w' A' top ms S acc o n es := by
  have h1 : ResAt w (A ++ A') top ms S acc o n es := h.turn fun i hi => by
    rcases List.mem_append.1 hi with hi | hi
    · exact .inl hi
    · exact hA i hi
  have h2 := h1.kept hk fun i hi => .inl (List.mem_append_left _ hi)
  exact h2.turn fun i hi => .inl (List.mem_append_right _ hi)
/-- behind a measurement -/
theorem ExInv.step {w wr w' : World} {p h b top : Nat} {ms S : Int} {l l' F F' : List Nat} (I : ExInv w p h b top ms S l F wr) (hm : MapAt w' b top ms S l' F') (hk : Kept (b :: F) wr w') (hF : ∀ i, i ∈ F' → i ∈ F ∨ wr.heap.size ≤ i) (hbF : b ∉ F') :
    ExInv w p h b top ms S l' F' w' := by
  have hpl : p < wr.heap.size := cell_lt I.pc
  have hhl := heap_lt I.hc
  have hs := I.kept.size
  refine ⟨I.kept.trans2 hk fun i hi => .inr (I.new i hi), (hk.cell hpl I.hp).trans I.pc, hk.obj I.hc I.hh, hm, ?_, ?_, ?_, hbF⟩
  · intro i hi
    rcases List.mem_cons.1 hi with rfl | hi
    · exact I.new _ List.mem_cons_self
    · rcases hF i hi with h1 | h1
      · exact I.new _ (List.mem_cons_of_mem _ h1)
      · omega
  · intro hi
    rcases List.mem_cons.1 hi with e | hi
    · exact I.hp (e ▸ List.mem_cons_self)
    · rcases hF _ hi with h1 | h1
      · exact I.hp (List.mem_cons_of_mem _ h1)
      · omega
  · intro hi
    rcases List.mem_cons.1 hi with e | hi
    · exact I.hh (e ▸ List.mem_cons_self)
    · rcases hF _ hi with h1 | h1
      · exact I.hh (List.mem_cons_of_mem _ h1)
      · omega
end Go.Proofs.YtlpddogcnpokfaaGreat
namespace Go.Proofs.YtlpddogcnpokfaaGreat
open Go.RowKit
theorem info26 : ∃ i, Tryz.prog.info? 26 = some i ∧ i.zero = some (.agg exZero.toArray) ∧ i.size = 11 ∧ i.bytes = 120 := by
  have h : (Tryz.prog.info? 26).map (fun i => (i.zero, i.size, i.bytes)) = some (some (.agg exZero.toArray), 11, 120) := by kernel_rfl
  cases hi : Tryz.prog.info? 26 with
  | none => rw [hi] at h; cases h
  | some i => rw [hi] at h; simp only [Option.map_some, Option.some.injEq, Prod.mk.injEq] at h; exact ⟨i, rfl, h.1, h.2.1, h.2.2⟩
theorem add0 (g j : Nat) : (Addr.add ⟨g, 0, none⟩ j) = ⟨g, j, none⟩ := by unfold Addr.add; split <;> simp_all
theorem new_cells (w : World) (cs : List Value) (t : TypeId) : ∀ j u, cs[j]? = some u → (w.alloc (.cells cs.toArray t)).cell? ((⟨w.heap.size, 0, none⟩ : Addr).add j) = some u := by
  intro j u hj
  rw [add0]
  exact cellOf (t := t) (alloc_new w _) (by simpa using hj)
theorem new_cells' (w : World) (cs : List Value) (t : TypeId) (H : Nat) (hH : w.heap.size = H) : ∀ j u, cs[j]? = some u → (w.alloc (.cells cs.toArray t)).cell? ((⟨H, 0, none⟩ : Addr).add j) = some u := by
  subst hH; exact new_cells w cs t
end Go.Proofs.YtlpddogcnpokfaaGreat
namespace Go.Proofs.YtlpddogcnpokfaaGreat
open Go.RowKit

theorem wpList_load_row {P : Program} {ops : Array Oper} {rest : List Oper} {o : Oper} {a : Act} {w : World} {Q : Exit → Act → World → Prop} (hgd : o.guard = none) (ty : TypeId) (x : Operand) (ho : o.op = .load ty x)
    (g : Nat) (cs : Array Value) (t : TypeId) (hx : a.eval x = .pointer (some ⟨g, 0, none⟩)) (hg : w.heap[g]? = some (.cells cs t (0, 0))) (d : TypeDesc) (hu : P.underlying ty = some d) (hd : (match d with | .struct _ | .array _ _ => true | _ => false) = true)
    (hi : (P.info? ty).map (·.size) = some cs.size) (h : wpList P ops Q rest (a.put o.dst (.agg cs)) w) : wpList P ops Q (o :: rest) a w :=
  wpList_plain hgd fun K hK => by
    unfold Oper.wp execOp
    simp only [ho, hx, Instr.loadAt, Instr.sureAddr, Sem.run_bind, Sem.run_pure, Result.andThen_ok, run_loadVar_row w g t ty cs (0, 0) d hg hu hd hi]
    exact hK _ _ h
theorem setRow_kept {S : List Nat} {a w : World} {g : Nat} {cs : Array Value} (h : Kept S a w) (hg : g ∈ S ∨ a.heap.size ≤ g) : Kept S a (w.setRow g cs) := by
  refine ⟨h.os, h.tape, h.output, ?_, fun i hi hn => ?_⟩
  · have := h.size
    simpa [World.setRow] using this
  · rw [setRow_other _ _ _ _ (by rintro rfl; rcases hg with hg | hg; exact hn hg; omega)]
    exact h.block i hi hn
/-- what stands while a data point's two rows are copied -/
structure FX (W0 : World) (x t : Nat) (tc : Array Value) (vp vb : Value) (lp ln : List Nat) (O : List (Value × List Nat)) (w : World) : Prop where
  x : w.heap[x]? = some (.cells exZero.toArray 26 (0, 0))
  t : w.heap[t]? = some (.cells tc 131 (0, 0))
  p : NumAt w vp lp
  n : NumAt w vb ln
  k : Kept [] W0 w
  o : ∀ q, q ∈ O → w.ownsRow 0 23 1 q.1 q.2.length (q.2.map U) ∧ ∀ z, q.1.ownBlock = some z → W0.heap.size ≤ z

theorem NumAt.kept {w w' : World} {v : Value} {l : List Nat} (h : NumAt w v l) (hk : Kept [] w w') : NumAt w' v l := by
  rcases h with h | ⟨g, h1, h2, h3⟩
  · exact .inl h
  · exact .inr ⟨g, h1, h2, hk.obj h3 (by simp)⟩
theorem FX.grow {W0 : World} {x t : Nat} {tc : Array Value} {vp vb : Value} {lp ln : List Nat} {O : List (Value × List Nat)} {w w' : World} (h : FX W0 x t tc vp vb lp ln O w) (hg : w.grownBy w' none) : FX W0 x t tc vp vb lp ln O w' := by
  have hk : Kept [] w w' := grownBy_kept hg
  exact ⟨hk.obj h.x (by simp), hk.obj h.t (by simp), h.p.kept hk, h.n.kept hk, h.k.trans hk, fun q hq => ⟨own_keptK (h.o q hq).1 hk (by simp), (h.o q hq).2⟩⟩
theorem FX.push {W0 : World} {x t : Nat} {tc : Array Value} {vp vb v : Value} {lp ln l : List Nat} {O : List (Value × List Nat)} {w w' : World} (h : FX W0 x t tc vp vb lp ln O w) (ho : w'.ownsRow w.heap.size 23 1 v l.length (l.map U)) (hg : w.grownBy w' none) :
    FX W0 x t tc vp vb lp ln ((v, l) :: O) w' := by
  have h' := h.grow hg
  refine ⟨h'.x, h'.t, h'.p, h'.n, h'.k, fun q hq => ?_⟩
  rcases List.mem_cons.1 hq with rfl | hq
  · exact ⟨own_mono0 ho, fun z hz => Nat.le_trans h.k.size (ho.lt z hz).1⟩
  · exact h'.o q hq
theorem FX.dr {W0 : World} {x t : Nat} {tc : Array Value} {vp vb : Value} {lp ln : List Nat} {O : List (Value × List Nat)} {w : World} (h : FX W0 x t tc vp vb lp ln O w) : FX W0 x t tc vp vb lp ln O w.drew :=
  ⟨h.x, h.t, h.p, h.n, h.k.dr ⟨1, rfl⟩, h.o⟩

/-- a data point's cells, all laid -/
@[reducible] def store11 (w : World) (x : Nat) (cnt r sc zc ps ns : Int) (va vb : Value) : World :=
  (((((((((((w.setCell ⟨x, 0, none⟩ (.bool true)).setCell ⟨x, 1, none⟩ (.int .u64 cnt)).setCell ⟨x, 2, none⟩ (.int .u64 r)).setCell ⟨x, 3, none⟩ (.int .u64 0)).setCell ⟨x, 4, none⟩ (.int .u64 0)).setCell ⟨x, 5, none⟩ (.int .i32 sc)).setCell ⟨x, 6, none⟩ (.int .u64 zc)).setCell ⟨x, 7, none⟩ (.int .i32 ps)).setCell ⟨x, 8, none⟩ va).setCell ⟨x, 9, none⟩ (.int .i32 ns)).setCell ⟨x, 10, none⟩ vb)
theorem store11_at {w : World} {x : Nat} (h : w.heap[x]? = some (.cells exZero.toArray 26 (0, 0))) (cnt r sc zc ps ns : Int) (va vb : Value) :
    (store11 w x cnt r sc zc ps ns va vb).heap[x]? = some (.cells #[.bool true, .int .u64 cnt, .int .u64 r, .int .u64 0, .int .u64 0, .int .i32 sc, .int .u64 zc, .int .i32 ps, va, .int .i32 ns, vb] 26 (0, 0)) := by
  unfold store11
  have h1 := blkSet (i := 0) (v := .bool true) h
  have h2 := blkSet (i := 1) (v := .int .u64 cnt) h1
  have h3 := blkSet (i := 2) (v := .int .u64 r) h2
  have h4 := blkSet (i := 3) (v := .int .u64 0) h3
  have h5 := blkSet (i := 4) (v := .int .u64 0) h4
  have h6 := blkSet (i := 5) (v := .int .i32 sc) h5
  have h7 := blkSet (i := 6) (v := .int .u64 zc) h6
  have h8 := blkSet (i := 7) (v := .int .i32 ps) h7
  have h9 := blkSet (i := 8) (v := va) h8
  have h10 := blkSet (i := 9) (v := .int .i32 ns) h9
  have h11 := blkSet (i := 10) (v := vb) h10
  rw [h11]
  simp [exZero, U]
theorem store11_kept {S : List Nat} {W0 w : World} {x : Nat} (hk : Kept S W0 w) (hx : x ∈ S ∨ W0.heap.size ≤ x) (cnt r sc zc ps ns : Int) (va vb : Value) : Kept S W0 (store11 w x cnt r sc zc ps ns va vb) := by
  unfold store11
  exact ((((((((((hk.setCell hx _).setCell hx _).setCell hx _).setCell hx _).setCell hx _).setCell hx _).setCell hx _).setCell hx _).setCell hx _).setCell hx _).setCell hx _
theorem store11_cell {w : World} {x t i : Nat} (hne : x ≠ t) (hl : t < w.heap.size) (cnt r sc zc ps ns : Int) (va vb : Value) : (store11 w x cnt r sc zc ps ns va vb).cell? ⟨t, i, none⟩ = w.cell? ⟨t, i, none⟩ :=
  (store11_kept (Kept.refl [x] w) (.inl (by simp)) cnt r sc zc ps ns va vb).cell hl (by simpa using hne.symm)
/-- what the statement leaves -/
def FXE (W0 : World) (x t : Nat) (tc : Array Value) (cnt r sc zc ps ns : Int) (lp ln : List Nat) (w : World) : Prop := ∃ va vb,
  w.heap[x]? = some (.cells #[.bool true, .int .u64 cnt, .int .u64 r, .int .u64 0, .int .u64 0, .int .i32 sc, .int .u64 zc, .int .i32 ps, va, .int .i32 ns, vb] 26 (0, 0)) ∧ w.heap[t]? = some (.cells tc 131 (0, 0)) ∧
  Kept [x] W0 w ∧ (w.ownsRow 0 23 1 va lp.length (lp.map U) ∧ ∀ z, va.ownBlock = some z → W0.heap.size ≤ z) ∧ (w.ownsRow 0 23 1 vb ln.length (ln.map U) ∧ ∀ z, vb.ownBlock = some z → W0.heap.size ≤ z) ∧ (∃ p n c, va = .slice p n c) ∧ (∃ p n c, vb = .slice p n c)
theorem FX.fin {W0 : World} {x t : Nat} {tc : Array Value} {vp vb : Value} {lp ln : List Nat} {O : List (Value × List Nat)} {w : World} (h : FX W0 x t tc vp vb lp ln O w) (hxt : x ≠ t) (cnt r sc zc ps ns : Int) {p q : Option Addr} {n c n' c' : Nat}
    (h1 : ((.slice p n c : Value), lp) ∈ O) (h2 : ((.slice q n' c' : Value), ln) ∈ O) : FXE W0 x t tc cnt r sc zc ps ns lp ln (store11 w x cnt r sc zc ps ns (.slice p n c) (.slice q n' c')) := by
  have hx0 : x < w.heap.size := heap_lt h.x
  have hk : Kept [x] w (store11 w x cnt r sc zc ps ns (.slice p n c) (.slice q n' c')) := store11_kept (Kept.refl _ _) (.inl (by simp)) _ _ _ _ _ _ _ _
  have nx : ∀ {v : Value} {l : List Nat}, w.ownsRow 0 23 1 v l.length (l.map U) → ∀ z, v.ownBlock = some z → z ∉ [x] := by
    intro v l ho z hz hm
    have e : z = x := by simpa using hm
    subst e
    obtain ⟨cur, hc⟩ := own_type ho hz
    rw [h.x] at hc
    injection hc with hc; injection hc with _ hc; cases hc
  exact ⟨_, _, store11_at h.x _ _ _ _ _ _ _ _, hk.obj h.t (by simpa using hxt.symm), (h.k.sub (by simp)).trans hk, ⟨own_keptK (h.o _ h1).1 hk (nx (h.o _ h1).1), (h.o _ h1).2⟩, ⟨own_keptK (h.o _ h2).1 hk (nx (h.o _ h2).1), (h.o _ h2).2⟩, ⟨_, _, _, rfl⟩, ⟨_, _, _, rfl⟩⟩
end Go.Proofs.YtlpddogcnpokfaaGreat
