/- A measurement in a bucket, as one contract: what it makes of the counts, and what it leaves as it was. -/
import Derived.Test.YtlpddogcnpokfaaGreatRec3
namespace Go.Proofs.YtlpddogcnpokfaaGreat
open Go.RowKit

/-- what a call leaves as it was: all blocks that lay there, but those of a list -/
structure Kept (S : List Nat) (w w' : World) : Prop where
  os : w'.os = w.os
  tape : w'.tape = w.tape
  output : w'.output = w.output
  size : w.heap.size ≤ w'.heap.size
  block : ∀ k, k < w.heap.size → k ∉ S → w'.heap[k]? = w.heap[k]?

theorem Kept.refl (S : List Nat) (w : World) : Kept S w w := ⟨rfl, rfl, rfl, Nat.le_refl _, fun _ _ _ => rfl⟩
theorem Kept.trans {S : List Nat} {a b c : World} (h : Kept S a b) (k : Kept S b c) : Kept S a c :=
  ⟨k.os.trans h.os, k.tape.trans h.tape, k.output.trans h.output, Nat.le_trans h.size k.size, fun i hi hs => (k.block i (Nat.lt_of_lt_of_le hi h.size) hs).trans (h.block i hi hs)⟩
theorem Kept.mono {S S' : List Nat} {a b : World} (h : Kept S a b) (hs : ∀ k, k ∈ S → k ∈ S' ∨ a.heap.size ≤ k) : Kept S' a b :=
  ⟨h.os, h.tape, h.output, h.size, fun i hi hn => h.block i hi fun hm => (hs i hm).elim hn (fun h => by omega)⟩
theorem Kept.dr {S : List Nat} {a b c : World} (h : Kept S a b) (hd : Dr b c) : Kept S a c := by
  obtain ⟨k, rfl⟩ := hd
  exact ⟨h.os, h.tape, h.output, h.size, h.block⟩
theorem Kept.setCell {S : List Nat} {a b : World} (h : Kept S a b) {p : Addr} (hp : p.block ∈ S ∨ a.heap.size ≤ p.block) (v : Value) : Kept S a (b.setCell p v) :=
  ⟨h.os, h.tape, h.output, by rw [setCell_size]; exact h.size, fun i hi hn => by
    rw [Below.heap_setCell _ _ _ _ (by rintro rfl; exact hp.elim hn (fun h => by omega))]; exact h.block i hi hn⟩
theorem Kept.alloc {S : List Nat} {a b : World} (h : Kept S a b) (O : Obj) : Kept S a (b.alloc O) :=
  ⟨h.os, h.tape, h.output, by rw [alloc_size]; have := h.size; omega, fun i hi hn => by
    rw [Below.heap_alloc _ _ _ (Nat.lt_of_lt_of_le hi h.size)]; exact h.block i hi hn⟩
theorem Kept.putRow {S : List Nat} {a b : World} (h : Kept S a b) {g : Nat} (hg : g ∈ S ∨ a.heap.size ≤ g) (F : List Nat) : Kept S a (putRow b g F) :=
  ⟨h.os, h.tape, h.output, by rw [putRow_size]; exact h.size, fun i hi hn => by
    rw [putRow_heap _ _ _ _ (by rintro rfl; exact hg.elim hn (fun h => by omega))]; exact h.block i hi hn⟩
theorem Kept.cell {S : List Nat} {a b : World} (h : Kept S a b) {k i : Nat} (hk : k < a.heap.size) (hs : k ∉ S) : b.cell? ⟨k, i, none⟩ = a.cell? ⟨k, i, none⟩ :=
  World.cell?_of_block (h.block k hk hs)
theorem Kept.frozen {S : List Nat} {a b : World} (h : Kept S a b) {k i : Nat} (hk : k < a.heap.size) (hs : k ∉ S) : b.frozen? ⟨k, i, none⟩ = a.frozen? ⟨k, i, none⟩ :=
  World.frozen?_of_block (h.block k hk hs)
theorem Kept.below {S : List Nat} {a b : World} (h : Kept S a b) {B : Nat} (hB : B ≤ a.heap.size) (hs : ∀ k, k ∈ S → B ≤ k) : Below B a b :=
  ⟨h.os, h.tape, h.output, h.size, fun k hk => h.block k (by omega) fun hm => by have := hs k hm; omega⟩

/-- a side of a point in memory: where it starts, its counts, and the block of its row -/
def SideAt (w : World) (b o : Nat) (st : Int) (l : List Nat) (og : Option Nat) : Prop :=
  w.cell? ⟨b, o, none⟩ = some (.int .i32 st) ∧
  ((w.cell? ⟨b, o + 1, none⟩ = some (.slice none 0 0) ∧ l = [] ∧ og = none) ∨
    ∃ g F, w.cell? ⟨b, o + 1, none⟩ = some (.slice (some ⟨g, 0, none⟩) l.length F.length) ∧ og = some g ∧ l ≠ [] ∧ w.heap[g]? = some (rowObj F) ∧ g ≠ b ∧ l.length ≤ F.length ∧ F.length ≤ maxLen ∧ F.take l.length = l)

/-- what a measurement in a bucket makes of a side -/
def recSt (st : Int) (l : List Nat) (bin : Int) : Int := if l = [] then bin else if bin < st then bin else st
def recL (st : Int) (l : List Nat) (bin : Int) : List Nat :=
  if l = [] then [1]
  else if bin < st then 1 :: (List.replicate ((st - bin).toNat - 1) 0 ++ l)
  else if bin ≤ st + l.length - 1 then l.modify (bin - st).toNat (· + 1)
  else l ++ (List.replicate ((bin - st).toNat - l.length) 0 ++ [1])

/-- what 'record' may have touched -/
def touched (b : Nat) (og : Option Nat) : List Nat := b :: og.toList

/-- cells of the point's own block beside the side's two -/
def CellsBut (w w' : World) (b o : Nat) : Prop := (∀ i, i ≠ o → i ≠ o + 1 → w'.cell? ⟨b, i, none⟩ = w.cell? ⟨b, i, none⟩) ∧ ∀ i, w'.frozen? ⟨b, i, none⟩ = w.frozen? ⟨b, i, none⟩

theorem take_set_modify (F : List Nat) (n k x : Nat) (hk : k < n) (hn : n ≤ F.length) (hx : F[k]? = some x) : (F.set k (x + 1)).take n = (F.take n).modify k (· + 1) := by
  apply List.ext_getElem?
  intro j
  rw [List.getElem?_modify]
  by_cases hj : j < n
  · rw [List.getElem?_take_of_lt hj, List.getElem?_take_of_lt hj]
    by_cases e : k = j
    · subst e; rw [List.getElem?_set_self (by omega), hx]; simp
    · rw [List.getElem?_set_ne e]; simp only [if_neg e]; cases F[j]? <;> rfl
  · rw [List.getElem?_eq_none (by simp; omega), List.getElem?_eq_none (by simp; omega)]; rfl

theorem cells_of_setCell2 (w : World) (b o : Nat) (v x : Value) : CellsBut w ((w.setCell ⟨b, o + 1, none⟩ v).setCell ⟨b, o, none⟩ x) b o := by
  refine ⟨fun i h1 h2 => ?_, fun i => ?_⟩
  · go_simp
  · go_simp
theorem cells_of_setCell1 (w : World) (b o : Nat) (v : Value) : CellsBut w (w.setCell ⟨b, o + 1, none⟩ v) b o := by
  refine ⟨fun i h1 h2 => ?_, fun i => ?_⟩
  · go_simp
  · go_simp
theorem CellsBut.of_block {w w1 w2 : World} {b o : Nat} (h : CellsBut w w1 b o) (hb : w2.heap[b]? = w1.heap[b]?) : CellsBut w w2 b o :=
  ⟨fun i h1 h2 => (World.cell?_of_block hb).trans (h.1 i h1 h2), fun i => (World.frozen?_of_block hb).trans (h.2 i)⟩
end Go.Proofs.YtlpddogcnpokfaaGreat
namespace Go.Proofs.YtlpddogcnpokfaaGreat
open Go.RowKit

def RecPost (w w' : World) (b o : Nat) (st : Int) (l : List Nat) (og : Option Nat) : Prop :=
  ∃ og', SideAt w' b o st l og' ∧ Kept (touched b og) w w' ∧ CellsBut w w' b o ∧ (og' = og ∨ ∃ g, og' = some g ∧ w.heap.size ≤ g)

theorem RecPost.dr {w w1 w2 : World} {b o : Nat} {st : Int} {l : List Nat} {og : Option Nat} (h : RecPost w w1 b o st l og) (hd : Dr w1 w2) : RecPost w w2 b o st l og := by
  obtain ⟨og', h1, h2, h3, h4⟩ := h
  have h2' := h2.dr hd
  obtain ⟨k, rfl⟩ := hd
  exact ⟨og', h1, h2', h3, h4⟩

theorem post_first (w : World) (b o : Nat) (bin : Int) (hb : b < w.heap.size) (hc0 : (w.cell? ⟨b, o, none⟩).isSome) (hc1 : (w.cell? ⟨b, o + 1, none⟩).isSome) :
    RecPost w (((w.setCell ⟨b, o + 1, none⟩ (.slice (some ⟨w.heap.size, 0, none⟩) 1 1)).setCell ⟨b, o, none⟩ (.int .i32 bin)).alloc (.cells #[.int .u64 1] 151)) b o bin [1] none := by
  obtain ⟨x0, h0⟩ := Option.isSome_iff_exists.1 hc0
  obtain ⟨x1, h1⟩ := Option.isSome_iff_exists.1 hc1
  have hne : b ≠ w.heap.size := by omega
  refine ⟨some w.heap.size, ⟨by go_simp, .inr ⟨w.heap.size, [1], by go_simp, rfl, by simp, ?_, by omega, by simp, by simp [maxLen], rfl⟩⟩, ?_, ?_, .inr ⟨_, rfl, Nat.le_refl _⟩⟩
  · have h := alloc_new ((w.setCell ⟨b, o + 1, none⟩ (.slice (some ⟨w.heap.size, 0, none⟩) 1 1)).setCell ⟨b, o, none⟩ (.int .i32 bin)) (.cells #[.int .u64 1] 151)
    rw [setCell_size, setCell_size] at h
    exact h
  · exact (((Kept.refl _ _).setCell (.inl (by simp [touched])) _).setCell (.inl (by simp [touched])) _).alloc _
  · exact (cells_of_setCell2 w b o _ _).of_block (Below.heap_alloc _ _ _ (by rw [setCell_size, setCell_size]; exact hb))

theorem post_in (w : World) (b o g k : Nat) (st : Int) (l F : List Nat) (hg : w.heap[g]? = some (rowObj F)) (hbg : g ≠ b) (hs : w.cell? ⟨b, o, none⟩ = some (.int .i32 st))
    (hv : w.cell? ⟨b, o + 1, none⟩ = some (.slice (some ⟨g, 0, none⟩) l.length F.length)) (hl : l.length ≤ F.length) (hF : F.length ≤ maxLen) (ht : F.take l.length = l) (hk : k < l.length) (x : Nat) (hx : F[k]? = some x) :
    RecPost w (w.setCell ⟨g, k, none⟩ (U (x + 1))) b o st (l.modify k (· + 1)) (some g) := by
  rw [row_setCell hg]
  refine ⟨some g, ⟨by rw [putRow_cell_other _ _ _ _ _ hbg.symm]; exact hs, .inr ⟨g, F.set k (x + 1), ?_, rfl, ?_, putRow_heap_same _ _ _ (heap_lt hg), hbg, by simpa using hl, by simpa using hF, ?_⟩⟩,
    (Kept.refl _ _).putRow (.inl (by simp [touched])) _, ⟨fun i _ _ => putRow_cell_other _ _ _ _ _ hbg.symm, fun i => putRow_frozen_other _ _ _ _ _ hbg.symm⟩, .inl rfl⟩
  · rw [putRow_cell_other _ _ _ _ _ hbg.symm]; simpa using hv
  · intro h; have := congrArg List.length h; simp at this; subst this; simp at hk
  · rw [List.length_modify, take_set_modify F l.length k x hk hl hx, ht]

theorem post_row (w : World) (b o g : Nat) (bin : Int) (l' F' : List Nat) (n c : Nat) (hbg : g ≠ b) (hgs : g < w.heap.size) (hc0 : (w.cell? ⟨b, o, none⟩).isSome) (hc1 : (w.cell? ⟨b, o + 1, none⟩).isSome)
    (hn : l'.length = n) (hc : F'.length = c) (hl : n ≤ c) (hF : c ≤ maxLen) (ht : F'.take n = l') (hne : l' ≠ []) :
    RecPost w (putRow ((w.setCell ⟨b, o + 1, none⟩ (.slice (some ⟨g, 0, none⟩) n c)).setCell ⟨b, o, none⟩ (.int .i32 bin)) g F') b o bin l' (some g) := by
  obtain ⟨x0, h0⟩ := Option.isSome_iff_exists.1 hc0
  obtain ⟨x1, h1⟩ := Option.isSome_iff_exists.1 hc1
  subst hn hc
  refine ⟨some g, ⟨by rw [putRow_cell_other _ _ _ _ _ hbg.symm]; go_simp, .inr ⟨g, F', by rw [putRow_cell_other _ _ _ _ _ hbg.symm]; go_simp, rfl, hne, putRow_heap_same _ _ _ (by rw [setCell_size, setCell_size]; exact hgs), hbg, hl, hF, ht⟩⟩,
    (((Kept.refl _ _).setCell (.inl (by simp [touched])) _).setCell (.inl (by simp [touched])) _).putRow (.inl (by simp [touched])) _,
    (cells_of_setCell2 w b o _ _).of_block (putRow_heap _ _ _ _ hbg.symm), .inl rfl⟩

theorem post_row1 (w : World) (b o g : Nat) (st : Int) (l' F' : List Nat) (n c : Nat) (hbg : g ≠ b) (hgs : g < w.heap.size) (hs : w.cell? ⟨b, o, none⟩ = some (.int .i32 st)) (hc1 : (w.cell? ⟨b, o + 1, none⟩).isSome)
    (hn : l'.length = n) (hc : F'.length = c) (hl : n ≤ c) (hF : c ≤ maxLen) (ht : F'.take n = l') (hne : l' ≠ []) :
    RecPost w (putRow (w.setCell ⟨b, o + 1, none⟩ (.slice (some ⟨g, 0, none⟩) n c)) g F') b o st l' (some g) := by
  obtain ⟨x1, h1⟩ := Option.isSome_iff_exists.1 hc1
  subst hn hc
  refine ⟨some g, ⟨by rw [putRow_cell_other _ _ _ _ _ hbg.symm]; go_simp, .inr ⟨g, F', by rw [putRow_cell_other _ _ _ _ _ hbg.symm]; go_simp, rfl, hne, putRow_heap_same _ _ _ (by rw [setCell_size]; exact hgs), hbg, hl, hF, ht⟩⟩,
    ((Kept.refl _ _).setCell (.inl (by simp [touched])) _).putRow (.inl (by simp [touched])) _,
    (cells_of_setCell1 w b o _).of_block (putRow_heap _ _ _ _ hbg.symm), .inl rfl⟩

theorem post_grow (w : World) (b o : Nat) (og : Option Nat) (bin : Int) (l' G : List Nat) (n : Nat) (hb : b < w.heap.size) (hc0 : (w.cell? ⟨b, o, none⟩).isSome) (hc1 : (w.cell? ⟨b, o + 1, none⟩).isSome)
    (hn : l'.length = n) (hl : n ≤ G.length) (hF : G.length ≤ maxLen) (ht : G.take n = l') (hne : l' ≠ []) :
    RecPost w (((w.setCell ⟨b, o + 1, none⟩ (.slice (some ⟨w.heap.size, 0, none⟩) n G.length)).setCell ⟨b, o, none⟩ (.int .i32 bin)).alloc (rowObj G)) b o bin l' og := by
  obtain ⟨x0, h0⟩ := Option.isSome_iff_exists.1 hc0
  obtain ⟨x1, h1⟩ := Option.isSome_iff_exists.1 hc1
  have hneb : b ≠ w.heap.size := by omega
  subst hn
  refine ⟨some w.heap.size, ⟨by go_simp, .inr ⟨w.heap.size, G, by go_simp, rfl, hne, ?_, by omega, hl, hF, ht⟩⟩, ?_, ?_, .inr ⟨_, rfl, Nat.le_refl _⟩⟩
  · have h := alloc_new ((w.setCell ⟨b, o + 1, none⟩ (.slice (some ⟨w.heap.size, 0, none⟩) l'.length G.length)).setCell ⟨b, o, none⟩ (.int .i32 bin)) (rowObj G)
    rw [setCell_size, setCell_size] at h
    exact h
  · exact (((Kept.refl _ _).setCell (.inl (by simp [touched])) _).setCell (.inl (by simp [touched])) _).alloc _
  · exact (cells_of_setCell2 w b o _ _).of_block (Below.heap_alloc _ _ _ (by rw [setCell_size, setCell_size]; exact hb))

theorem post_longer (w : World) (b o : Nat) (og : Option Nat) (st : Int) (l' G Z : List Nat) (n : Nat) (hb : b < w.heap.size) (hs : w.cell? ⟨b, o, none⟩ = some (.int .i32 st)) (hc1 : (w.cell? ⟨b, o + 1, none⟩).isSome)
    (hn : l'.length = n) (hl : n ≤ G.length) (hF : G.length ≤ maxLen) (ht : G.take n = l') (hne : l' ≠ []) :
    RecPost w (((w.setCell ⟨b, o + 1, none⟩ (.slice (some ⟨w.heap.size + 1, 0, none⟩) n G.length)).alloc (rowObj Z)).alloc (rowObj G)) b o st l' og := by
  obtain ⟨x1, h1⟩ := Option.isSome_iff_exists.1 hc1
  have hneb : b ≠ w.heap.size := by omega
  have hneb2 : b ≠ w.heap.size + 1 := by omega
  subst hn
  refine ⟨some (w.heap.size + 1), ⟨by go_simp, .inr ⟨w.heap.size + 1, G, by go_simp, rfl, hne, ?_, by omega, hl, hF, ht⟩⟩, ?_, ?_, .inr ⟨_, rfl, by omega⟩⟩
  · have h := alloc_new ((w.setCell ⟨b, o + 1, none⟩ (.slice (some ⟨w.heap.size + 1, 0, none⟩) l'.length G.length)).alloc (rowObj Z)) (rowObj G)
    rw [alloc_size, setCell_size] at h
    exact h
  · exact (((Kept.refl _ _).setCell (.inl (by simp [touched])) _).alloc _).alloc _
  · exact (cells_of_setCell1 w b o _).of_block ((Below.heap_alloc _ _ _ (by rw [alloc_size, setCell_size]; omega)).trans (Below.heap_alloc _ _ _ (by rw [setCell_size]; exact hb)))

theorem len_pos {l : List Nat} (h : l ≠ []) : 0 < l.length := List.length_pos_iff.2 h

/-- A MEASUREMENT IN A BUCKET. -/
theorem record121 (b o : Nat) (bin st : Int) (l : List Nat) (og : Option Nat) (w : World) (h : SideAt w b o st l og) (hb : b < w.heap.size)
    (hf0 : w.frozen? ⟨b, o, none⟩ = false) (hf1 : w.frozen? ⟨b, o + 1, none⟩ = false) (s1 : -1130000000 ≤ st) (s2 : st ≤ 1130000000) (b1 : -1130000000 ≤ bin) (b2 : bin ≤ 1130000000)
    (hlen : (recL st l bin).length ≤ 1000) (hlx : ∀ x, x ∈ l → x < 4611686018427387904) :
    Calls Tryz.prog 121 #[.pointer (some ⟨b, o, none⟩), .int .i32 bin] w fun e w' => e = .returned (.tuple #[]) ∧ RecPost w w' b o (recSt st l bin) (recL st l bin) og := by
  obtain ⟨hs, hr⟩ := h
  rcases hr with ⟨hv, rfl, rfl⟩ | ⟨g, F, hv, rfl, hne, hg, hgb, hlF, hF, ht⟩
  · refine (record121_first b o bin st w hb hs hv hf0 hf1).mono ?_
    rintro e w' ⟨he, rfl⟩
    exact ⟨he, post_first w b o bin hb (by rw [hs]; rfl) (by rw [hv]; rfl)⟩
  · have h0 := len_pos hne
    have hst : recSt st l bin = if bin < st then bin else st := by unfold recSt; rw [if_neg hne]
    have hL : recL st l bin = if bin < st then 1 :: (List.replicate ((st - bin).toNat - 1) 0 ++ l) else if bin ≤ st + l.length - 1 then l.modify (bin - st).toNat (· + 1) else l ++ (List.replicate ((bin - st).toNat - l.length) 0 ++ [1]) := by
      unfold recL; rw [if_neg hne]
    rw [hL] at hlen ⊢
    rw [hst]
    clear hst hL
    by_cases c1 : bin < st
    · rw [if_pos c1] at hlen
      rw [if_pos c1, if_pos c1]
      obtain ⟨s, hsb⟩ : ∃ s : Nat, st - bin = (s : Int) := ⟨(st - bin).toNat, by omega⟩
      have es : (st - bin).toNat = s := by omega
      rw [es] at hlen ⊢
      simp only [List.length_cons, List.length_append, List.length_replicate] at hlen
      have hlen' : (1 :: (List.replicate (s - 1) 0 ++ l)).length = l.length + s := by simp; omega
      by_cases c2 : l.length + s ≤ F.length
      · refine (record121_before b o g l.length s bin st F w hs hv hg hgb.symm hf0 hf1 h0 b1 s2 hsb (by omega) c2 (by omega) (by unfold maxLen at hF; omega)).mono ?_
        rintro e w' ⟨he, F', e1, e2, hd⟩
        rw [ht] at e2
        exact ⟨he, (post_row w b o g bin _ F' (l.length + s) F.length hgb (heap_lt hg) (by rw [hs]; rfl) (by rw [hv]; rfl) hlen' e1 c2 hF e2 (by simp)).dr hd⟩
      · refine (record121_grow b o g l.length s bin st F w hs hv hg hgb.symm hb hf0 hf1 h0 hlF b1 s2 hsb (by omega) (by omega) (by omega)).mono ?_
        rintro e w' ⟨he, G, e1, e2, e3, hd⟩
        rw [ht] at e3
        exact ⟨he, (post_grow w b o (some g) bin _ G (l.length + s) hb (by rw [hs]; rfl) (by rw [hv]; rfl) hlen' e1 e2 e3 (by simp)).dr hd⟩
    · rw [if_neg c1] at hlen
      rw [if_neg c1, if_neg c1]
      obtain ⟨k, hk⟩ : ∃ k : Nat, bin - st = (k : Int) := ⟨(bin - st).toNat, by omega⟩
      have ek : (bin - st).toNat = k := by omega
      by_cases c2 : bin ≤ st + l.length - 1
      · rw [if_pos c2] at hlen ⊢
        rw [List.length_modify] at hlen
        obtain ⟨x, hx⟩ : ∃ x, F[k]? = some x := ⟨_, List.getElem?_eq_getElem (by omega)⟩
        have hxl : x < 4611686018427387904 := by
          refine hlx x ?_
          rw [← ht]
          refine List.mem_of_getElem? (i := k) ?_
          rw [List.getElem?_take_of_lt (by omega)]; exact hx
        have hcx : w.cell? ⟨g, (bin - st).toNat, none⟩ = some (.int .u64 (x : Int)) := by rw [ek, row_cell hg, hx]; rfl
        refine (record121_in b o g l.length F.length bin st (x : Int) w hs hv h0 hlen s1 s2 (by omega) c2 hcx (row_frozen hg)).mono ?_
        rintro e w' ⟨he, kd, rfl⟩
        have ew : Value.int .u64 (IntKind.u64.wrap ((x : Int) + 1)) = U (x + 1) := by
          unfold U
          rw [IntWalk.u64_in _ (by omega)]
          rfl
        rw [ew, ek]
        exact ⟨he, (post_in w b o g k st l F hg hgb hs hv hlF hF ht (by omega) x hx).dr ⟨kd, rfl⟩⟩
      · rw [if_neg c2] at hlen ⊢
        rw [ek] at hlen ⊢
        simp only [List.length_cons, List.length_append, List.length_replicate, List.length_nil] at hlen
        have hlen' : (l ++ (List.replicate (k - l.length) 0 ++ [1])).length = k + 1 := by simp; omega
        by_cases c3 : k < F.length
        · refine (record121_after b o g l.length k bin st F w hs hv hg hgb.symm hf1 h0 s1 b2 hk (by omega) c3 (by omega) (by unfold maxLen at hF; omega)).mono ?_
          rintro e w' ⟨he, F', e1, e2, hd⟩
          rw [ht] at e2
          exact ⟨he, (post_row1 w b o g st _ F' (k + 1) F.length hgb (heap_lt hg) hs (by rw [hv]; rfl) hlen' e1 (by omega) hF e2 (by simp)).dr hd⟩
        · refine (record121_longer b o g l.length k bin st F w hs hv hg hgb.symm hb hf1 h0 hlF s1 b2 hk (by omega) (by omega) (by omega)).mono ?_
          rintro e w' ⟨he, G, e1, e2, e3, hd⟩
          rw [ht] at e3
          exact ⟨he, (post_longer w b o (some g) st _ G _ (k + 1) hb hs (by rw [hv]; rfl) hlen' e1 e2 e3 (by simp)).dr hd⟩
end Go.Proofs.YtlpddogcnpokfaaGreat
