/- The plain law of the buckets: a side is its counts; one more, a lesser scale; the scale that is taken is the greatest that takes all. -/
import Derived.Test.YtlpddogcnpokfaaGreatPst
import Derived.Test.YtlpddogcnpokfaaGreatMsr
namespace Go.Proofs.YtlpddogcnpokfaaGreat

/-- how many of a list fall in a place -/
def cntB (L : List Int) (b : Nat) (i : Int) : Nat := L.countP fun x => x / ((2 ^ b : Nat) : Int) == i
theorem cntB_pos {L : List Int} {b : Nat} {i : Int} : 0 < cntB L b i ↔ ∃ x, x ∈ L ∧ x / ((2 ^ b : Nat) : Int) = i := by
  unfold cntB; rw [List.countP_pos_iff]; simp
theorem cntB_cons (x : Int) (L : List Int) (b : Nat) (i : Int) : cntB (x :: L) b i = cntB L b i + if x / ((2 ^ b : Nat) : Int) = i then 1 else 0 := by
  unfold cntB; rw [List.countP_cons]; simp
theorem cntB_zero {L : List Int} {b : Nat} {i : Int} (h : ∀ x, x ∈ L → x / ((2 ^ b : Nat) : Int) ≠ i) : cntB L b i = 0 := by
  rcases Nat.eq_zero_or_pos (cntB L b i) with h0 | h0
  · exact h0
  · obtain ⟨x, h1, h2⟩ := cntB_pos.1 h0; exact absurd h2 (h x h1)

/-- a side: its start and its counts -/
structure Sd (b : Nat) (L : List Int) (st : Int) (l : List Nat) : Prop where
  nil : L = [] → st = 0 ∧ l = []
  pos : L ≠ [] → l ≠ []
  cnt : ∀ j, j < l.length → l.getD j 0 = cntB L b (st + j)
  low : L ≠ [] → 0 < cntB L b st
  high : L ≠ [] → 0 < cntB L b (st + l.length - 1)
  all : ∀ x, x ∈ L → st ≤ x / ((2 ^ b : Nat) : Int) ∧ x / ((2 ^ b : Nat) : Int) < st + l.length

theorem Sd.empty (b : Nat) : Sd b [] 0 [] := ⟨fun _ => ⟨rfl, rfl⟩, fun h => absurd rfl h, fun j h => by simp at h, fun h => absurd rfl h, fun h => absurd rfl h, fun x h => by simp at h⟩
theorem Sd.perm {b : Nat} {L L' : List Int} {st : Int} {l : List Nat} (h : Sd b L st l) (hp : L.Perm L') : Sd b L' st l := by
  have hc : ∀ i, cntB L' b i = cntB L b i := fun i => (hp.countP_eq _).symm
  have hn : L' = [] ↔ L = [] := by
    constructor
    · rintro rfl; exact hp.eq_nil
    · rintro rfl; exact hp.symm.eq_nil
  exact ⟨fun h0 => h.nil (hn.1 h0), fun h0 => h.pos fun h1 => h0 (hn.2 h1), fun j hj => by rw [hc]; exact h.cnt j hj, fun h0 => by rw [hc]; exact h.low fun h1 => h0 (hn.2 h1),
    fun h0 => by rw [hc]; exact h.high fun h1 => h0 (hn.2 h1), fun x hx => h.all x (hp.mem_iff.2 hx)⟩
theorem Sd.one {b : Nat} {L : List Int} {st st' : Int} {l l' : List Nat} (h : Sd b L st l) (k : Sd b L st' l') : st = st' ∧ l = l' := by
  by_cases hL : L = []
  · have a := h.nil hL; have c := k.nil hL
    exact ⟨a.1.trans c.1.symm, a.2.trans c.2.symm⟩
  · obtain ⟨x1, m1, e1⟩ := cntB_pos.1 (h.low hL)
    obtain ⟨x2, m2, e2⟩ := cntB_pos.1 (k.low hL)
    obtain ⟨x3, m3, e3⟩ := cntB_pos.1 (h.high hL)
    obtain ⟨x4, m4, e4⟩ := cntB_pos.1 (k.high hL)
    have a1 := k.all x1 m1; have a2 := h.all x2 m2; have a3 := k.all x3 m3; have a4 := h.all x4 m4
    have est : st = st' := by omega
    have elen : l.length = l'.length := by omega
    refine ⟨est, ?_⟩
    subst est
    apply List.ext_getElem elen
    intro j h1 h2
    have c1 := h.cnt j h1; have c2 := k.cnt j h2
    rw [List.getD_eq_getElem?_getD, List.getElem?_eq_getElem h1] at c1
    rw [List.getD_eq_getElem?_getD, List.getElem?_eq_getElem h2] at c2
    simp at c1 c2; omega

theorem ind_sum (n : Nat) (st y : Int) : ((List.range n).map fun (j : Nat) => if y = st + (j : Int) then 1 else 0).sum = if st ≤ y ∧ y < st + n then 1 else 0 := by
  induction n with
  | zero => simp
  | succ n ih =>
    rw [List.range_succ, List.map_append, List.sum_append, ih]
    simp only [List.map_cons, List.map_nil, List.sum_cons, List.sum_nil]
    split <;> split <;> split <;> omega
theorem sum_map_add (n : Nat) (f g : Nat → Nat) : ((List.range n).map fun j => f j + g j).sum = ((List.range n).map f).sum + ((List.range n).map g).sum := by
  induction n with
  | zero => rfl
  | succ n ih => simp only [List.range_succ, List.map_append, List.sum_append, ih, List.map_cons, List.map_nil, List.sum_cons, List.sum_nil]; omega
theorem cnt_sum (b n : Nat) (st : Int) (L : List Int) (h : ∀ x, x ∈ L → st ≤ x / ((2 ^ b : Nat) : Int) ∧ x / ((2 ^ b : Nat) : Int) < st + n) :
    ((List.range n).map fun (j : Nat) => cntB L b (st + j)).sum = L.length := by
  induction L with
  | nil =>
    have : ((List.range n).map fun (j : Nat) => cntB [] b (st + j)) = (List.range n).map fun _ => 0 := by
      apply List.map_congr_left; intro j _; rfl
    rw [this, List.map_const']; simp
  | cons x L ih =>
    have e : ((List.range n).map fun (j : Nat) => cntB (x :: L) b (st + j)) = (List.range n).map fun (j : Nat) => cntB L b (st + j) + if x / ((2 ^ b : Nat) : Int) = st + j then 1 else 0 := by
      apply List.map_congr_left; intro j _; exact cntB_cons x L b _
    rw [e, sum_map_add, ih fun y hy => h y (List.mem_cons_of_mem _ hy), ind_sum, if_pos (h x List.mem_cons_self)]
    rfl
theorem Sd.eq_map {b : Nat} {L : List Int} {st : Int} {l : List Nat} (h : Sd b L st l) : l = (List.range l.length).map fun (j : Nat) => cntB L b (st + j) := by
  apply List.ext_getElem (by simp)
  intro j h1 h2
  have := h.cnt j h1
  rw [List.getD_eq_getElem?_getD, List.getElem?_eq_getElem h1] at this
  simpa using this
theorem Sd.sum {b : Nat} {L : List Int} {st : Int} {l : List Nat} (h : Sd b L st l) : l.sum = L.length := by
  rw [h.eq_map]; exact cnt_sum b _ st L h.all

/-- both ends of a list are near at a scale -/
def FitB (size : Int) (b : Nat) (L : List Int) : Prop := ∀ x, x ∈ L → ∀ y, y ∈ L → x / ((2 ^ b : Nat) : Int) - y / ((2 ^ b : Nat) : Int) < size
instance (size : Int) (b : Nat) (L : List Int) : Decidable (FitB size b L) := inferInstanceAs (Decidable (∀ x, x ∈ L → ∀ y, y ∈ L → _))
theorem FitB.sub {size : Int} {b : Nat} {L L' : List Int} (h : FitB size b L) (hs : ∀ x, x ∈ L' → x ∈ L) : FitB size b L' := fun x hx y hy => h x (hs x hx) y (hs y hy)
theorem pow_div (x : Int) (a b : Nat) : x / ((2 ^ (a + b) : Nat) : Int) = x / ((2 ^ a : Nat) : Int) / ((2 ^ b : Nat) : Int) := by
  rw [Int.ediv_ediv_of_nonneg (Int.natCast_nonneg _), ← Int.natCast_mul, ← Nat.pow_add]
theorem FitB.succ {size : Int} {b : Nat} {L : List Int} (h : FitB size b L) (hs : 1 ≤ size) : FitB size (b + 1) L := by
  intro x hx y hy
  have := h x hx y hy
  rw [pow_div x b 1, pow_div y b 1]
  generalize x / ((2 ^ b : Nat) : Int) = u at *
  generalize y / ((2 ^ b : Nat) : Int) = v at *
  have e : ((2 ^ 1 : Nat) : Int) = 2 := rfl
  rw [e]; omega
theorem FitB.mono {size : Int} {b c : Nat} {L : List Int} (h : FitB size b L) (hs : 1 ≤ size) (hc : b ≤ c) : FitB size c L := by
  obtain ⟨d, rfl⟩ := Nat.exists_eq_add_of_le hc
  clear hc
  induction d with
  | zero => exact h
  | succ d ih => exact ih.succ hs
theorem Sd.fit {b : Nat} {L : List Int} {st : Int} {l : List Nat} (h : Sd b L st l) {size : Int} (hs : 1 ≤ size) : FitB size b L ↔ (l.length : Int) ≤ size := by
  by_cases hL : L = []
  · subst hL; rw [(h.nil rfl).2]; simp [FitB]; omega
  · obtain ⟨x1, m1, e1⟩ := cntB_pos.1 (h.low hL)
    obtain ⟨x3, m3, e3⟩ := cntB_pos.1 (h.high hL)
    constructor
    · intro hf
      have := hf x3 m3 x1 m1
      omega
    · intro hl x hx y hy
      have a := h.all x hx; have c := h.all y hy
      omega
end Go.Proofs.YtlpddogcnpokfaaGreat
namespace Go.Proofs.YtlpddogcnpokfaaGreat

theorem Sd.at {b : Nat} {L : List Int} {st : Int} {l : List Nat} (h : Sd b L st l) (q : Int) : cntB L b q = if st ≤ q ∧ q < st + l.length then l.getD (q - st).toNat 0 else 0 := by
  by_cases hq : st ≤ q ∧ q < st + l.length
  · rw [if_pos hq, h.cnt _ (by omega)]; congr 1; omega
  · rw [if_neg hq]; exact cntB_zero fun x hx e => hq (by have := h.all x hx; omega)

theorem getD_front (n : Nat) (l : List Nat) (j : Nat) : (1 :: (List.replicate n 0 ++ l)).getD j 0 = if j = 0 then 1 else if j ≤ n then 0 else l.getD (j - 1 - n) 0 := by
  cases j with
  | zero => simp
  | succ j =>
    simp only [List.getD_eq_getElem?_getD, List.getElem?_cons_succ, List.getElem?_append, List.length_replicate, List.getElem?_replicate]
    by_cases hj : j < n
    · rw [if_pos hj, if_pos hj, if_neg (by omega), if_pos (by omega)]; rfl
    · rw [if_neg hj, if_neg (by omega), if_neg (by omega)]; congr 2
theorem getD_back (n : Nat) (l : List Nat) (j : Nat) : (l ++ (List.replicate n 0 ++ [1])).getD j 0 = if j < l.length then l.getD j 0 else if j = l.length + n then 1 else 0 := by
  simp only [List.getD_eq_getElem?_getD, List.getElem?_append, List.length_replicate, List.getElem?_replicate]
  by_cases h1 : j < l.length
  · rw [if_pos h1, if_pos h1]
  · rw [if_neg h1, if_neg h1]
    by_cases h2 : j - l.length < n
    · rw [if_pos h2, if_pos h2, if_neg (by omega)]; rfl
    · rw [if_neg h2]
      by_cases h3 : j = l.length + n
      · rw [if_pos h3, show j - l.length - n = 0 from by omega]; rfl
      · rw [if_neg h3, List.getElem?_eq_none (by simp; omega)]; rfl
theorem getD_modify (l : List Nat) (k j : Nat) (hk : k < l.length) : (l.modify k (· + 1)).getD j 0 = l.getD j 0 + if j = k then 1 else 0 := by
  simp only [List.getD_eq_getElem?_getD, List.getElem?_modify]
  by_cases h : k = j
  · subst h; rw [List.getElem?_eq_getElem hk]; simp
  · rw [if_neg (fun e => h e.symm)]
    have : ((fun a => if k = j then a + 1 else a) <$> l[j]? : Option Nat) = l[j]? := by simp [h]
    first | rw [this]; simp | simp [h]

theorem Sd.put {b : Nat} {L : List Int} {st : Int} {l : List Nat} (h : Sd b L st l) (i : Int) :
    Sd b (i :: L) (recSt st l (i / ((2 ^ b : Nat) : Int))) (recL st l (i / ((2 ^ b : Nat) : Int))) := by
  generalize hbin : i / ((2 ^ b : Nat) : Int) = bin
  have hc : ∀ q, cntB (i :: L) b q = cntB L b q + if bin = q then 1 else 0 := fun q => by rw [cntB_cons, hbin]
  have hx : ∀ x, x ∈ i :: L → x / ((2 ^ b : Nat) : Int) = bin ∨ (st ≤ x / ((2 ^ b : Nat) : Int) ∧ x / ((2 ^ b : Nat) : Int) < st + l.length) := by
    intro x hx
    rcases List.mem_cons.1 hx with rfl | hx
    · exact .inl hbin
    · exact .inr (h.all x hx)
  by_cases hl : l = []
  · have hL : L = [] := Classical.byContradiction fun hL => h.pos hL hl
    have e1 : recSt st l bin = bin := by unfold recSt; rw [if_pos hl]
    have e2 : recL st l bin = [1] := by unfold recL; rw [if_pos hl]
    rw [e1, e2]
    have hz : ∀ q, cntB L b q = 0 := fun q => by rw [hL]; rfl
    refine ⟨by simp, by simp, ?_, ?_, ?_, ?_⟩
    · intro j hj
      have : j = 0 := by simpa using hj
      subst this; rw [hc, hz]; simp
    · intro _; rw [hc]; simp
    · intro _; rw [hc]; simp
    · intro x m
      have hl0 : l.length = 0 := by rw [hl]; rfl
      have hl1 : ([1] : List Nat).length = 1 := rfl
      rw [hl1]
      rcases hx x m with e | e <;> omega
  · have hL : L ≠ [] := fun e => hl (h.nil e).2
    have hlen : 0 < l.length := List.length_pos_iff.2 hl
    by_cases h1 : bin < st
    · have e1 : recSt st l bin = bin := by unfold recSt; rw [if_neg hl, if_pos h1]
      have e2 : recL st l bin = 1 :: (List.replicate ((st - bin).toNat - 1) 0 ++ l) := by unfold recL; rw [if_neg hl, if_pos h1]
      rw [e1, e2]
      have e3 : (1 :: (List.replicate ((st - bin).toNat - 1) 0 ++ l)).length = (st - bin).toNat + l.length := by simp; omega
      refine ⟨by simp, by simp, ?_, ?_, ?_, ?_⟩
      · intro j hj
        rw [e3] at hj
        rw [getD_front, hc, h.at]
        by_cases j0 : j = 0
        · rw [if_pos j0, if_neg (by omega), if_pos (by omega)]
        · rw [if_neg j0]
          by_cases j1 : j ≤ (st - bin).toNat - 1
          · rw [if_pos j1, if_neg (by omega), if_neg (by omega)]
          · rw [if_neg j1, if_pos (by omega), if_neg (by omega), Nat.add_zero]; congr 1; omega
      · intro _; rw [hc]; simp
      · intro _; rw [e3, hc]
        have := h.high hL
        have e : bin + (((st - bin).toNat + l.length : Nat) : Int) - 1 = st + l.length - 1 := by omega
        rw [e]; omega
      · intro x m
        rw [e3]
        have := hx x m; omega
    · have e1 : recSt st l bin = st := by unfold recSt; rw [if_neg hl, if_neg h1]
      by_cases h2 : bin ≤ st + l.length - 1
      · have e2 : recL st l bin = l.modify (bin - st).toNat (· + 1) := by unfold recL; rw [if_neg hl, if_neg h1, if_pos h2]
        rw [e1, e2]
        have e3 : (l.modify (bin - st).toNat (· + 1)).length = l.length := by simp
        refine ⟨by simp, fun _ => List.length_pos_iff.1 (by rw [e3]; exact hlen), ?_, ?_, ?_, ?_⟩
        · intro j hj
          rw [e3] at hj
          rw [getD_modify _ _ _ (by omega), hc, h.cnt j hj]
          congr 1
          by_cases hj2 : j = (bin - st).toNat
          · rw [if_pos hj2, if_pos (by omega)]
          · rw [if_neg hj2, if_neg (by omega)]
        · intro _; rw [hc]; have := h.low hL; omega
        · intro _; rw [e3, hc]; have := h.high hL; omega
        · intro x m
          rw [e3]
          have := hx x m; omega
      · have e2 : recL st l bin = l ++ (List.replicate ((bin - st).toNat - l.length) 0 ++ [1]) := by unfold recL; rw [if_neg hl, if_neg h1, if_neg h2]
        rw [e1, e2]
        have e3 : (l ++ (List.replicate ((bin - st).toNat - l.length) 0 ++ [1])).length = (bin - st).toNat + 1 := by simp; omega
        refine ⟨by simp, by simp, ?_, ?_, ?_, ?_⟩
        · intro j hj
          rw [e3] at hj
          rw [getD_back, hc, h.at]
          by_cases j1 : j < l.length
          · rw [if_pos j1, if_pos (by omega), if_neg (by omega), Nat.add_zero]; congr 1; omega
          · rw [if_neg j1]
            by_cases j2 : j = l.length + ((bin - st).toNat - l.length)
            · rw [if_pos j2, if_neg (by omega), if_pos (by omega)]
            · rw [if_neg j2, if_neg (by omega), if_neg (by omega)]
        · intro _; rw [hc]; have := h.low hL; omega
        · intro _; rw [e3, hc]
          have e : st + (((bin - st).toNat + 1 : Nat) : Int) - 1 = bin := by omega
          rw [e]; simp
        · intro x m
          rw [e3]
          have := hx x m; omega

theorem countP_split {L : List Int} {p q r : Int → Bool} (h : ∀ x, x ∈ L → (r x).toNat = (p x).toNat + (q x).toNat) : L.countP r = L.countP p + L.countP q := by
  induction L with
  | nil => rfl
  | cons x L ih =>
    rw [List.countP_cons, List.countP_cons, List.countP_cons, ih fun y hy => h y (List.mem_cons_of_mem _ hy)]
    have := h x List.mem_cons_self
    cases hr : r x <;> cases hp : p x <;> cases hq : q x <;> rw [hr, hp, hq] at this <;> simp at this ⊢ <;> omega

theorem Sd.grp {b : Nat} {L : List Int} {st : Int} {l : List Nat} (h : Sd b L st l) (d off : Nat) (hoff : st = (off : Int) + ((2 ^ d : Nat) : Int) * (st / ((2 ^ d : Nat) : Int))) :
    ∀ n j, n ≤ l.length → grp l (2 ^ d) off n j = L.countP fun x => decide (x / ((2 ^ b : Nat) : Int) < st + n) && (x / ((2 ^ (b + d) : Nat) : Int) == st / ((2 ^ d : Nat) : Int) + j) := by
  intro n
  induction n with
  | zero =>
    intro j _
    symm
    show List.countP _ L = 0
    rw [List.countP_eq_zero]
    intro x hx
    have := h.all x hx
    rw [decide_eq_false (by omega)]; simp
  | succ n ih =>
    intro j hn
    have hp : (0 : Int) < ((2 ^ d : Nat) : Int) := by have := Nat.two_pow_pos d; omega
    have hdv : (st + n) / ((2 ^ d : Nat) : Int) = st / ((2 ^ d : Nat) : Int) + (((n + off) / 2 ^ d : Nat) : Int) := by
      generalize hQ : st / ((2 ^ d : Nat) : Int) = Q at hoff
      have e : st + (n : Int) = ((n + off : Nat) : Int) + ((2 ^ d : Nat) : Int) * Q := by omega
      rw [e, Int.add_mul_ediv_left _ _ (by omega), Int.natCast_ediv]; omega
    simp only [Go.Proofs.YtlpddogcnpokfaaGreat.grp]
    rw [ih j (by omega)]
    have e2 : (if (n + off) / 2 ^ d = j then l.getD n 0 else 0) = L.countP fun x => decide ((n + off) / 2 ^ d = j) && (x / ((2 ^ b : Nat) : Int) == st + n) := by
      by_cases hj : (n + off) / 2 ^ d = j
      · rw [if_pos hj, h.cnt n (by omega)]; unfold cntB; rw [decide_eq_true hj]; simp only [Bool.true_and]
      · rw [if_neg hj]; symm; rw [List.countP_eq_zero]; intro x _; simp [hj]
    rw [e2]
    symm
    apply countP_split
    intro x _
    rw [pow_div x b d]
    generalize x / ((2 ^ b : Nat) : Int) = u
    by_cases hu : u = st + n
    · subst hu
      rw [hdv]
      by_cases hj : (n + off) / 2 ^ d = j
      · simp [hj]; try omega
      · have : ¬ (st / ((2 ^ d : Nat) : Int) + (((n + off) / 2 ^ d : Nat) : Int) = st / ((2 ^ d : Nat) : Int) + (j : Int)) := by omega
        simp only [beq_eq_false_iff_ne.2 this, decide_eq_false hj]; simp
    · have e1 : (u == st + (n : Int)) = false := by simpa using hu
      have e3 : decide (u < st + ((n + 1 : Nat) : Int)) = decide (u < st + (n : Int)) := by congr 1; apply propext; omega
      rw [e1, e3]; simp

theorem Sd.down {b : Nat} {L : List Int} {st : Int} {l : List Nat} (h : Sd b L st l) (d : Nat) : Sd (b + d) L (st / ((2 ^ d : Nat) : Int)) (dsSide st l d) := by
  have hp : (0 : Int) < ((2 ^ d : Nat) : Int) := by have := Nat.two_pow_pos d; omega
  by_cases hL : L = []
  · obtain ⟨rfl, rfl⟩ := h.nil hL
    subst hL
    have : dsSide 0 [] d = [] := by simp [dsSide]
    rw [this, Int.zero_ediv]; exact Sd.empty _
  · obtain ⟨x1, m1, f1⟩ := cntB_pos.1 (h.low hL)
    obtain ⟨x3, m3, f3⟩ := cntB_pos.1 (h.high hL)
    have hlen : 0 < l.length := List.length_pos_iff.2 (h.pos hL)
    by_cases h1 : l.length ≤ 1
    · have e : dsSide st l d = l := by unfold dsSide; rw [if_pos h1]
      rw [e]
      have hl1 : l.length = 1 := by omega
      have key : ∀ x, x ∈ L → x / ((2 ^ b : Nat) : Int) = st := fun x hx => by have := h.all x hx; omega
      have key2 : ∀ x, x ∈ L → x / ((2 ^ (b + d) : Nat) : Int) = st / ((2 ^ d : Nat) : Int) := fun x hx => by rw [pow_div, key x hx]
      have hcnt : cntB L (b + d) (st / ((2 ^ d : Nat) : Int)) = cntB L b st := by
        unfold cntB; apply List.countP_congr; intro x hx; rw [key x hx, key2 x hx]; simp
      refine ⟨fun e => absurd e hL, fun _ => h.pos hL, ?_, ?_, ?_, ?_⟩
      · intro j hj
        have : j = 0 := by omega
        subst this; rw [h.cnt 0 (by omega)]; simpa using hcnt.symm
      · intro _; rw [hcnt]; exact h.low hL
      · intro _; rw [hl1, show st / ((2 ^ d : Nat) : Int) + ((1 : Nat) : Int) - 1 = st / ((2 ^ d : Nat) : Int) from by omega, hcnt]; exact h.low hL
      · intro x hx; rw [key2 x hx]; omega
    · have e : dsSide st l d = dsL l (2 ^ d) (st % ((2 ^ d : Nat) : Int)).toNat := by unfold dsSide; rw [if_neg h1]
      rw [e]
      obtain ⟨off, ho⟩ : ∃ off : Nat, st % ((2 ^ d : Nat) : Int) = (off : Int) := ⟨(st % ((2 ^ d : Nat) : Int)).toNat, by have := Int.emod_nonneg st (Int.ne_of_gt hp); omega⟩
      have hoff : st = (off : Int) + ((2 ^ d : Nat) : Int) * (st / ((2 ^ d : Nat) : Int)) := by rw [← ho]; exact (Int.emod_add_mul_ediv st _).symm
      have ho2 : (st % ((2 ^ d : Nat) : Int)).toNat = off := by omega
      rw [ho2]
      have hlen2 : (dsL l (2 ^ d) off).length = (l.length - 1 + off) / 2 ^ d + 1 := by simp [dsL]
      have hdv : ∀ n : Nat, (st + n) / ((2 ^ d : Nat) : Int) = st / ((2 ^ d : Nat) : Int) + (((n + off) / 2 ^ d : Nat) : Int) := by
        intro n
        generalize hQ : st / ((2 ^ d : Nat) : Int) = Q at hoff
        have e : st + (n : Int) = ((n + off : Nat) : Int) + ((2 ^ d : Nat) : Int) * Q := by omega
        rw [e, Int.add_mul_ediv_left _ _ (by omega), Int.natCast_ediv]; omega
      have hhi : (st + l.length - 1) / ((2 ^ d : Nat) : Int) = st / ((2 ^ d : Nat) : Int) + (((l.length - 1 + off) / 2 ^ d : Nat) : Int) := by
        rw [← hdv, show st + ((l.length - 1 : Nat) : Int) = st + l.length - 1 from by omega]
      refine ⟨fun e => absurd e hL, fun _ e => by rw [e] at hlen2; simp at hlen2, ?_, ?_, ?_, ?_⟩
      · intro j hj
        rw [hlen2] at hj
        have e4 : (dsL l (2 ^ d) off).getD j 0 = Go.Proofs.YtlpddogcnpokfaaGreat.grp l (2 ^ d) off l.length j := by
          unfold dsL; rw [List.getD_eq_getElem?_getD, List.getElem?_map, List.getElem?_range hj]; rfl
        rw [e4, h.grp d off hoff l.length j (Nat.le_refl _)]
        unfold cntB
        apply List.countP_congr
        intro x hx
        have := h.all x hx
        rw [decide_eq_true (by omega)]; simp only [Bool.true_and]
      · intro _; exact cntB_pos.2 ⟨x1, m1, by rw [pow_div, f1]⟩
      · intro _; refine cntB_pos.2 ⟨x3, m3, ?_⟩
        rw [pow_div, f3, hhi, hlen2]; omega
      · intro x hx
        have hx := h.all x hx
        rw [pow_div, hlen2]
        generalize x / ((2 ^ b : Nat) : Int) = u at *
        have a1 := Int.ediv_le_ediv hp hx.1
        have a2 := Int.ediv_le_ediv hp (show u ≤ st + l.length - 1 by omega)
        rw [hhi] at a2
        omega
end Go.Proofs.YtlpddogcnpokfaaGreat
namespace Go.Proofs.YtlpddogcnpokfaaGreat

theorem scLoop_spec (size : Int) (n : Nat) : ∀ lo hi : Int, (∀ j, j < (scLoop size n lo hi).toNat → size ≤ hi / ((2 ^ j : Nat) : Int) - lo / ((2 ^ j : Nat) : Int)) ∧
    ((scLoop size n lo hi).toNat < n → hi / ((2 ^ (scLoop size n lo hi).toNat : Nat) : Int) - lo / ((2 ^ (scLoop size n lo hi).toNat : Nat) : Int) < size) := by
  induction n with
  | zero => intro lo hi; simp [scLoop]
  | succ n ih =>
    intro lo hi
    obtain ⟨i1, i2⟩ := ih (lo / 2) (hi / 2)
    have hr := scLoop_le size n (lo / 2) (hi / 2)
    simp only [scLoop]
    have hs : ∀ (x : Int) (j : Nat), x / ((2 ^ (j + 1) : Nat) : Int) = x / 2 / ((2 ^ j : Nat) : Int) := fun x j => by
      rw [Nat.add_comm j 1, pow_div x 1 j]; rfl
    by_cases h : size ≤ hi - lo
    · rw [if_pos h]
      generalize hk : scLoop size n (lo / 2) (hi / 2) = k at *
      have e : (1 + k).toNat = k.toNat + 1 := by omega
      rw [e]
      refine ⟨fun j hj => ?_, fun hk => ?_⟩
      · cases j with
        | zero => simpa using h
        | succ j => rw [hs, hs]; exact i1 j (by omega)
      · rw [hs, hs]; exact i2 (by omega)
    · rw [if_neg h]
      refine ⟨fun j hj => by simp at hj, fun _ => ?_⟩
      simp; omega

theorem fit_iff {size : Int} {b : Nat} {M : List Int} {lo hi : Int} (h : ∀ x, x ∈ M → lo ≤ x / ((2 ^ b : Nat) : Int) ∧ x / ((2 ^ b : Nat) : Int) ≤ hi) (h1 : ∃ x, x ∈ M ∧ x / ((2 ^ b : Nat) : Int) = lo) (h2 : ∃ x, x ∈ M ∧ x / ((2 ^ b : Nat) : Int) = hi) (j : Nat) :
    FitB size (b + j) M ↔ hi / ((2 ^ j : Nat) : Int) - lo / ((2 ^ j : Nat) : Int) < size := by
  obtain ⟨x, hx, ex⟩ := h1
  obtain ⟨y, hy, ey⟩ := h2
  have hp : (0 : Int) < ((2 ^ j : Nat) : Int) := by have := Nat.two_pow_pos j; omega
  constructor
  · intro hf
    have := hf y hy x hx
    rwa [pow_div, pow_div, ex, ey] at this
  · intro hl u hu v hv
    rw [pow_div, pow_div]
    have a := Int.ediv_le_ediv hp (h u hu).2
    have c := Int.ediv_le_ediv hp (h v hv).1
    omega

theorem sc_step {size : Int} {b : Nat} {L : List Int} {st : Int} {l : List Nat} (h : Sd b L st l) (hs : 1 ≤ size) (hf : FitB size b L) (i : Int) {B : Nat} (hB : b ≤ B) (hB2 : B - b < 31) (hfB : FitB size B (i :: L)) :
    (scOf size (i / ((2 ^ b : Nat) : Int)) st l.length).toNat ≤ B - b ∧ FitB size (b + (scOf size (i / ((2 ^ b : Nat) : Int)) st l.length).toNat) (i :: L) ∧
      ∀ j, j < (scOf size (i / ((2 ^ b : Nat) : Int)) st l.length).toNat → ¬ FitB size (b + j) (i :: L) := by
  generalize hbin : i / ((2 ^ b : Nat) : Int) = bin
  by_cases hl : l = []
  · have hL : L = [] := Classical.byContradiction fun hL => h.pos hL hl
    subst hl hL
    have : scOf size bin st (([] : List Nat).length : Nat) = 0 := rfl
    rw [this]
    refine ⟨by simp, ?_, fun j hj => by simp at hj⟩
    intro x hx y hy
    simp at hx hy; subst hx hy; omega
  · have hL : L ≠ [] := fun e => hl (h.nil e).2
    have hlen : 0 < l.length := List.length_pos_iff.2 hl
    have hsz := (h.fit hs).1 hf
    obtain ⟨x1, m1, f1⟩ := cntB_pos.1 (h.low hL)
    obtain ⟨x3, m3, f3⟩ := cntB_pos.1 (h.high hL)
    have e0 : scOf size bin st (l.length : Int) = scLoop size 31 (scLow bin st) (scHigh bin st l.length) := by unfold scOf; rw [if_neg (by omega)]
    rw [e0]
    obtain ⟨s1, s2⟩ := scLoop_spec size 31 (scLow bin st) (scHigh bin st l.length)
    have hle := scLoop_le size 31 (scLow bin st) (scHigh bin st l.length)
    -- the general end
    have fin : (∀ j, FitB size (b + j) (i :: L) ↔ scHigh bin st l.length / ((2 ^ j : Nat) : Int) - scLow bin st / ((2 ^ j : Nat) : Int) < size) →
        (scLoop size 31 (scLow bin st) (scHigh bin st l.length)).toNat ≤ B - b ∧ FitB size (b + (scLoop size 31 (scLow bin st) (scHigh bin st l.length)).toNat) (i :: L) ∧
          ∀ j, j < (scLoop size 31 (scLow bin st) (scHigh bin st l.length)).toNat → ¬ FitB size (b + j) (i :: L) := by
      intro hiff
      generalize (scLoop size 31 (scLow bin st) (scHigh bin st l.length)).toNat = k at *
      have hk : k ≤ B - b := by
        rcases Nat.lt_or_ge (B - b) k with h1 | h1
        · have a := s1 _ h1
          have c := (hiff (B - b)).1 (by rw [show b + (B - b) = B from by omega]; exact hfB)
          omega
        · exact h1
      exact ⟨hk, (hiff k).2 (s2 (by omega)), fun j hj hfj => by have a := s1 j hj; have c := (hiff j).1 hfj; omega⟩
    by_cases h1 : bin ≤ st
    · apply fin
      have e1 : scLow bin st = bin := by unfold scLow; rw [if_pos h1]
      have e2 : scHigh bin st l.length = st + l.length - 1 := by unfold scHigh; rw [if_pos h1]
      rw [e1, e2]
      intro j
      refine fit_iff ?_ ⟨i, List.mem_cons_self, hbin⟩ ⟨x3, List.mem_cons_of_mem _ m3, f3⟩ j
      intro x hx
      rcases List.mem_cons.1 hx with rfl | hx
      · omega
      · have := h.all x hx; omega
    · have e1 : scLow bin st = st := by unfold scLow; rw [if_neg h1]
      have e2 : scHigh bin st l.length = bin := by unfold scHigh; rw [if_neg h1]
      by_cases h2 : bin ≤ st + l.length - 1
      · have hz : scLoop size 31 (scLow bin st) (scHigh bin st l.length) = 0 := by
          rw [e1, e2]; simp only [scLoop]; rw [if_neg (by omega)]
        rw [hz]
        refine ⟨by simp, ?_, fun j hj => by simp at hj⟩
        intro x hx y hy
        have hr : ∀ x, x ∈ i :: L → st ≤ x / ((2 ^ b : Nat) : Int) ∧ x / ((2 ^ b : Nat) : Int) < st + l.length := by
          intro x hx
          rcases List.mem_cons.1 hx with rfl | hx
          · omega
          · exact h.all x hx
        have a := hr x hx
        have c := hr y hy
        show x / ((2 ^ b : Nat) : Int) - y / ((2 ^ b : Nat) : Int) < size
        omega
      · apply fin
        rw [e1, e2]
        intro j
        refine fit_iff ?_ ⟨x1, List.mem_cons_of_mem _ m1, f1⟩ ⟨i, List.mem_cons_self, hbin⟩ j
        intro x hx
        rcases List.mem_cons.1 hx with rfl | hx
        · omega
        · have := h.all x hx; omega

/-- the buckets of measured numbers: the indices above 0, those below, the zeros -/
structure BkOk (top : Nat) (size : Int) (b0 : Nat) (P N : List Int) (z b : Nat) (s : Bk) : Prop where
  sc : s.sc = (top : Int) - b
  le : b0 ≤ b
  sp : Sd b P s.ps s.pl
  sn : Sd b N s.ns s.nl
  zc : s.zc = z
  fp : FitB size b P
  fn : FitB size b N
  least : ∀ c, b0 ≤ c → c < b → ¬ (FitB size c P ∧ FitB size c N)

theorem BkOk.fresh (top : Nat) (size S : Int) (hS : S ≤ top) : BkOk top size ((top : Int) - S).toNat [] [] 0 ((top : Int) - S).toNat (Bk.fresh S) :=
  ⟨by show S = _; omega, Nat.le_refl _, Sd.empty _, Sd.empty _, rfl, fun x hx => by simp at hx, fun x hx => by simp at hx, fun c h1 h2 => by omega⟩

theorem BkOk.below {top : Nat} {size : Int} {b0 : Nat} {P N : List Int} {z b : Nat} {s : Bk} (h : BkOk top size b0 P N z b s) {B : Nat} (hB : b0 ≤ B) (f1 : FitB size B P) (f2 : FitB size B N) : b ≤ B := by
  rcases Nat.lt_or_ge B b with h1 | h1
  · exact absurd ⟨f1, f2⟩ (h.least B hB h1)
  · exact h1

theorem binW_eq {top x b : Nat} {S : Int} (h : S = (top : Int) - b) : binW top S x = Lg.idx top x / ((2 ^ b : Nat) : Int) := by
  unfold binW; rw [show ((top : Int) - S).toNat = b from by omega]

/-- a number more -/
theorem BkOk.step {top : Nat} {size : Int} {b0 : Nat} {P N : List Int} {z b : Nat} {s : Bk} (h : BkOk top size b0 P N z b s) (hs : 1 ≤ size) (v : Nat) (ht : top ≤ 20) {B : Nat} (hB : b0 ≤ B) (hB2 : B ≤ top + 10)
    {P' N' : List Int} {z' : Nat} (hz : absW v = 0 → P' = P ∧ N' = N ∧ z' = z + 1) (hp : absW v ≠ 0 → ltW v 0 = false → P' = Lg.idx top (absW v) :: P ∧ N' = N ∧ z' = z)
    (hn : absW v ≠ 0 → ltW v 0 = true → P' = P ∧ N' = Lg.idx top (absW v) :: N ∧ z' = z) (f1 : FitB size B P') (f2 : FitB size B N') :
    ∃ b', BkOk top size b0 P' N' z' b' (recBk top size v s) := by
  by_cases h0 : absW v = 0
  · obtain ⟨rfl, rfl, rfl⟩ := hz h0
    refine ⟨b, ?_⟩
    unfold recBk; rw [if_pos h0]
    exact ⟨h.sc, h.le, h.sp, h.sn, by show s.zc + 1 = _; rw [h.zc], h.fp, h.fn, h.least⟩
  · have bin0 := binW_eq (x := absW v) h.sc
    generalize hi : Lg.idx top (absW v) = i at *
    cases hneg : ltW v 0 with
    | false =>
      obtain ⟨rfl, rfl, rfl⟩ := hp h0 hneg
      have hbB := h.below hB (f1.sub fun x hx => List.mem_cons_of_mem _ hx) f2
      obtain ⟨k1, k2, k3⟩ := sc_step h.sp hs h.fp i hbB (by omega) f1
      unfold recBk; rw [if_neg h0]
      simp only [hneg, Bk.st, Bk.row, Bool.false_eq_true, if_false]
      rw [bin0]
      generalize (scOf size (i / ((2 ^ b : Nat) : Int)) s.ps s.pl.length).toNat = k at *
      by_cases hk : k = 0
      · subst hk
        rw [if_pos rfl]
        refine ⟨b, h.sc, h.le, ?_, h.sn, h.zc, k2, h.fn, fun c c1 c2 c3 => h.least c c1 c2 ⟨c3.1.sub fun x hx => List.mem_cons_of_mem _ hx, c3.2⟩⟩
        exact h.sp.put i
      · rw [if_neg hk, if_neg (by rw [h.sc]; omega)]
        have bin1 : binW top (s.sc - k) (absW v) = i / ((2 ^ (b + k) : Nat) : Int) := by rw [binW_eq (b := b + k) (by rw [h.sc]; omega), hi]
        rw [bin1]
        refine ⟨b + k, ?_, by have := h.le; omega, ?_, ?_, h.zc, k2, h.fn.mono hs (by omega), ?_⟩
        · show s.sc - (k : Int) = _; rw [h.sc]; omega
        · exact (h.sp.down k).put i
        · exact h.sn.down k
        · intro c c1 c2 c3
          rcases Nat.lt_or_ge c b with c4 | c4
          · exact h.least c c1 c4 ⟨c3.1.sub fun x hx => List.mem_cons_of_mem _ hx, c3.2⟩
          · refine k3 (c - b) (by omega) ?_
            rw [show b + (c - b) = c from by omega]; exact c3.1
    | true =>
      obtain ⟨rfl, rfl, rfl⟩ := hn h0 hneg
      have hbB := h.below hB f1 (f2.sub fun x hx => List.mem_cons_of_mem _ hx)
      obtain ⟨k1, k2, k3⟩ := sc_step h.sn hs h.fn i hbB (by omega) f2
      unfold recBk; rw [if_neg h0]
      simp only [hneg, Bk.st, Bk.row, if_true]
      rw [bin0]
      generalize (scOf size (i / ((2 ^ b : Nat) : Int)) s.ns s.nl.length).toNat = k at *
      by_cases hk : k = 0
      · subst hk
        rw [if_pos rfl]
        refine ⟨b, h.sc, h.le, h.sp, ?_, h.zc, h.fp, k2, fun c c1 c2 c3 => h.least c c1 c2 ⟨c3.1, c3.2.sub fun x hx => List.mem_cons_of_mem _ hx⟩⟩
        exact h.sn.put i
      · rw [if_neg hk, if_neg (by rw [h.sc]; omega)]
        have bin1 : binW top (s.sc - k) (absW v) = i / ((2 ^ (b + k) : Nat) : Int) := by rw [binW_eq (b := b + k) (by rw [h.sc]; omega), hi]
        rw [bin1]
        refine ⟨b + k, ?_, by have := h.le; omega, ?_, ?_, h.zc, h.fp.mono hs (by omega), k2, ?_⟩
        · show s.sc - (k : Int) = _; rw [h.sc]; omega
        · exact h.sp.down k
        · exact (h.sn.down k).put i
        · intro c c1 c2 c3
          rcases Nat.lt_or_ge c b with c4 | c4
          · exact h.least c c1 c4 ⟨c3.1, c3.2.sub fun x hx => List.mem_cons_of_mem _ hx⟩
          · refine k3 (c - b) (by omega) ?_
            rw [show b + (c - b) = c from by omega]; exact c3.2
end Go.Proofs.YtlpddogcnpokfaaGreat
namespace Go.Proofs.YtlpddogcnpokfaaGreat

theorem FitB.perm {size : Int} {b : Nat} {L L' : List Int} (h : FitB size b L) (hp : L.Perm L') : FitB size b L' := h.sub fun _ hx => hp.mem_iff.2 hx
theorem BkOk.perm {top : Nat} {size : Int} {b0 : Nat} {P N P' N' : List Int} {z b : Nat} {s : Bk} (h : BkOk top size b0 P N z b s) (h1 : P.Perm P') (h2 : N.Perm N') : BkOk top size b0 P' N' z b s :=
  ⟨h.sc, h.le, h.sp.perm h1, h.sn.perm h2, h.zc, h.fp.perm h1, h.fn.perm h2, fun c c1 c2 c3 => h.least c c1 c2 ⟨c3.1.perm h1.symm, c3.2.perm h2.symm⟩⟩

/-- the indices of the numbers above 0, of those below, and how many are 0 -/
def pIs (top : Nat) (l : List Nat) : List Int := (l.filter fun v => absW v != 0 && !ltW v 0).map fun v => Lg.idx top (absW v)
def nIs (top : Nat) (l : List Nat) : List Int := (l.filter fun v => absW v != 0 && ltW v 0).map fun v => Lg.idx top (absW v)
def zIs (l : List Nat) : Nat := l.countP fun v => absW v == 0

theorem pIs_cons (top v : Nat) (l : List Nat) : pIs top (v :: l) = if absW v ≠ 0 ∧ ltW v 0 = false then Lg.idx top (absW v) :: pIs top l else pIs top l := by
  unfold pIs
  by_cases h : absW v ≠ 0 ∧ ltW v 0 = false
  · rw [if_pos h, List.filter_cons, if_pos (by simp [h.1, h.2])]; rfl
  · rw [if_neg h, List.filter_cons, if_neg (by simpa using h)]
theorem nIs_cons (top v : Nat) (l : List Nat) : nIs top (v :: l) = if absW v ≠ 0 ∧ ltW v 0 = true then Lg.idx top (absW v) :: nIs top l else nIs top l := by
  unfold nIs
  by_cases h : absW v ≠ 0 ∧ ltW v 0 = true
  · rw [if_pos h, List.filter_cons, if_pos (by simp [h.1, h.2])]; rfl
  · rw [if_neg h, List.filter_cons, if_neg (by simpa using h)]
theorem zIs_cons (v : Nat) (l : List Nat) : zIs (v :: l) = zIs l + if absW v = 0 then 1 else 0 := by
  unfold zIs; rw [List.countP_cons]; simp
theorem len_parts (top : Nat) (l : List Nat) : (pIs top l).length + (nIs top l).length + zIs l = l.length := by
  induction l with
  | nil => rfl
  | cons v l ih =>
    rw [pIs_cons, nIs_cons, zIs_cons, List.length_cons, ← ih]
    by_cases h : absW v = 0
    · simp [h]; omega
    · cases h2 : ltW v 0 <;> simp [h] <;> omega
theorem pIs_append (top : Nat) (l k : List Nat) : pIs top (l ++ k) = pIs top l ++ pIs top k := by unfold pIs; simp
theorem nIs_append (top : Nat) (l k : List Nat) : nIs top (l ++ k) = nIs top l ++ nIs top k := by unfold nIs; simp

/-- numbers that are asked, and a scale that takes them -/
structure Fine (top : Nat) (size : Int) (b0 B : Nat) (l : List Nat) : Prop where
  lt : ∀ v, v ∈ l → v < 18446744073709551616
  fin : ∀ v, v ∈ l → absW v < 2047 * 2 ^ 52
  near : ∀ v, v ∈ l → absW v ≠ 0 → Lg.near top (absW v) = false
  hB : b0 ≤ B
  hB2 : B ≤ top + 10
  f1 : FitB size B (pIs top l)
  f2 : FitB size B (nIs top l)
theorem Fine.left {top : Nat} {size : Int} {b0 B : Nat} {l k : List Nat} (h : Fine top size b0 B (l ++ k)) : Fine top size b0 B l :=
  ⟨fun v hv => h.lt v (List.mem_append_left _ hv), fun v hv => h.fin v (List.mem_append_left _ hv), fun v hv => h.near v (List.mem_append_left _ hv), h.hB, h.hB2,
    h.f1.sub fun x hx => by rw [pIs_append]; exact List.mem_append_left _ hx, h.f2.sub fun x hx => by rw [nIs_append]; exact List.mem_append_left _ hx⟩

theorem bk_run {top : Nat} {size : Int} {b0 B : Nat} (hs : 1 ≤ size) (ht : top ≤ 20) (hB : b0 ≤ B) (hB2 : B ≤ top + 10) (l : List Nat) : ∀ {P N : List Int} {z b : Nat} {s : Bk}, BkOk top size b0 P N z b s →
    FitB size B (pIs top l ++ P) → FitB size B (nIs top l ++ N) → ∃ b', BkOk top size b0 (pIs top l ++ P) (nIs top l ++ N) (zIs l + z) b' (l.foldl (fun s v => recBk top size v s) s) := by
  induction l with
  | nil => intro P N z b s h _ _; exact ⟨b, by simpa [pIs, nIs, zIs] using h⟩
  | cons v l ih =>
    intro P N z b s h f1 f2
    rw [List.foldl_cons]
    by_cases h0 : absW v = 0
    · have e1 : pIs top (v :: l) = pIs top l := by rw [pIs_cons, if_neg (fun c => c.1 h0)]
      have e2 : nIs top (v :: l) = nIs top l := by rw [nIs_cons, if_neg (fun c => c.1 h0)]
      have e3 : zIs (v :: l) + z = zIs l + (z + 1) := by rw [zIs_cons, if_pos h0]; omega
      rw [e1] at f1; rw [e2] at f2; rw [e1, e2, e3]
      obtain ⟨b', h'⟩ := h.step hs v ht hB hB2 (fun _ => ⟨rfl, rfl, rfl⟩) (fun c => absurd h0 c) (fun c => absurd h0 c) (f1.sub fun x hx => List.mem_append_right _ hx) (f2.sub fun x hx => List.mem_append_right _ hx)
      exact ih h' f1 f2
    · cases hneg : ltW v 0 with
      | false =>
        have e1 : pIs top (v :: l) = Lg.idx top (absW v) :: pIs top l := by rw [pIs_cons, if_pos ⟨h0, hneg⟩]
        have e2 : nIs top (v :: l) = nIs top l := by rw [nIs_cons, if_neg (fun c => by rw [hneg] at c; cases c.2)]
        have e3 : zIs (v :: l) + z = zIs l + z := by rw [zIs_cons, if_neg h0]; rfl
        rw [e1] at f1; rw [e2] at f2; rw [e1, e2, e3]
        have pm : (pIs top l ++ Lg.idx top (absW v) :: P).Perm (Lg.idx top (absW v) :: pIs top l ++ P) := List.perm_middle
        have f1' := f1.perm pm.symm
        obtain ⟨b', h'⟩ := h.step hs v ht hB hB2 (fun c => absurd c h0) (fun _ _ => ⟨rfl, rfl, rfl⟩) (fun _ c => by rw [hneg] at c; cases c) (f1'.sub fun x hx => List.mem_append_right _ hx) (f2.sub fun x hx => List.mem_append_right _ hx)
        obtain ⟨b'', h''⟩ := ih h' f1' f2
        exact ⟨b'', h''.perm pm (List.Perm.refl _)⟩
      | true =>
        have e1 : pIs top (v :: l) = pIs top l := by rw [pIs_cons, if_neg (fun c => by rw [hneg] at c; cases c.2)]
        have e2 : nIs top (v :: l) = Lg.idx top (absW v) :: nIs top l := by rw [nIs_cons, if_pos ⟨h0, hneg⟩]
        have e3 : zIs (v :: l) + z = zIs l + z := by rw [zIs_cons, if_neg h0]; rfl
        rw [e1] at f1; rw [e2] at f2; rw [e1, e2, e3]
        have pm : (nIs top l ++ Lg.idx top (absW v) :: N).Perm (Lg.idx top (absW v) :: nIs top l ++ N) := List.perm_middle
        have f2' := f2.perm pm.symm
        obtain ⟨b', h'⟩ := h.step hs v ht hB hB2 (fun c => absurd c h0) (fun _ c => by rw [hneg] at c; cases c) (fun _ _ => ⟨rfl, rfl, rfl⟩) (f1.sub fun x hx => List.mem_append_right _ hx) (f2'.sub fun x hx => List.mem_append_right _ hx)
        obtain ⟨b'', h''⟩ := ih h' f1 f2'
        exact ⟨b'', h''.perm (List.Perm.refl _) pm⟩

/-- the buckets behind a list of numbers -/
def bkOf (top : Nat) (size S : Int) (l : List Nat) : Bk := l.foldl (fun s v => recBk top size v s) (Bk.fresh S)
theorem bkOf_snoc (top : Nat) (size S : Int) (l : List Nat) (v : Nat) : bkOf top size S (l ++ [v]) = recBk top size v (bkOf top size S l) := by simp [bkOf]
theorem Fine.ok {top : Nat} {size S : Int} {B : Nat} {l : List Nat} (h : Fine top size ((top : Int) - S).toNat B l) (hs : 1 ≤ size) (ht : top ≤ 20) (hS : S ≤ top) :
    ∃ b, BkOk top size ((top : Int) - S).toNat (pIs top l) (nIs top l) (zIs l) b (bkOf top size S l) := by
  have h0 := BkOk.fresh top size S hS
  obtain ⟨b, hb⟩ := bk_run hs ht h.hB h.hB2 l h0 (by rw [List.append_nil]; exact h.f1) (by rw [List.append_nil]; exact h.f2)
  rw [List.append_nil, List.append_nil] at hb
  exact ⟨b, hb⟩

theorem Sd.range {b : Nat} {L : List Int} {st : Int} {l : List Nat} (h : Sd b L st l) {M : Int} (hM : 0 ≤ M) (hr : ∀ x, x ∈ L → -M ≤ x ∧ x ≤ M) : -M ≤ st ∧ st ≤ M := by
  by_cases hL : L = []
  · rw [(h.nil hL).1]; omega
  · obtain ⟨x, hx, e⟩ := cntB_pos.1 (h.low hL)
    rw [← e]
    exact div_range x _ M (hr x hx).1 (hr x hx).2 (Nat.two_pow_pos b)

theorem pIs_range {top : Nat} (ht : top ≤ 20) {l : List Nat} (hf : ∀ v, v ∈ l → absW v < 2047 * 2 ^ 52) : ∀ x, x ∈ pIs top l → -1130000000 ≤ x ∧ x ≤ 1130000000 := by
  intro x hx
  unfold pIs at hx
  obtain ⟨v, hv, rfl⟩ := List.mem_map.1 hx
  obtain ⟨h1, h2⟩ := List.mem_filter.1 hv
  have h0 : absW v ≠ 0 := by intro h; simp [h] at h2
  exact idx_range top _ ht (Nat.pos_of_ne_zero h0) (hf v h1)
theorem nIs_range {top : Nat} (ht : top ≤ 20) {l : List Nat} (hf : ∀ v, v ∈ l → absW v < 2047 * 2 ^ 52) : ∀ x, x ∈ nIs top l → -1130000000 ≤ x ∧ x ≤ 1130000000 := by
  intro x hx
  unfold nIs at hx
  obtain ⟨v, hv, rfl⟩ := List.mem_map.1 hx
  obtain ⟨h1, h2⟩ := List.mem_filter.1 hv
  have h0 : absW v ≠ 0 := by intro h; simp [h] at h2
  exact idx_range top _ ht (Nat.pos_of_ne_zero h0) (hf v h1)

/-- what a state of the buckets keeps to -/
structure BkLim (s : Bk) : Prop where
  pl : s.pl.length ≤ 200
  nl : s.nl.length ≤ 200
  p1 : -1130000000 ≤ s.ps
  p2 : s.ps ≤ 1130000000
  n1 : -1130000000 ≤ s.ns
  n2 : s.ns ≤ 1130000000
  sum : s.pl.sum + s.nl.sum + s.zc < 1000000
  sc1 : -10 ≤ s.sc
  sc2 : s.sc ≤ 20

theorem Fine.lim {top : Nat} {size S : Int} {B : Nat} {l : List Nat} (h : Fine top size ((top : Int) - S).toNat B l) (hs : 1 ≤ size) (hs2 : size ≤ 200) (ht : top ≤ 20) (hS : S ≤ top) (hl : l.length < 1000000) :
    BkLim (bkOf top size S l) ∧ (bkOf top size S l).sc ≤ top ∧ (bkOf top size S l).pl.sum + (bkOf top size S l).nl.sum + (bkOf top size S l).zc = l.length := by
  obtain ⟨b, k⟩ := h.ok hs ht hS
  have a1 := (k.sp.fit hs).1 k.fp
  have a2 := (k.sn.fit hs).1 k.fn
  have a3 := k.sp.range (by decide) (pIs_range ht h.fin)
  have a4 := k.sn.range (by decide) (nIs_range ht h.fin)
  have a5 : (bkOf top size S l).pl.sum + (bkOf top size S l).nl.sum + (bkOf top size S l).zc = l.length := by
    rw [k.sp.sum, k.sn.sum, k.zc]; exact len_parts top l
  have a6 := k.below h.hB h.f1 h.f2
  have a7 := k.sc
  have a8 := h.hB2
  exact ⟨⟨by omega, by omega, a3.1, a3.2, a4.1, a4.2, by omega, by omega, by omega⟩, by omega, a5⟩
theorem BkLim.pre {s : Bk} (h : BkLim s) {top v : Nat} {size : Int} (hs : 1 ≤ size) (hs2 : size ≤ 200) (ht : top ≤ 20) (hsc : s.sc ≤ top) (hv : v < 18446744073709551616) (hx : absW v ≠ 0) (hx2 : absW v < 2047 * 2 ^ 52) (hn : Lg.near top (absW v) = false) :
    RecPre top v size s := by
  obtain ⟨h1, h2, h3, h4, h5, h6, h7, h8, h9⟩ := h
  exact ⟨hv, hx, hx2, hn, ht, hsc, h8, hs, by omega, h3, h4, h5, h6, by omega, by omega, by omega, by omega⟩

/-- the least and the greatest one -/
def mmOf (l : List Nat) : Option (Nat × Nat) := l.foldl (fun m v => some (mmOpt v m)) none
theorem mmOf_snoc (l : List Nat) (v : Nat) : mmOf (l ++ [v]) = some (mmOpt v (mmOf l)) := by simp [mmOf]
/-- the parts of a sum behind a list of numbers, the last one first -/
def SumRun : List Nat → Nat → Int → Prop
  | [], fb, ni => fb = 0 ∧ ni = 0
  | v :: l, fb', ni' => ∃ fb ni, SumRun l fb ni ∧ SumStep v fb ni fb' ni'
end Go.Proofs.YtlpddogcnpokfaaGreat
