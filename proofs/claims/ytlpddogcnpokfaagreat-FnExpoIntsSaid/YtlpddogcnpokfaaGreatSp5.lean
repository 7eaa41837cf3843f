/- The reference point on the way: the invariant of its loop (plain). -/
import Derived.Test.YtlpddogcnpokfaaGreatSp4
import Derived.Test.YtlpddogcnpokfaaGreatEx2
namespace Go.Proofs.YtlpddogcnpokfaaGreat
open Go.RowKit Go.Maps

/-- the reference's sum, the last number first -/
def SpSum : List Nat → Nat → Prop
  | [], s => s = 0
  | v :: l, s' => ∃ s, SpSum l s ∧ ∀ r, floatBits .add .f64 s v = some r → s' = r
def gtW (a b : Nat) : Bool := FloatKind.f64.format.order a b == some .gt
def mnSt (m v : Nat) : Nat := if ltW v m = true then v else m
def mxSt (m v : Nat) : Nat := if gtW v m = true then v else m
def spMn (l : List Nat) : Nat := l.foldl mnSt 9218868437227405312
def spMx (l : List Nat) : Nat := l.foldl mxSt 18442240474082181120
/-- the cells of the reference's point on the way -/
def zc43 (n : Nat) : Array Value := #[.bool false, U 0, U 0, U 0, U 0, .int .i32 0, U n, .int .i32 0, .slice none 0 0, .int .i32 0, .slice none 0 0]
theorem SideS.kept {w w' : World} {b : Nat} {L : List Int} {om : Option Nat} (h : SideS w b L om) {S : List Nat} (hk : Kept S w w') (hb : b ∉ S) (hm : ∀ x, om = some x → x ∉ S) : SideS w' b L om := by
  rcases h with ⟨h1, h2, h3⟩ | ⟨h1, m, lo, hi, n, D, rfl, h3, h4, ⟨es, clock, e1, e2⟩, h6⟩
  · exact .inl ⟨h1, h2, hk.obj h3 hb⟩
  · exact .inr ⟨h1, m, lo, hi, n, D, rfl, hk.obj h3 hb, h4, ⟨es, clock, hk.obj e1 (hm m rfl), e2⟩, h6⟩
/-- the reference's point on the way: the first m numbers have been counted -/
structure SpInv (w : World) (l : List Nat) (top m s : Nat) (wr : World) (om oc : Option Nat) : Prop where
  p : wr.heap[w.heap.size]? = some (.cells (zc43 (zIs (l.take m))) 43 (0, 0))
  A : SideS wr (w.heap.size + 1) (pIs top (l.take m).reverse) om
  B : SideS wr (w.heap.size + 1 + 1) (nIs top (l.take m).reverse) oc
  ap : ∀ x, om = some x → w.heap.size + 3 ≤ x ∧ oc ≠ some x
  bp : ∀ x, oc = some x → w.heap.size + 3 ≤ x
  k : Kept [] w wr
  sz : w.heap.size + 3 ≤ wr.heap.size
  sum : SpSum (l.take m).reverse s
  good : ∀ v, v ∈ l.take m → absW v < 2047 * 2 ^ 52 ∧ (absW v ≠ 0 → Lg.near top (absW v) = false)

theorem hd2k {w w' : World} (h : Dr1 w w') : Kept [] w w' := by
  rcases h with h | h
  · rw [h]; exact Kept.refl _ _
  · rw [h]; exact (Kept.refl _ _).dr ⟨1, rfl⟩
theorem fin_facts {v : Nat} (h1 : Lg.nanW v = false) (h2 : Lg.infW v = false) : absW v < 2047 * 2 ^ 52 ∧ (FloatKind.f64.format.order v 0 == some .eq) = decide (absW v = 0) ∧ (absW v ≠ 0 → (FloatKind.f64.format.order v 0 == some .gt) = !ltW v 0) := by
  have hf : Lg.fin v := (Lg.fin_iff v).2 ⟨h1, h2⟩
  have e := Lg.eq_zero v hf
  have h0 : Lg.fin 0 := by decide +kernel
  refine ⟨hf, e, fun h0' => ?_⟩
  obtain ⟨o, ho⟩ : ∃ o, FloatKind.f64.format.order v 0 = some o := by
    obtain ⟨s, t, h, _⟩ := Lg.order_val (Lg.is_fin hf) (Lg.is_fin h0)
    exact ⟨_, h⟩
  have e : (FloatKind.f64.format.order v 0 == some .eq) = decide (absW v = 0) := e
  rw [decide_eq_false h0'] at e
  unfold ltW
  rw [ho] at e ⊢
  cases o <;> first | rfl | (exfalso; revert e; decide)

theorem spTake {l : List Nat} {m v : Nat} (h : l[m]? = some v) : l.take (m + 1) = l.take m ++ [v] := by
  rw [List.take_add_one, h]; rfl
theorem spRev {l : List Nat} {m v : Nat} (h : l[m]? = some v) : (l.take (m + 1)).reverse = v :: (l.take m).reverse := by
  rw [spTake h]; simp
theorem spGood {l : List Nat} {m v top : Nat} (h : l[m]? = some v) (hg : ∀ v, v ∈ l.take m → absW v < 2047 * 2 ^ 52 ∧ (absW v ≠ 0 → Lg.near top (absW v) = false)) (hv : absW v < 2047 * 2 ^ 52 ∧ (absW v ≠ 0 → Lg.near top (absW v) = false)) :
    ∀ v, v ∈ l.take (m + 1) → absW v < 2047 * 2 ^ 52 ∧ (absW v ≠ 0 → Lg.near top (absW v) = false) := by
  intro u hu
  rw [spTake h] at hu
  rcases List.mem_append.1 hu with hu | hu
  · exact hg u hu
  · rw [List.mem_singleton.1 hu]; exact hv
theorem SpInv.zero {w : World} {l : List Nat} {top m s v r zn : Nat} {wr w2 : World} {om oc : Option Nat} (h : SpInv w l top m s wr om oc) (hk : Kept [] wr w2) (hv : l[m]? = some v) (hf : absW v < 2047 * 2 ^ 52) (h0 : absW v = 0) (hr : ∀ r0, floatBits .add .f64 s v = some r0 → r = r0) (hz : zn = zIs (l.take m)) :
    SpInv w l top (m + 1) r (w2.setCell ⟨w.heap.size, 6, none⟩ (.int .u64 ((zn : Int) + 1))) om oc := by
  have hkS : Kept [w.heap.size] wr (w2.setCell ⟨w.heap.size, 6, none⟩ (.int .u64 ((zn : Int) + 1))) := (hk.sub (fun _ h => by cases h)).setCell (.inl (by simp)) _
  refine ⟨?_, ?_, ?_, h.ap, h.bp, h.k.trans2 hkS (by intro i hi; simp at hi; subst hi; exact .inr (Nat.le_refl _)), Nat.le_trans h.sz hkS.size, ?_, spGood hv h.good ⟨hf, fun hn => absurd h0 hn⟩⟩
  · refine blkSet' (hk.obj h.p (by simp)) ?_
    have e : zIs (l.take (m + 1)) = zn + 1 := by rw [spTake hv, hz]; unfold zIs; rw [List.countP_append]; simp [h0]
    rw [e]; unfold zc43 U; simp
  · rw [spRev hv, pIs_cons, if_neg (by simp [h0])]
    exact h.A.kept hkS (by simp) (fun x hx hm => by have := h.ap x hx; simp at hm; omega)
  · have e : nIs top (l.take (m + 1)).reverse = nIs top (l.take m).reverse := by rw [spRev hv, nIs_cons, if_neg (by simp [h0])]
    rw [e]
    exact h.B.kept hkS (by simp; omega) (fun x hx hm => by have := h.bp x hx; simp at hm; omega)
  · rw [spRev hv]; exact ⟨s, h.sum, hr⟩
theorem SpInv.up {w : World} {l : List Nat} {top m s v r : Nat} {wr w3 w4 : World} {om oc : Option Nat} {e : Ending} (h : SpInv w l top m s wr om oc) (hk : Kept [] wr w3) (hv : l[m]? = some v) (hf : absW v < 2047 * 2 ^ 52) (h0 : absW v ≠ 0) (hn : Lg.near top (absW v) = false) (hs : ltW v 0 = false)
    (hr : ∀ r0, floatBits .add .f64 s v = some r0 → r = r0) (ha : AddPost w3 (w.heap.size + 1) (pIs top (l.take m).reverse) om (Lg.idx top (absW v)) e w4) : ∃ om', SpInv w l top (m + 1) r w4 om' oc := by
  obtain ⟨_, om', hS, hkA, hm'⟩ := ha
  have hkS : Kept ((w.heap.size + 1) :: om.toList) wr w4 := (hk.sub (fun _ h => by cases h)).trans2 hkA (fun i hi => .inl hi)
  have hin : ∀ i, i ∈ (w.heap.size + 1) :: om.toList → i = w.heap.size + 1 ∨ om = some i := by
    intro i hi
    rcases List.mem_cons.1 hi with e | e
    · exact .inl e
    · right; cases om with
      | none => cases e
      | some x => simp at e; rw [e]
  have hz0 : zIs (l.take (m + 1)) = zIs (l.take m) := by rw [spTake hv]; unfold zIs; rw [List.countP_append]; simp [h0]
  have hsz3 := hk.size
  have hB := h.B.kept hkS (by intro hi; rcases hin _ hi with e | e; omega; have := (h.ap _ e).1; omega) (fun x hx hi => by rcases hin _ hi with e | e; (have := h.bp x hx; omega); exact (h.ap x e).2 hx)
  refine ⟨om', ?_, ?_, ?_, ?_, h.bp, h.k.trans2 hkS ?_, Nat.le_trans h.sz hkS.size, ?_, spGood hv h.good ⟨hf, fun _ => hn⟩⟩
  · rw [hz0]; exact hkS.obj h.p (by intro hi; rcases hin _ hi with e | e; omega; have := (h.ap _ e).1; omega)
  · rw [spRev hv, pIs_cons, if_pos ⟨h0, hs⟩]; exact hS
  · have e : nIs top (l.take (m + 1)).reverse = nIs top (l.take m).reverse := by rw [spRev hv, nIs_cons, if_neg (by simp [hs])]
    rw [e]; exact hB
  · intro x hx
    rcases hm' x hx with e | e
    · exact h.ap x e
    · have := h.sz
      refine ⟨by omega, fun hoc => ?_⟩
      rcases h.B with ⟨_, h2, _⟩ | ⟨_, mm, _, _, _, _, h2, _, _, h5, _⟩
      · rw [h2] at hoc; cases hoc
      · rw [h2] at hoc; injection hoc with hoc; have := h5.lt; omega
  · intro i hi
    rcases hin i hi with e | e
    · right; omega
    · right; have := (h.ap i e).1; omega
  · rw [spRev hv]; exact ⟨s, h.sum, hr⟩
theorem SpInv.dn {w : World} {l : List Nat} {top m s v r : Nat} {wr w3 w4 : World} {om oc : Option Nat} {e : Ending} (h : SpInv w l top m s wr om oc) (hk : Kept [] wr w3) (hv : l[m]? = some v) (hf : absW v < 2047 * 2 ^ 52) (h0 : absW v ≠ 0) (hn : Lg.near top (absW v) = false) (hs : ltW v 0 = true)
    (hr : ∀ r0, floatBits .add .f64 s v = some r0 → r = r0) (ha : AddPost w3 (w.heap.size + 1 + 1) (nIs top (l.take m).reverse) oc (Lg.idx top (absW v)) e w4) : ∃ oc', SpInv w l top (m + 1) r w4 om oc' := by
  obtain ⟨_, om', hS, hkA, hm'⟩ := ha
  have hkS : Kept ((w.heap.size + 1 + 1) :: oc.toList) wr w4 := (hk.sub (fun _ h => by cases h)).trans2 hkA (fun i hi => .inl hi)
  have hin : ∀ i, i ∈ (w.heap.size + 1 + 1) :: oc.toList → i = w.heap.size + 1 + 1 ∨ oc = some i := by
    intro i hi
    rcases List.mem_cons.1 hi with e | e
    · exact .inl e
    · right; cases oc with
      | none => cases e
      | some x => simp at e; rw [e]
  have hz0 : zIs (l.take (m + 1)) = zIs (l.take m) := by rw [spTake hv]; unfold zIs; rw [List.countP_append]; simp [h0]
  have hsz3 := hk.size
  have hA := h.A.kept hkS (by intro hi; rcases hin _ hi with e | e; omega; have := h.bp _ e; omega) (fun x hx hi => by rcases hin _ hi with e | e; (have := h.ap x hx; omega); exact (h.ap x hx).2 e)
  refine ⟨om', ?_, ?_, ?_, ?_, ?_, h.k.trans2 hkS ?_, Nat.le_trans h.sz hkS.size, ?_, spGood hv h.good ⟨hf, fun _ => hn⟩⟩
  · rw [hz0]; exact hkS.obj h.p (by intro hi; rcases hin _ hi with e | e; omega; have := h.bp _ e; omega)
  · have e : pIs top (l.take (m + 1)).reverse = pIs top (l.take m).reverse := by rw [spRev hv, pIs_cons, if_neg (by simp [hs])]
    rw [e]; exact hA
  · rw [spRev hv, nIs_cons, if_pos ⟨h0, hs⟩]; exact hS
  · intro x hx
    refine ⟨(h.ap x hx).1, fun hoc => ?_⟩
    rcases hm' x hoc with e | e
    · exact (h.ap x hx).2 e
    · rcases h.A with ⟨_, h2, _⟩ | ⟨_, mm, _, _, _, _, h2, _, _, h5, _⟩
      · rw [h2] at hx; cases hx
      · rw [h2] at hx; injection hx with hx; have := h5.lt; omega
  · intro x hx
    rcases hm' x hx with e | e
    · exact h.bp x e
    · have := h.sz; omega
  · intro i hi
    rcases hin i hi with e | e
    · right; omega
    · right; have := h.bp i e; omega
  · rw [spRev hv]; exact ⟨s, h.sum, hr⟩
theorem spMn_snoc {l : List Nat} {m v : Nat} (h : l[m]? = some v) : spMn (l.take (m + 1)) = mnSt (spMn (l.take m)) v := by rw [spTake h]; simp [spMn]
theorem spMx_snoc {l : List Nat} {m v : Nat} (h : l[m]? = some v) : spMx (l.take (m + 1)) = mxSt (spMx (l.take m)) v := by rw [spTake h]; simp [spMx]
end Go.Proofs.YtlpddogcnpokfaaGreat
