/- FnExpoScales: shifted places, maps of whole numbers, both closures, the walk of the law. -/
import Derived.Test.YtlpddogcnpokfaaGreatPm
import Derived.Maps.OwnSet
import Derived.Deep.RegionHeld3
namespace Go.Proofs.YtlpddogcnpokfaaGreat
/-- what falls into a place when the places are shifted -/
def shSum (l : List Nat) (st : Int) (D : Nat) : Nat → Int → Nat
  | 0, _ => 0
  | n + 1, k => shSum l st D n k + if (st + n) / ((2 ^ D : Nat) : Int) = k then l.getD n 0 else 0
/-- whether a place is hit -/
def shHit (st : Int) (D n : Nat) (k : Int) : Prop := ∃ i : Nat, i < n ∧ (st + i) / ((2 ^ D : Nat) : Int) = k
theorem Sd.sh {b : Nat} {L : List Int} {st : Int} {l : List Nat} (h : Sd b L st l) (D : Nat) (k : Int) : ∀ n, n ≤ l.length → shSum l st D n k = L.countP fun x => decide (x / ((2 ^ b : Nat) : Int) < st + n) && (x / ((2 ^ (b + D) : Nat) : Int) == k) := by
  intro n
  induction n with
  | zero =>
    intro _
    symm
    show List.countP _ L = 0
    rw [List.countP_eq_zero]
    intro x hx
    have := h.all x hx
    rw [decide_eq_false (by omega)]; simp
  | succ n ih =>
    intro hn
    have e2 : (if (st + n) / ((2 ^ D : Nat) : Int) = k then l.getD n 0 else 0) = L.countP fun x => decide ((st + n) / ((2 ^ D : Nat) : Int) = k) && (x / ((2 ^ b : Nat) : Int) == st + n) := by
      by_cases hj : (st + n) / ((2 ^ D : Nat) : Int) = k
      · rw [if_pos hj, h.cnt n (by omega)]; unfold cntB; rw [decide_eq_true hj]; simp only [Bool.true_and]
      · rw [if_neg hj]; symm; rw [List.countP_eq_zero]; intro x _; rw [decide_eq_false hj]; simp
    show shSum l st D n k + _ = _
    rw [ih (by omega), e2]
    symm
    apply countP_split
    intro x _
    rw [pow_div x b D]
    generalize x / ((2 ^ b : Nat) : Int) = u
    by_cases hu : u = st + n
    · subst hu
      by_cases hj : (st + n) / ((2 ^ D : Nat) : Int) = k
      · have h1 : ((st + ↑n) / ((2 ^ D : Nat) : Int) == k) = true := beq_iff_eq.2 hj
        rw [h1, decide_eq_true hj, decide_eq_true (show st + (n : Int) < st + ((n + 1 : Nat) : Int) by omega), decide_eq_false (show ¬ st + (n : Int) < st + (n : Int) by omega)]; simp
      · have : ((st + ↑n) / ((2 ^ D : Nat) : Int) == k) = false := by simpa using hj
        rw [this, decide_eq_false hj]; simp
    · have e1 : (u == st + (n : Int)) = false := by simpa using hu
      have e3 : decide (u < st + ((n + 1 : Nat) : Int)) = decide (u < st + (n : Int)) := by congr 1; apply propext; omega
      rw [e1, e3]; simp
theorem Sd.sh_all {b : Nat} {L : List Int} {st : Int} {l : List Nat} (h : Sd b L st l) (D : Nat) (k : Int) : shSum l st D l.length k = cntB L (b + D) k := by
  rw [h.sh D k _ (Nat.le_refl _)]
  unfold cntB
  apply List.countP_congr
  intro x hx
  have := h.all x hx
  rw [decide_eq_true (by omega)]; simp
/-- the places of the shifted side are the places that are hit -/
theorem Sd.sh_in {b D : Nat} {L : List Int} {st st2 : Int} {l l2 : List Nat} (h : Sd b L st l) (h2 : Sd (b + D) L st2 l2) (k : Int) (hk : shHit st D l.length k) : st2 ≤ k ∧ k < st2 + l2.length := by
  obtain ⟨i, hi, rfl⟩ := hk
  have hL : L ≠ [] := fun e => by rw [(h.nil e).2] at hi; simp at hi
  obtain ⟨x1, m1, f1⟩ := cntB_pos.1 (h.low hL)
  obtain ⟨x3, m3, f3⟩ := cntB_pos.1 (h.high hL)
  have hp : (0 : Int) < ((2 ^ D : Nat) : Int) := by have := Nat.two_pow_pos D; omega
  have a1 := (h2.all x1 m1).1
  have a3 := (h2.all x3 m3).2
  rw [pow_div, f1] at a1
  rw [pow_div, f3] at a3
  have b1 := Int.ediv_le_ediv hp (show st ≤ st + i by omega)
  have b3 := Int.ediv_le_ediv hp (show st + i ≤ st + l.length - 1 by omega)
  omega
theorem Sd.sh_cnt {b D : Nat} {L : List Int} {st st2 : Int} {l l2 : List Nat} (h : Sd b L st l) (h2 : Sd (b + D) L st2 l2) (j : Nat) (hj : j < l2.length) : shSum l st D l.length (st2 + j) = l2.getD j 0 := by
  rw [h.sh_all, h2.cnt j hj]
/-- indices at a lesser scale -/
theorem Sd.mapd {b t : Nat} {L : List Int} {st : Int} {l : List Nat} (h : Sd b (L.map fun x => x / ((2 ^ t : Nat) : Int)) st l) : Sd (t + b) L st l := by
  have hd : ∀ x : Int, x / ((2 ^ (t + b) : Nat) : Int) = x / ((2 ^ t : Nat) : Int) / ((2 ^ b : Nat) : Int) := fun x => pow_div x t b
  have hc : ∀ q, cntB L (t + b) q = cntB (L.map fun x => x / ((2 ^ t : Nat) : Int)) b q := fun q => by
    unfold cntB; rw [List.countP_map]; congr 1; funext x; show (_ == q) = (_ == q); rw [hd x]
  have hn : (L.map fun x => x / ((2 ^ t : Nat) : Int)) = [] ↔ L = [] := List.map_eq_nil_iff
  refine ⟨fun e => h.nil (hn.2 e), fun e => h.pos fun e' => e (hn.1 e'), fun j hj => by rw [hc]; exact h.cnt j hj, fun e => by rw [hc]; exact h.low fun e' => e (hn.1 e'), fun e => by rw [hc]; exact h.high fun e' => e (hn.1 e'), fun x hx => ?_⟩
  rw [hd x]; exact h.all _ (List.mem_map.2 ⟨x, hx, rfl⟩)
theorem FitB.mapd {size : Int} {b t : Nat} {L : List Int} (h : FitB size b (L.map fun x => x / ((2 ^ t : Nat) : Int))) : FitB size (t + b) L := by
  intro x hx y hy
  rw [pow_div x t b, pow_div y t b]
  exact h _ (List.mem_map.2 ⟨x, hx, rfl⟩) _ (List.mem_map.2 ⟨y, hy, rfl⟩)
theorem sqs_shift (n x t : Nat) : (Lg.sqs (n + t) x).1 / 2 ^ t = (Lg.sqs n x).1 := by
  induction t with
  | zero => simp
  | succ t ih =>
    have e : (Lg.sqs (n + (t + 1)) x).1 / 2 = (Lg.sqs (n + t) x).1 := by
      show (if 2 ^ 127 ≤ (Lg.sqs (n + t) x).2 * (Lg.sqs (n + t) x).2 then (2 * (Lg.sqs (n + t) x).1 + 1, (Lg.sqs (n + t) x).2 * (Lg.sqs (n + t) x).2 / 2 ^ 64) else (2 * (Lg.sqs (n + t) x).1, (Lg.sqs (n + t) x).2 * (Lg.sqs (n + t) x).2 / 2 ^ 63)).1 / 2 = _
      generalize Lg.sqs (n + t) x = r
      split
      · show (2 * r.1 + 1) / 2 = r.1; omega
      · show (2 * r.1) / 2 = r.1; omega
    rw [Nat.pow_succ, Nat.mul_comm, ← Nat.div_div_eq_div_mul, e, ih]
theorem idx_top (top S w : Nat) (hS : S ≤ top) : Lg.idx S w = Lg.idx top w / ((2 ^ (top - S) : Nat) : Int) := by
  rw [Lg.idx_shift top w S hS]
  unfold Lg.idx Lg.dig
  have := sqs_shift S ((2 ^ 52 + Lg.fr w) * 2048) (top - S)
  rw [show S + (top - S) = top from by omega] at this
  rw [this]
theorem pIs_top (top S : Nat) (hS : S ≤ top) (l : List Nat) : pIs S l = (pIs top l).map (fun x => x / ((2 ^ (top - S) : Nat) : Int)) ∧ nIs S l = (nIs top l).map (fun x => x / ((2 ^ (top - S) : Nat) : Int)) := by
  unfold pIs nIs
  rw [List.map_map, List.map_map]
  constructor
  · apply List.map_congr_left; intro v _; exact idx_top top S _ hS
  · apply List.map_congr_left; intro v _; exact idx_top top S _ hS
theorem BkOk.scales {top top' : Nat} {size scale S' : Int} {l : List Nat} {b b' : Nat} {s s' : Bk} (htt : top' ≤ top) (hS : S' ≤ scale) (hS' : S' ≤ top') (_hsc : scale ≤ top)
    (h : BkOk top size ((top : Int) - scale).toNat (pIs top l) (nIs top l) (zIs l) b s) (k : BkOk top' size ((top' : Int) - S').toNat (pIs top' l) (nIs top' l) (zIs l) b' s') :
    s'.sc ≤ s.sc ∧ Sd b (pIs top l) s.ps s.pl ∧ Sd (b + (s.sc - s'.sc).toNat) (pIs top l) s'.ps s'.pl ∧ Sd b (nIs top l) s.ns s.nl ∧ Sd (b + (s.sc - s'.sc).toNat) (nIs top l) s'.ns s'.nl := by
  obtain ⟨p1, p2⟩ := pIs_top top top' htt l
  have kp := k.sp; have kn := k.sn; have fp := k.fp; have fn := k.fn
  rw [p1] at kp fp
  rw [p2] at kn fn
  have e1 := h.sc
  have e2 := k.sc
  have e3 := k.le
  have e4 := h.le
  have hle : s'.sc ≤ s.sc := by
    refine Int.not_lt.1 fun hh => ?_
    exact absurd ⟨fp.mapd, fn.mapd⟩ (h.least (top - top' + b') (by omega) (by omega))
  have eD : b + (s.sc - s'.sc).toNat = top - top' + b' := by omega
  rw [eD]
  exact ⟨hle, h.sp, kp.mapd, h.sn, kn.mapd⟩
end Go.Proofs.YtlpddogcnpokfaaGreat
namespace Go.Proofs.YtlpddogcnpokfaaGreat
open Go.RowKit Go.Maps
/-- a map that is a function of whole numbers with so many keys -/
structure FnMap (F : Int → Nat) (Ks : List Int) (D : DataW Unit) : Prop where
  tidy : Tidy D
  val : ∀ i : Int, D.atKey (.int .i32 i) (.lit (.int .u64 0)) = .lit (.int .u64 ((F i : Nat) : Int))
  nd : Ks.Nodup
  size : Maps.size D = Ks.length
  mem : ∀ i : Int, Maps.has D (.int .i32 i) = decide (i ∈ Ks)
theorem FnMap.empty : FnMap (fun _ => 0) [] (.map []) := ⟨tidy_empty, fun _ => rfl, List.nodup_nil, rfl, fun _ => rfl⟩
theorem FnMap.put {F : Int → Nat} {Ks : List Int} {D : DataW Unit} (h : FnMap F Ks D) (i : Int) (v : Nat) :
    ∃ Ks', FnMap (fun k => if k = i then v else F k) Ks' (D.put (.int .i32 i) (.lit (.int .u64 (v : Int)))) ∧ ∀ k, k ∈ Ks' ↔ k = i ∨ k ∈ Ks := by
  have hk : WideAt.IsKeyLit (.int .i32 i) := trivial
  have hne : ∀ j, j ≠ i → (Lit.int .i32 j) ≠ .int .i32 i := fun j e he => by injection he with _ he; exact e he
  have hval : ∀ j : Int, (D.put (.int .i32 i) (.lit (.int .u64 (v : Int)))).atKey (.int .i32 j) (.lit (.int .u64 0)) = .lit (.int .u64 (((if j = i then v else F j) : Nat) : Int)) := fun j => by
    by_cases e : j = i
    · subst e; rw [if_pos rfl, atKey_put_same h.tidy.isMap hk]
    · rw [if_neg e, atKey_put_other (hne j e), h.val j]
  have hs := size_put (D := D) (k := .int .i32 i) h.tidy (.lit (.int .u64 (v : Int)))
  rw [h.mem i] at hs
  by_cases hm : i ∈ Ks
  · rw [decide_eq_true hm, if_pos rfl] at hs
    refine ⟨Ks, ⟨h.tidy.put hk _, hval, h.nd, hs.trans h.size, fun j => ?_⟩, fun k => ⟨fun h => .inr h, fun h => by rcases h with rfl | h <;> assumption⟩⟩
    by_cases e : j = i
    · subst e; rw [has_put_same h.tidy.isMap hk, decide_eq_true hm]
    · rw [has_put_other (hne j e), h.mem j]
  · rw [decide_eq_false hm, if_neg (by simp)] at hs
    refine ⟨i :: Ks, ⟨h.tidy.put hk _, hval, List.nodup_cons.2 ⟨hm, h.nd⟩, by rw [hs, h.size]; rfl, fun j => ?_⟩, fun k => by simp⟩
    by_cases e : j = i
    · subst e; rw [has_put_same h.tidy.isMap hk]; simp
    · rw [has_put_other (hne j e), h.mem j]; simp [e]
theorem FnMap.del {F : Int → Nat} {Ks : List Int} {D : DataW Unit} (h : FnMap F Ks D) (i : Int) :
    ∃ Ks', FnMap (fun k => if k = i then 0 else F k) Ks' (D.del (.int .i32 i)) ∧ ∀ k, k ∈ Ks' ↔ k ≠ i ∧ k ∈ Ks := by
  have hne : ∀ j, j ≠ i → (Lit.int .i32 j) ≠ .int .i32 i := fun j e he => by injection he with _ he; exact e he
  have hs := size_del (D := D) (k := .int .i32 i) h.tidy
  rw [h.mem i, h.size] at hs
  refine ⟨Ks.erase i, ⟨h.tidy.del _, fun j => ?_, h.nd.erase i, ?_, fun j => ?_⟩, fun k => h.nd.mem_erase_iff⟩
  · by_cases e : j = i
    · subst e; rw [if_pos rfl, atKey_del_same]; rfl
    · rw [if_neg e, atKey_del_other (hne j e), h.val j]
  · by_cases hm : i ∈ Ks
    · rw [List.length_erase_of_mem hm]; rw [decide_eq_true hm, if_pos rfl] at hs; omega
    · rw [List.erase_of_not_mem hm]; rw [decide_eq_false hm, if_neg (by simp)] at hs; omega
  · by_cases e : j = i
    · subst e; rw [has_del_same]; symm; rw [decide_eq_false_iff_not, h.nd.mem_erase_iff]; simp
    · rw [has_del_other (hne j e), h.mem j]; congr 1; apply propext; rw [h.nd.mem_erase_iff]; simp [e]
theorem law21 : Keyed Tryz.prog 21 := int_keyed Tryz.underlying21
theorem key21 (i : Int) (h1 : -2147483648 ≤ i) (h2 : i ≤ 2147483647) : keyOf Tryz.prog 21 (.int .i32 i) = some (.int .i32 i) := keyOf_int_mk Tryz.underlying21 (by simp [Lit.wf, IntKind.min, IntKind.max, IntKind.signed, IntKind.bits]; omega)
theorem shSum_le (l : List Nat) (st : Int) (D : Nat) (k : Int) : ∀ n, n ≤ l.length → shSum l st D n k ≤ (l.take n).sum := by
  intro n
  induction n with
  | zero => intro _; exact Nat.zero_le _
  | succ n ih =>
    intro hn
    rw [take_succ_sum l n (by omega)]
    unfold shSum
    have := ih (by omega)
    split <;> omega
/-- a side with its places shifted, as a map -/
def ShMap (w' : World) (m : Nat) (l : List Nat) (st : Int) (D : Nat) : Prop := ∃ n Dm Ks, w'.ownsMap Tryz.prog 21 (plainElem Tryz.prog 23) m n Dm ∧ n ≤ l.length ∧ FnMap (shSum l st D l.length) Ks Dm ∧ ∀ k, k ∈ Ks ↔ shHit st D l.length k
def ShPost (w : World) (l : List Nat) (st : Int) (D : Nat) (e : Ending) (w' : World) : Prop := e = .returned (.map (some w.heap.size)) ∧ Kept [] w w' ∧ ShMap w' w.heap.size l st D ∧ w.heap.size < w'.heap.size
theorem map_update_turn {w w1 : World} {m : Nat} (h : w.grownBy w1 (some m)) {W : World} (hk : Kept [] W w) (hm : W.heap.size ≤ m) : Kept [] W w1 := hk.trans2 (grownBy_kept h) (fun i hi => by right; simp at hi; omega)
set_option maxHeartbeats 2000000 in
set_option maxRecDepth 100000 in
theorem side14 (t : Nat) (st : Int) (D : Nat) (l : List Nat) (V : Value) (w : World) (ht : w.cell? ⟨t, 0, none⟩ = some (.int .i32 (D : Int))) (hl : SlAt w V (l.map U)) (hlen : l.length ≤ 200) (hsum : l.sum < 1000000) (hst : -1130000000 ≤ st ∧ st ≤ 1130000000) (hD : D ≤ 30) :
    Calls Tryz.prog 14 #[.int .i32 st, V, .pointer (some ⟨t, 0, none⟩)] w (ShPost w l st D) := by
  obtain ⟨p, c, rfl, hp⟩ := hl.read
  rw [List.length_map] at *
  have hmm := @run_makeMap Tryz.prog
  have HP := Lib.hid (And.intro ht (And.intro hp (And.intro hlen (And.intro hsum (And.intro hst hD)))))
  obtain ⟨m0, hm0⟩ : ∃ m0, m0 = w.heap.size := ⟨_, rfl⟩
  have hown0 : (w.alloc (.map #[] 0)).ownsMap (H := Unit) Tryz.prog 21 (plainElem Tryz.prog 23) m0 0 (.map []) := by rw [hm0]; exact World.ownsMap_made (H := Unit) w Tryz.prog 21 (plainElem Tryz.prog 23)
  have hlt0 : m0 < (w.alloc (.map #[] 0)).heap.size := by rw [hm0]; simp
  have HO := Lib.hid (And.intro hown0 (And.intro hlt0 hm0))
  have HK0 := Lib.hid (show Kept [] w (w.alloc (.map #[] 0)) from (Kept.refl _ _).alloc _)
  clear hp hlen hsum hst hD hl ht hown0 hlt0 hm0
  go_enter Tryz.func14, Tryz.ntmps14
  go_wp2_with fail
  rw [← HO.out.2.2]
  go_loopw [12] (fun i wr => ∃ m : Nat, m ≤ l.length ∧ i = .int .i64 (m : Int) ∧ (∃ n Dm Ks, wr.ownsMap Tryz.prog 21 (plainElem Tryz.prog 23) m0 n Dm ∧ n ≤ m ∧ FnMap (shSum l st D m) Ks Dm ∧ ∀ k, k ∈ Ks ↔ shHit st D m k) ∧ Kept [] w wr ∧ m0 < wr.heap.size) (fun i _ => l.length - (intOf i).toNat)
  case atStart => exact ⟨0, by omega, rfl, ⟨0, .map [], [], HO.out.1, Nat.le_refl _, FnMap.empty, fun k => ⟨fun h => (by cases h), fun ⟨i, hi, _⟩ => (by omega)⟩⟩, HK0.out, HO.out.2.1⟩
  case round =>
  obtain ⟨m, hm, rfl, ⟨n, Dm, Ks, hown, hn, hfm, hks⟩, hk, hlt⟩ := hrel
  by_cases hmlt : m < l.length
  · obtain ⟨x, hx⟩ : ∃ x, x = l.getD m 0 := ⟨_, rfl⟩
    have hgx : (l.map U)[m]? = some (U x) := by rw [List.getElem?_map, List.getElem?_eq_getElem hmlt, hx, List.getD_eq_getElem?_getD, List.getElem?_eq_getElem hmlt]; rfl
    obtain ⟨a1, rfl, hcx⟩ := HP.out.2.1 m _ hgx
    have hcx' : wr.cell? (a1.add m) = some (.int .u64 (x : Int)) := (cellKept hk (cell_lt hcx) (by simp)).trans hcx
    have hct : wr.cell? ⟨t, 0, none⟩ = some (.int .i32 (D : Int)) := (hk.cell (cell_lt HP.out.1) (by simp)).trans HP.out.1
    obtain ⟨_, _, h200, hsum, hst, hD⟩ := HP.out
    obtain ⟨q, hq⟩ : ∃ q, q = (st + (m : Int)) / ((2 ^ D : Nat) : Int) := ⟨_, rfl⟩
    have hpow : ((2 ^ D : Nat) : Int) = (2 : Int) ^ D := by push_cast; rfl
    have hq' : (st + (m : Int)) / (2 : Int) ^ D = q := by rw [hq, hpow]
    have hp0 : (0 : Int) < ((2 ^ D : Nat) : Int) := by have := Nat.two_pow_pos D; omega
    have hp1 : (1 : Int) ≤ ((2 ^ D : Nat) : Int) := by omega
    have hqr := div_range (st + (m : Int)) (2 ^ D) 1130000200 (by omega) (by omega) (Nat.two_pow_pos D)
    rw [← hq] at hqr
    have hkey := key21 q (by omega) (by omega)
    have y1 : IntKind.i32.wrap (m : Int) = (m : Int) := IntWalk.i32_in _ (by omega)
    have y2 : IntKind.i32.wrap (st + (m : Int)) = st + (m : Int) := IntWalk.i32_in _ (by omega)
    have y3 : IntKind.i64.wrap ((m : Int) + 1) = (m : Int) + 1 := IntWalk.i64_in _ (by omega)
    have y4 : (m : Int) < (l.length : Int) := by omega
    have hmin : min D 32 = D := by omega
    have hat := hfm.val q
    obtain ⟨F, hF⟩ : ∃ F, F = shSum l st D m q := ⟨_, rfl⟩
    rw [← hF] at hat
    have hFb : F + x < 1000000 := by
      have h1 := shSum_le l st D q m hm
      have h2 := take_succ_sum l m hmlt
      have h3 := take_sum_le l (m + 1) l.length (by omega)
      rw [List.take_length] at h3
      omega
    have hadd : IntKind.u64.wrap ((F : Int) + (x : Int)) = (F : Int) + (x : Int) := by rw [IntKind.wrap_u64]; omega
    have hwf : (Lit.int .u64 ((F : Int) + (x : Int))).wf = true := WalkArith.wf_u64 (by omega)
    have hnm : n < maxLen := by unfold maxLen; omega
    have hput := hfm.put q (F + x)
    have HX := Lib.hid (And.intro hput (And.intro hks (And.intro hn (And.intro hq (And.intro hF (And.intro hx (And.intro hfm hlt)))))))
    have HK := Lib.hid hk
    have HOW := Lib.hid hown
    clear hput hks hn hq hF hx hlt hk hown hcx hgx hfm h200 hsum hst hD hpow hp0 hp1 hqr hFb
    go_wp2_with (first
      | (at_lookup; refine wpList_lookup_own_int _ rfl _ _ 35 rfl 21 23 .u64 law21 Tryz.underlying35 Tryz.underlying23 (zero23 _) m0 n Dm rfl HOW.out _ _ rfl hkey ?_; intro c' hat' _; obtain rfl : c' = (F : Int) := litU_inj (hat'.symm.trans hat))
      | (at_mapUpdate; refine wpList_mapUpdate_own _ rfl _ _ _ 35 rfl 21 23 law21 Tryz.underlying35 _ m0 n Dm rfl HOW.out hnm _ _ _ rfl rfl hkey _ [] (plainElem_int Tryz.underlying23 hwf) ?_; intro w1 hown2 hgrow1; have HW := Lib.hid (And.intro hown2 hgrow1); clear hown2 hgrow1))
    go_roundw
    case rel =>
      obtain ⟨⟨Ks', hf', hk'⟩, hks, hn, hq, hF, hx, hfm, hlt⟩ := HX.out
      refine ⟨m + 1, by omega, by go_num, ⟨n + 1, _, Ks', HW.out.1, by omega, ?_, ?_⟩, map_update_turn HW.out.2 HK.out (by rw [HO.out.2.2]; exact Nat.le_refl _), Nat.lt_of_lt_of_le hlt HW.out.2.size⟩
      · have e : (fun k => if k = q then F + x else shSum l st D m k) = shSum l st D (m + 1) := by
          funext k
          show _ = shSum l st D m k + if (st + m) / ((2 ^ D : Nat) : Int) = k then l.getD m 0 else 0
          rw [← hq, ← hx]
          by_cases h : k = q
          · subst h; rw [if_pos rfl, if_pos rfl, hF]
          · rw [if_neg h, if_neg (fun e => h e.symm)]; rfl
        rw [e] at hf'
        have e2 : ((F + x : Nat) : Int) = (F : Int) + (x : Int) := by push_cast; rfl
        rw [e2] at hf'
        exact hf'
      · intro k
        rw [hk', hks]
        unfold shHit
        constructor
        · rintro (rfl | ⟨i, hi, e⟩)
          · exact ⟨m, by omega, hq.symm⟩
          · exact ⟨i, by omega, e⟩
        · rintro ⟨i, hi, e⟩
          by_cases him : i = m
          · left; rw [← e, him, hq]
          · right; exact ⟨i, by omega, e⟩
    case measure => simp [intOf]; omega
  · have hml : m = l.length := by omega
    subst hml
    have y4 : ¬ (l.length : Int) < (l.length : Int) := by omega
    have HX := Lib.hid (show ShMap wr m0 l st D ∧ Kept [] w wr ∧ m0 < wr.heap.size from ⟨⟨n, Dm, Ks, hown, hn, hfm, hks⟩, hk, hlt⟩)
    clear hown hn hfm hks hk hlt
    go_wp2_with fail
    go_ret
    rw [HO.out.2.2] at HX ⊢
    exact ⟨rfl, HX.out.2.1, HX.out.1, HX.out.2.2⟩
end Go.Proofs.YtlpddogcnpokfaaGreat
namespace Go.Proofs.YtlpddogcnpokfaaGreat
open Go.RowKit Go.Maps
theorem turned_kept {w w' : World} {b : Nat} (h : w.mapTurned w' b) : Kept [b] w w' := by
  obtain ⟨es, clock, es', clock', hb, rfl⟩ := h
  refine ⟨rfl, rfl, rfl, ?_, fun i hi hn => ?_⟩
  · show w.heap.size ≤ (w.heap.setIfInBounds b _).size; simp
  · have : i ≠ b := by simpa using hn
    show (w.heap.setIfInBounds b _)[i]? = w.heap[i]?
    rw [Array.getElem?_setIfInBounds_ne (fun e => this e.symm)]
theorem not_map {w : World} {a : Addr} {v : Value} {m : Nat} {es : Array MapEntry} {c : Nat} (h : w.cell? a = some v) (hm : w.heap[m]? = some (.map es c)) : a.block ≠ m := by
  rintro rfl
  unfold World.cell? at h
  rw [hm] at h; cases h
set_option maxHeartbeats 2000000 in
set_option maxRecDepth 100000 in
theorem same15 (m0 n0 : Nat) (st : Int) (F0 : Int → Nat) (Ks0 : List Int) (D0 : DataW Unit) (l : List Nat) (V : Value) (w : World) (ho : w.ownsMap Tryz.prog 21 (plainElem Tryz.prog 23) m0 n0 D0) (hf : FnMap F0 Ks0 D0)
    (h1 : ∀ j, j < l.length → F0 (st + j) = l.getD j 0) (h2 : ∀ k, k ∈ Ks0 → st ≤ k ∧ k < st + l.length) (hl : SlAt w V (l.map U)) (hlen : l.length ≤ 200) (hst : -1130000000 ≤ st ∧ st ≤ 1130000000) :
    Calls Tryz.prog 15 #[.map (some m0), .int .i32 st, V] w fun e w' => e = .returned (.bool true) ∧ Kept [m0] w w' := by
  obtain ⟨p, c, rfl, hp⟩ := hl.read
  rw [List.length_map] at *
  obtain ⟨es, ck, hmap, _⟩ := id ho
  have HP := Lib.hid (And.intro hp (And.intro hlen (And.intro hst (And.intro h1 (And.intro h2 (And.intro hmap (And.intro ho hf)))))))
  clear hp hlen hst hl ho hf h1 h2 hmap
  go_enter Tryz.func15, Tryz.ntmps15
  go_wp2_with fail
  go_loopw [11] (fun i wr => ∃ m : Nat, m ≤ l.length ∧ i = .int .i64 (m : Int) ∧ (∃ Dm Ks, wr.ownsMap Tryz.prog 21 (plainElem Tryz.prog 23) m0 n0 Dm ∧ FnMap (fun k => if st ≤ k ∧ k < st + m then 0 else F0 k) Ks Dm ∧ ∀ k, k ∈ Ks ↔ k ∈ Ks0 ∧ ¬ (st ≤ k ∧ k < st + m)) ∧ Kept [m0] w wr) (fun i _ => l.length - (intOf i).toNat)
  case atStart =>
    refine ⟨0, by omega, rfl, ⟨D0, Ks0, HP.out.2.2.2.2.2.2.1, ?_, fun k => ⟨fun h => ⟨h, by omega⟩, fun h => h.1⟩⟩, Kept.refl _ _⟩
    have e : (fun k => if st ≤ k ∧ k < st + ((0 : Nat) : Int) then 0 else F0 k) = F0 := by funext k; rw [if_neg (by omega)]
    rw [e]; exact HP.out.2.2.2.2.2.2.2
  case round =>
  obtain ⟨m, hm, rfl, ⟨Dm, Ks, hown, hfm, hks⟩, hk⟩ := hrel
  by_cases hmlt : m < l.length
  · obtain ⟨x, hx⟩ : ∃ x, x = l.getD m 0 := ⟨_, rfl⟩
    have hgx : (l.map U)[m]? = some (U x) := by rw [List.getElem?_map, List.getElem?_eq_getElem hmlt, hx, List.getD_eq_getElem?_getD, List.getElem?_eq_getElem hmlt]; rfl
    obtain ⟨a1, rfl, hcx⟩ := HP.out.1 m _ hgx
    have hnb := not_map hcx HP.out.2.2.2.2.2.1
    have hcx' : wr.cell? (a1.add m) = some (.int .u64 (x : Int)) := (cellKept hk (cell_lt hcx) (by simpa using hnb)).trans hcx
    obtain ⟨_, h200, hst, h1, h2, _⟩ := HP.out
    have hkey := key21 (st + m) (by omega) (by omega)
    have y1 : IntKind.i32.wrap (m : Int) = (m : Int) := IntWalk.i32_in _ (by omega)
    have y2 : IntKind.i32.wrap (st + (m : Int)) = st + (m : Int) := IntWalk.i32_in _ (by omega)
    have y3 : IntKind.i64.wrap ((m : Int) + 1) = (m : Int) + 1 := IntWalk.i64_in _ (by omega)
    have y4 : (m : Int) < (l.length : Int) := by omega
    have hat := hfm.val (st + m)
    simp only [show ¬ (st ≤ st + (m : Int) ∧ st + (m : Int) < st + (m : Int)) from by omega, if_false] at hat
    rw [h1 m hmlt, ← hx] at hat
    have hdel := hfm.del (st + m)
    have HX := Lib.hid (And.intro hdel hks)
    have HK := Lib.hid hk
    have HOW := Lib.hid hown
    clear hdel hks hk hown hcx hgx hfm h200 hst h1 h2 hx hnb
    go_wp2_with (first
      | (at_lookup; refine wpList_lookup_own_int _ rfl _ _ 35 rfl 21 23 .u64 law21 Tryz.underlying35 Tryz.underlying23 (zero23 _) m0 n0 Dm rfl HOW.out _ _ rfl hkey ?_; intro c' hat' _; obtain rfl : c' = (x : Int) := litU_inj (hat'.symm.trans hat))
      | (at_delete; refine wpList_delete_own _ rfl _ _ 35 21 rfl 23 law21 Tryz.underlying35 _ m0 n0 Dm rfl HOW.out _ _ rfl hkey ?_; intro w1 hown1 hturn1; have HW := Lib.hid (And.intro hown1 hturn1); clear hown1 hturn1))
    go_roundw
    case rel =>
      obtain ⟨⟨Ks', hf', hk'⟩, hks⟩ := HX.out
      refine ⟨m + 1, by omega, by go_num, ⟨_, Ks', HW.out.1, ?_, ?_⟩, HK.out.trans (turned_kept HW.out.2)⟩
      · have e : (fun k => if k = st + (m : Int) then 0 else if st ≤ k ∧ k < st + (m : Int) then 0 else F0 k) = (fun k => if st ≤ k ∧ k < st + ((m + 1 : Nat) : Int) then 0 else F0 k) := by
          funext k
          by_cases h : k = st + (m : Int)
          · rw [if_pos h, if_pos (by omega)]
          · rw [if_neg h]
            by_cases h' : st ≤ k ∧ k < st + (m : Int)
            · rw [if_pos h', if_pos (by omega)]
            · rw [if_neg h', if_neg (by omega)]
        rw [e] at hf'
        exact hf'
      · intro k
        rw [hk', hks]
        constructor
        · rintro ⟨e, h, h'⟩; exact ⟨h, by omega⟩
        · rintro ⟨h, h'⟩; exact ⟨by omega, h, by omega⟩
    case measure => simp [intOf]; omega
  · have hml : m = l.length := by omega
    subst hml
    have y4 : ¬ (l.length : Int) < (l.length : Int) := by omega
    have hK0 : Ks = [] := by
      cases Ks with
      | nil => rfl
      | cons k Ks =>
        have := (hks k).1 List.mem_cons_self
        exact absurd (HP.out.2.2.2.2.1 k this.1) this.2
    have hsz : Maps.size Dm = 0 := by rw [hfm.size, hK0]; rfl
    have HOW := Lib.hid hown
    have HK := Lib.hid hk
    clear hown hfm hks hk hK0
    go_wp2_with (at_len; refine wpList_len_own _ rfl _ 35 rfl 21 23 Tryz.underlying35 (plainElem Tryz.prog 23) m0 n0 Dm rfl HOW.out ?_)
    go_ret
    exact ⟨rfl, HK.out⟩
end Go.Proofs.YtlpddogcnpokfaaGreat
namespace Go.Proofs.YtlpddogcnpokfaaGreat
open Go.RowKit Go.Maps
set_option maxHeartbeats 4000000 in
set_option maxRecDepth 100000 in
theorem scales5 (size scale less : Int) (l : List Nat) (V : Value) (w : World) (hl : SlAt w V (l.map Fl)) (hlt : ∀ v, v ∈ l → v < 18446744073709551616) (ht : 0 ≤ less ∧ less ≤ 255) : Calls Tryz.prog 5 #[.int .i32 size, .int .i32 scale, V, .int .u8 less] w (LawT w) := by
  obtain ⟨p, c, rfl, hp⟩ := hl.read
  rw [List.length_map] at *
  clear hp
  by_cases hbig : (2147483647 : Int) < (l.length : Int)
  · go_enter Tryz.func5, Tryz.ntmps5
    go_wp2_with fail
    go_ret
    exact ⟨rfl, Kept.refl _ _⟩
  have hbg : decide ((2147483647 : Int) < (l.length : Int)) = false := decide_eq_false hbig
  have HL := Lib.hid (And.intro hl (And.intro hlt ht))
  clear hbig hl hlt ht
  go_enter Tryz.func5, Tryz.ntmps5
  go_wp2_with fail
  refine (one10 size scale l _ w HL.out.1 HL.out.2.1).mono ?_
  rintro e w1 ⟨cs, asked, rfl, h11, hone, hk1, h⟩
  have HK1 := Lib.hid hk1
  have H26 := Lib.hid (MapKept.heap_alloc w1 (.cells exZero.toArray 26)).1
  have HC := Lib.hid (And.intro h11 (And.intro hone (show exZero.toArray.size = cs.toArray.size from by rw [List.size_toArray, List.size_toArray, h11]; rfl)))
  obtain ⟨W2, hW2⟩ : ∃ W, W = (w1.alloc (.cells exZero.toArray 26)).setRow w1.heap.size cs.toArray := ⟨_, rfl⟩
  have hk2 : Kept [] w1 W2 := by rw [hW2]; exact setRow_kept ((Kept.refl _ _).alloc _) (.inr (Nat.le_refl _))
  have HS2 := Lib.hid (HL.out.1.kept (hk1.trans hk2))
  have HK2 := Lib.hid (HK1.out.trans hk2)
  obtain ⟨P, hP⟩ : ∃ P, P = w1.heap.size := ⟨_, rfl⟩
  have hpt : asked = true → ∃ s r mn mx pa na ca pb nb cb, PtKnow size scale l s mn mx ∧ PtMem W2 P s l.length r mn mx pa na ca pb nb cb := by
    intro ha
    rcases h with ⟨h', _⟩ | ⟨_, hask, hone'⟩
    · rw [ha] at h'; cases h'
    · rw [hW2, hP]; exact hone'.lay hask
  have HP1 := Lib.hid hpt
  clear h11 hone hk1 hk2 h hpt HK1
  go_upto_region 4 with (refine wpList_store_row rfl 26 _ _ rfl w1.heap.size _ rfl rfl 26 exZero.toArray H26.out (sz26 HC.out.1) HC.out.2.2 HC.out.2.1 ?_)
  rw [show ((w1.alloc (.cells #[.bool false, .int .u64 0, .int .u64 0, .int .u64 0, .int .u64 0, .int .i32 0, .int .u64 0, .int .i32 0, .slice none 0 0, .int .i32 0, .slice none 0 0] 26)).setRow w1.heap.size cs.toArray) = W2 from hW2.symm]
  clear hW2 H26 HC
  rw [← hP]
  clear hP
  go_wp2_with fail
  generalize hS2 : wrap32 (scale - wrap32 (less.tmod 31)) = S2
  have HS := Lib.hid hS2
  clear hS2
  refine (one10 size S2 l _ W2 HS2.out HL.out.2.1).mono ?_
  rintro e w3 ⟨cs2, also, rfl, h11, hone, hk3, h⟩
  have H26 := Lib.hid (MapKept.heap_alloc w3 (.cells exZero.toArray 26)).1
  have HC := Lib.hid (And.intro h11 (And.intro hone (show exZero.toArray.size = cs2.toArray.size from by rw [List.size_toArray, List.size_toArray, h11]; rfl)))
  obtain ⟨W4, hW4⟩ : ∃ W, W = (w3.alloc (.cells exZero.toArray 26)).setRow w3.heap.size cs2.toArray := ⟨_, rfl⟩
  have hk4 : Kept [] w3 W4 := by rw [hW4]; exact setRow_kept ((Kept.refl _ _).alloc _) (.inr (Nat.le_refl _))
  have HK4 := Lib.hid (HK2.out.trans (hk3.trans hk4))
  have HK24 := Lib.hid (hk3.trans hk4)
  obtain ⟨Q, hQ⟩ : ∃ Q, Q = w3.heap.size := ⟨_, rfl⟩
  have hpt : also = true → ∃ s r mn mx pa na ca pb nb cb, PtKnow size S2 l s mn mx ∧ PtMem W4 Q s l.length r mn mx pa na ca pb nb cb := by
    intro ha
    rcases h with ⟨h', _⟩ | ⟨_, hask, hone'⟩
    · rw [ha] at h'; cases h'
    · rw [hW4, hQ]; exact hone'.lay hask
  have HP2 := Lib.hid hpt
  clear h11 hone hk3 hk4 h hpt HK2 HS2
  go_upto_region 5 with (refine wpList_store_row rfl 26 _ _ rfl w3.heap.size _ rfl rfl 26 exZero.toArray H26.out (sz26 HC.out.1) HC.out.2.2 HC.out.2.1 ?_)
  rw [show ((w3.alloc (.cells #[.bool false, .int .u64 0, .int .u64 0, .int .u64 0, .int .u64 0, .int .i32 0, .int .u64 0, .int .i32 0, .slice none 0 0, .int .i32 0, .slice none 0 0] 26)).setRow w3.heap.size cs2.toArray) = W4 from hW4.symm]
  clear hW4 H26 HC
  rw [← hQ]
  clear hQ
  by_cases hb : asked = true ∧ also = true
  case neg =>
    have hcase : asked = false ∨ (asked = true ∧ also = false) := by cases asked <;> cases also <;> simp_all
    clear hb
    rcases hcase with rfl | ⟨rfl, rfl⟩
    all_goals
      go_wp2_with fail
      refine (awake _).mono ?_; rintro e w9 ⟨rfl, hk9⟩
      have HK9 := Lib.hid (HK4.out.trans hk9)
      clear hk9
      go_wp2_with fail
      go_ret
      exact ⟨rfl, HK9.out⟩
  obtain ⟨rfl, rfl⟩ := hb
  obtain ⟨s, r, mn, mx, pa, na, ca, pb, nb, cb, hkn, hpm0⟩ := HP1.out rfl
  obtain ⟨s2, r2, mn2, mx2, pa2, na2, ca2, pb2, nb2, cb2, hkn2, B⟩ := HP2.out rfl
  have A := hpm0.kept HK24.out
  obtain ⟨b, hbk⟩ := hkn.bk
  obtain ⟨b2, hbk2⟩ := hkn2.bk
  have hSle : S2 ≤ scale := by
    have h1 := HS.out
    have h2 := HL.out.2.2
    have h3 := hkn.ask.1
    have h4 : (less.tmod 31) = less % 31 := Int.tmod_eq_emod_of_nonneg h2.1
    unfold wrap32 at h1
    rw [h4] at h1
    omega
  obtain ⟨g1, g2, g3, g4, g5⟩ := hbk.scales (by unfold topOf; omega) hSle (by unfold topOf; omega) (by unfold topOf; omega) hbk2
  have a5 := A.c5; have a7 := A.c7; have a8 := A.c8; have a9 := A.c9; have a10 := A.c10
  have b5 := B.c5; have b7 := B.c7; have b8 := B.c8; have b9 := B.c9; have b10 := B.c10
  obtain ⟨D, hD⟩ : ∃ D, D = (s.sc - s2.sc).toNat := ⟨_, rfl⟩
  have hDi : s.sc - s2.sc = (D : Int) := by omega
  rw [← hD] at g3 g5
  have hD30 : D ≤ 30 := by have := hkn.lim.sc2; have := hkn2.lim.sc1; omega
  have HA := Lib.hid (And.intro A.oa (And.intro A.ob (And.intro B.oa B.ob)))
  have HLM := Lib.hid (And.intro hkn.lim (And.intro hkn2.lim hD30))
  have HG := Lib.hid (And.intro g2 (And.intro g3 (And.intro g4 g5)))
  obtain ⟨sc, hsc⟩ : ∃ z, z = s.sc := ⟨_, rfl⟩
  obtain ⟨sc2, hsc2⟩ : ∃ z, z = s2.sc := ⟨_, rfl⟩
  obtain ⟨ps, hps⟩ : ∃ z, z = s.ps := ⟨_, rfl⟩
  obtain ⟨ns, hns⟩ : ∃ z, z = s.ns := ⟨_, rfl⟩
  obtain ⟨ps2, hps2⟩ : ∃ z, z = s2.ps := ⟨_, rfl⟩
  obtain ⟨ns2, hns2⟩ : ∃ z, z = s2.ns := ⟨_, rfl⟩
  rw [← hsc] at a5 hDi; rw [← hsc2] at b5 hDi
  rw [← hps] at a7; rw [← hns] at a9; rw [← hps2] at b7; rw [← hns2] at b9
  have HE := Lib.hid (And.intro hps (And.intro hns (And.intro hps2 hns2)))
  have hgt : decide (sc < sc2) = false := decide_eq_false (by omega)
  have hw : IntKind.i32.wrap (sc - sc2) = (D : Int) := by rw [hDi]; exact IntWalk.i32_in _ (by omega)
  clear A B hbk hbk2 hkn hkn2 hpm0 HK24 HP1 HP2 hSle g1 g2 g3 g4 g5 hD hDi hsc hsc2 hps hns hps2 hns2 HL HS hD30
  have hPl : P < W4.heap.size := cell_lt a5
  have hQl : Q < W4.heap.size := cell_lt b5
  go_wp2_with fail
  obtain ⟨t, ht⟩ : ∃ t, t = W4.heap.size := ⟨_, rfl⟩
  obtain ⟨W5, hW5⟩ : ∃ W, W = W4.alloc (.cells #[.int .i32 (D : Int)] 21) := ⟨_, rfl⟩
  have hk5 : Kept [] W4 W5 := by rw [hW5]; exact (Kept.refl _ _).alloc _
  have htc : W5.cell? ⟨t, 0, none⟩ = some (.int .i32 (D : Int)) := by rw [hW5, ht]; go_simp
  rw [← hW5, ← ht]
  have k5 : ∀ (B : Nat) i v, W4.cell? ⟨B, i, none⟩ = some v → W5.cell? ⟨B, i, none⟩ = some v := fun B i v h => (hk5.cell (cell_lt h) (by simp)).trans h
  replace a7 := k5 _ _ _ a7; replace a8 := k5 _ _ _ a8; replace a9 := k5 _ _ _ a9; replace a10 := k5 _ _ _ a10
  replace b7 := k5 _ _ _ b7; replace b8 := k5 _ _ _ b8; replace b9 := k5 _ _ _ b9; replace b10 := k5 _ _ _ b10
  have KS := Lib.hid (show ∀ w', Kept [] W5 w' → w'.cell? ⟨P, 7, none⟩ = some (.int .i32 ps) ∧ w'.cell? ⟨P, 8, none⟩ = some (.slice pa na ca) ∧ w'.cell? ⟨P, 9, none⟩ = some (.int .i32 ns) ∧ w'.cell? ⟨P, 10, none⟩ = some (.slice pb nb cb) ∧ w'.cell? ⟨Q, 7, none⟩ = some (.int .i32 ps2) ∧ w'.cell? ⟨Q, 8, none⟩ = some (.slice pa2 na2 ca2) ∧ w'.cell? ⟨Q, 9, none⟩ = some (.int .i32 ns2) ∧ w'.cell? ⟨Q, 10, none⟩ = some (.slice pb2 nb2 cb2) from fun w' hk => by
    have k : ∀ (B : Nat) i v, W5.cell? ⟨B, i, none⟩ = some v → w'.cell? ⟨B, i, none⟩ = some v := fun B i v h => (hk.cell (cell_lt h) (by simp)).trans h
    exact ⟨k _ _ _ a7, k _ _ _ a8, k _ _ _ a9, k _ _ _ a10, k _ _ _ b7, k _ _ _ b8, k _ _ _ b9, k _ _ _ b10⟩)
  have HT := Lib.hid htc
  have HA5 := Lib.hid (And.intro (SlAt.own (own_keptK HA.out.1 hk5 (by simp))) (And.intro (SlAt.own (own_keptK HA.out.2.1 hk5 (by simp))) (And.intro (SlAt.own (own_keptK HA.out.2.2.1 hk5 (by simp))) (SlAt.own (own_keptK HA.out.2.2.2 hk5 (by simp))))))
  have HK5 := Lib.hid (HK4.out.trans hk5)
  have HW := Lib.hid (show Kept [] W5 W5.drew from (Kept.refl _ _).dr ⟨1, rfl⟩)
  have SA : Sd b (pIs (topOf scale) l) ps s.pl ∧ Sd (b + D) (pIs (topOf scale) l) ps2 s2.pl := by rw [HE.out.1, HE.out.2.2.1]; exact ⟨HG.out.1, HG.out.2.1⟩
  have SB : Sd b (nIs (topOf scale) l) ns s.nl ∧ Sd (b + D) (nIs (topOf scale) l) ns2 s2.nl := by rw [HE.out.2.1, HE.out.2.2.2]; exact ⟨HG.out.2.2.1, HG.out.2.2.2⟩
  have F14a := Lib.hid (show ∀ w', Kept [] W5 w' → Calls Tryz.prog 14 #[.int .i32 ps, .slice pa na ca, .pointer (some ⟨t, 0, none⟩)] w' (ShPost w' s.pl ps D) from fun w' hk =>
    side14 t ps D s.pl (.slice pa na ca) w' ((hk.cell (cell_lt HT.out) (by simp)).trans HT.out) (HA5.out.1.kept hk) (by have := HLM.out.1.pl; omega) (by have := HLM.out.1.sum; omega) (by have := HE.out; have := HLM.out.1; obtain ⟨_, _, q1, q2, q3, q4, _, _, _⟩ := this; omega) HLM.out.2.2)
  have F14b := Lib.hid (show ∀ w', Kept [] W5 w' → Calls Tryz.prog 14 #[.int .i32 ns, .slice pb nb cb, .pointer (some ⟨t, 0, none⟩)] w' (ShPost w' s.nl ns D) from fun w' hk =>
    side14 t ns D s.nl (.slice pb nb cb) w' ((hk.cell (cell_lt HT.out) (by simp)).trans HT.out) (HA5.out.2.1.kept hk) (by have := HLM.out.1.nl; omega) (by have := HLM.out.1.sum; omega) (by have := HE.out; have := HLM.out.1; obtain ⟨_, _, q1, q2, q3, q4, _, _, _⟩ := this; omega) HLM.out.2.2)
  have F15a := Lib.hid (show ∀ w' m, Kept [] W5 w' → ShMap w' m s.pl ps D → W5.heap.size ≤ m → Calls Tryz.prog 15 #[.map (some m), .int .i32 ps2, .slice pa2 na2 ca2] w' fun e w'' => e = .returned (.bool true) ∧ Kept [] W5 w'' from fun w' m hk hm hge => by
    obtain ⟨n, Dm, Ks, ho, hn, hf, hks⟩ := hm
    refine (same15 m n ps2 _ Ks Dm s2.pl (.slice pa2 na2 ca2) w' ho hf (fun j hj => ?_) (fun k hk' => ?_) (HA5.out.2.2.1.kept hk) (by have := HLM.out.2.1.pl; omega) (by have := HE.out; have := HLM.out.2.1; obtain ⟨_, _, q1, q2, q3, q4, _, _, _⟩ := this; omega)).mono ?_
    · have := SA.1.sh_cnt SA.2 j hj
      exact this
    · have := SA.1.sh_in SA.2 k ((hks k).1 hk')
      exact this
    · rintro e w'' ⟨rfl, hk2⟩
      exact ⟨rfl, hk.trans2 hk2 (fun i hi => by right; simp at hi; omega)⟩)
  have F15b := Lib.hid (show ∀ w' m, Kept [] W5 w' → ShMap w' m s.nl ns D → W5.heap.size ≤ m → Calls Tryz.prog 15 #[.map (some m), .int .i32 ns2, .slice pb2 nb2 cb2] w' fun e w'' => e = .returned (.bool true) ∧ Kept [] W5 w'' from fun w' m hk hm hge => by
    obtain ⟨n, Dm, Ks, ho, hn, hf, hks⟩ := hm
    refine (same15 m n ns2 _ Ks Dm s2.nl (.slice pb2 nb2 cb2) w' ho hf (fun j hj => ?_) (fun k hk' => ?_) (HA5.out.2.2.2.kept hk) (by have := HLM.out.2.1.nl; omega) (by have := HE.out; have := HLM.out.2.1; obtain ⟨_, _, q1, q2, q3, q4, _, _, _⟩ := this; omega)).mono ?_
    · have := SB.1.sh_cnt SB.2 j hj
      exact this
    · have := SB.1.sh_in SB.2 k ((hks k).1 hk')
      exact this
    · rintro e w'' ⟨rfl, hk2⟩
      exact ⟨rfl, hk.trans2 hk2 (fun i hi => by right; simp at hi; omega)⟩)
  clear SA SB
  obtain ⟨x1, x2, x3, x4, x5, x6, x7, x8⟩ := KS.out _ HW.out
  clear ht hW5 hk5 htc k5 a5 b5 hPl hQl hw HK4 HA
  go_region_held3 (fun w' => w'.cell? ⟨P, 7, none⟩ = some (.int .i32 ps) ∧ w'.cell? ⟨P, 8, none⟩ = some (.slice pa na ca) ∧ w'.cell? ⟨P, 9, none⟩ = some (.int .i32 ns) ∧ w'.cell? ⟨P, 10, none⟩ = some (.slice pb nb cb) ∧ w'.cell? ⟨Q, 7, none⟩ = some (.int .i32 ps2) ∧ w'.cell? ⟨Q, 8, none⟩ = some (.slice pa2 na2 ca2) ∧ w'.cell? ⟨Q, 9, none⟩ = some (.int .i32 ns2) ∧ w'.cell? ⟨Q, 10, none⟩ = some (.slice pb2 nb2 cb2))
    (exact KS.out _ HW.out)
    (first
      | (go_at_call 11; refine (awake _).mono ?_; rintro e w7 ⟨rfl, hk⟩
         replace HW := Lib.hid (HW.out.trans hk)
         clear hk)
      | (go_at_call 14; first
          | with_reducible refine (F14a.out _ HW.out).mono ?_
          | with_reducible refine (F14b.out _ HW.out).mono ?_
         rintro e w8 ⟨rfl, hk, hm, hlt⟩
         have HM := Lib.hid (And.intro hm HW.out.size)
         replace HW := Lib.hid (HW.out.trans hk)
         clear hk hm hlt)
      | (go_at_call 15; first
          | with_reducible refine (F15a.out _ _ HW.out HM.out.1 HM.out.2).mono ?_
          | with_reducible refine (F15b.out _ _ HW.out HM.out.1 HM.out.2).mono ?_
         rintro e w9 ⟨rfl, hk⟩
         clear HW
         have HW := Lib.hid hk
         clear hk HM))
  (try simp only [Exit.then])
  go_wp2_with fail
  go_ret
  exact ⟨rfl, HK5.out.trans HW.out⟩
end Go.Proofs.YtlpddogcnpokfaaGreat
