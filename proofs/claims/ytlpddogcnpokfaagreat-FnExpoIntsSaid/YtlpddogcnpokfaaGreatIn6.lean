/- The int64 instances: what stands while numbers are measured; expo, delta. -/
import Derived.Test.YtlpddogcnpokfaaGreatIn4
import Derived.Test.YtlpddogcnpokfaaGreatIn5
import Derived.Deep.DeepCutAuto
import Derived.Laws.EntriesVeiled
namespace Go.Proofs.YtlpddogcnpokfaaGreat.I
open Go.RowKit
/-- the number of a word, as it lies in memory -/
def Iw (n : Nat) : Value := .int .i64 (sgn n)
/-- a slice of one-cell values, as it is read: where it lies is not asked when it is empty -/
def SlRd (w : World) (v : Value) (xs : List Value) : Prop := ∃ p c, v = .slice p xs.length c ∧ ∀ i u, xs[i]? = some u → ∃ a, p = some a ∧ w.cell? (a.add i) = some u
theorem bits39 (n : Int) (w : World) : Calls Tryz.prog 39 #[.int .i64 n] w fun e w' => e = .returned (.int .u64 (IntKind.u64.wrap n)) ∧ w = w' := by
  go_enter Tryz.func39, Tryz.ntmps39
  go_wp2_with fail
  go_ret
  exact ⟨rfl, rfl⟩

theorem mmOf_some {l : List Nat} (h : l ≠ []) : ∃ m, mmOf l = some m := by
  rw [← List.dropLast_concat_getLast h, mmOf_snoc]; exact ⟨_, rfl⟩

/-- the sum of a list, as the program reads it -/
def SumOf (l : List Nat) (r : Int) : Prop := ∃ fb ni, SumRun l.reverse fb ni ∧ SumRd fb ni r

/-- what a collection tells of a list -/
def Coll (w : World) (top : Nat) (ms S : Int) (l : List Nat) (V : Value) : Prop :=
  (l = [] ∧ V = .slice none 0 0) ∨ (l ≠ [] ∧ ∃ g z r vp vn mn mx, V = .slice (some ⟨g, 0, none⟩) 1 1 ∧ mmOf l = some (mn, mx) ∧ SumOf l r ∧
    w.heap[g]? = some (.cells (ptCells z ((bkOf top ms S (l.map fv)).pl.sum + (bkOf top ms S (l.map fv)).nl.sum + (bkOf top ms S (l.map fv)).zc) mn mx r (bkOf top ms S (l.map fv)) vp vn) 116 (0, 0)) ∧ NumAt w vp (bkOf top ms S (l.map fv)).pl ∧ NumAt w vn (bkOf top ms S (l.map fv)).nl)

theorem delta60 (h b q top : Nat) (ms S : Int) (l F : List Nat) (w : World)
    (hh : w.heap[h]? = some (.cells (hgCells ms S b (.int .i64 0)) 173 (0, 0))) (hm : MapAt w b top ms S l F) (hq : w.cell? ⟨q, 0, none⟩ = some .nilIface) (hqf : w.frozen? ⟨q, 0, none⟩ = false) (hqb : q ≠ b) (hqh : q ≠ h) (hhb : h ≠ b) (hlim : BkLim (bkOf top ms S (l.map fv))) :
    Calls Tryz.prog 54 #[.pointer (some ⟨h, 0, none⟩), .pointer (some ⟨q, 0, none⟩)] w fun e w' => (∃ n : Int, e = .returned (.int .i64 n)) ∧ ∃ V, w'.cell? ⟨q, 0, none⟩ = some (.iface 106 (.agg #[V, .int .u8 2])) ∧ Coll w' top ms S l V ∧ MapAt w' b top ms S [] [] ∧ Kept [q, b] w w' := by
  rcases hm with ⟨rfl, rfl, c, hb⟩ | ⟨hne, d, n, c, fb, ni, og, oh, hb, hnc, hsum, hd, rfl, ⟨z, z0, z1⟩, h16, hdb⟩
  · refine (delta60_nil h b q top ms S w hh (.inl ⟨rfl, rfl, c, hb⟩) hq hqf hqb hqh hhb).mono ?_
    rintro e w' ⟨rfl, h1, h2, h3⟩
    exact ⟨⟨0, rfl⟩, _, h3, .inl ⟨rfl, rfl⟩, h1, h2⟩
  · obtain ⟨⟨mn, mx⟩, hmm⟩ := mmOf_some hne
    rw [hmm] at hd
    refine (delta60_one h b q d n c fb z mn mx ni ms S (bkOf top ms S (l.map fv)) og oh w hh hb hnc hd z0 z1 hq hqf hqb hqh hhb (by have := hlim.pl; omega) (by have := hlim.nl; omega) (by have := hlim.sum; omega)).mono ?_
    rintro e w' ⟨rfl, g, r, vp, vn, k1, k2, k3, k4, k5, k6, k7⟩
    exact ⟨⟨1, rfl⟩, _, k7, .inr ⟨hne, g, z, r, vp, vn, mn, mx, rfl, hmm, ⟨fb, ni, hsum, k1⟩, k2, k3, k4⟩, .inl ⟨rfl, rfl, c, k5⟩, k6⟩

theorem cum61 (h b q top : Nat) (ms S : Int) (l F : List Nat) (w : World)
    (hh : w.heap[h]? = some (.cells (hgCells ms S b (.int .i64 0)) 173 (0, 0))) (hm : MapAt w b top ms S l F) (hq : w.cell? ⟨q, 0, none⟩ = some .nilIface) (hqf : w.frozen? ⟨q, 0, none⟩ = false) (hqb : q ≠ b) (hqh : q ≠ h) (hhb : h ≠ b) (hqF : q ∉ F) (hlim : BkLim (bkOf top ms S (l.map fv))) :
    Calls Tryz.prog 55 #[.pointer (some ⟨h, 0, none⟩), .pointer (some ⟨q, 0, none⟩)] w fun e w' => (∃ n : Int, e = .returned (.int .i64 n)) ∧ ∃ V, w'.cell? ⟨q, 0, none⟩ = some (.iface 106 (.agg #[V, .int .u8 1])) ∧ Coll w' top ms S l V ∧ MapAt w' b top ms S l F ∧ Kept [q] w w' := by
  have hm' := hm
  rcases hm with ⟨rfl, rfl, c, hb⟩ | ⟨hne, d, n, c, fb, ni, og, oh, hb, hnc, hsum, hd, rfl, ⟨z, z0, z1⟩, h16, hdb⟩
  · refine (cum61_nil h b q top ms S w hh (.inl ⟨rfl, rfl, c, hb⟩) hq hqf hqb hqh hhb).mono ?_
    rintro e w' ⟨rfl, h1, h2, h3⟩
    exact ⟨⟨0, rfl⟩, _, h3, .inl ⟨rfl, rfl⟩, h1, h2⟩
  · obtain ⟨⟨mn, mx⟩, hmm⟩ := mmOf_some hne
    rw [hmm] at hd
    refine (cum61_one h b q d n c fb z mn mx ni ms S (bkOf top ms S (l.map fv)) og oh w hh hb hnc hd z0 z1 hq hqf hqb hqh hhb (by have := hlim.pl; omega) (by have := hlim.nl; omega) (by have := hlim.sum; omega)).mono ?_
    rintro e w' ⟨rfl, g, r, vp, vn, k1, k2, k3, k4, k5, k6⟩
    exact ⟨⟨1, rfl⟩, _, k6, .inr ⟨hne, g, z, r, vp, vn, mn, mx, rfl, hmm, ⟨fb, ni, hsum, k1⟩, k2, k3, k4⟩, hm'.kept k5 (by simpa using hqb.symm) (fun i hi => by simp; rintro rfl; exact hqF hi), k5⟩

set_option maxRecDepth 100000 in
theorem bld47c (ms S : Int) (w : World) (h1 : 0 ≤ ms) (h2 : ms ≤ 1000) : Calls Tryz.prog 43 #[bldV 1, .int .i32 ms, .int .i32 S, .bool false, .bool false] w fun e w' => ∃ p h b,
    e = .returned (.tuple #[.func (.func 67) #[] #[.pointer (some ⟨p, 0, none⟩)], .func (.func 55) #[.pointer (some ⟨h, 0, none⟩)] #[]]) ∧ w'.cell? ⟨p, 0, none⟩ = some (.func (.func 53) #[.pointer (some ⟨h, 0, none⟩)] #[]) ∧
    w'.heap[h]? = some (.cells (hgCells ms S b (.int .i64 0)) 173 (0, 0)) ∧ w'.heap[b]? = some (.map #[] 0) ∧ h ≠ b ∧ w.heap.size ≤ p ∧ w.heap.size ≤ h ∧ w.heap.size ≤ b ∧ Kept [] w w' := by
  unfold bldV
  go_enter Tryz.func43, Tryz.ntmps43
  go_wp2_with fail
  refine (newHg57 ms S _ h1 h2).mono ?_; rintro e w1 ⟨h, b, rfl, hh, hb, hne, hlh, hlb, hk⟩
  have e0 : w1.cell? ⟨w.heap.size, 0, none⟩ = some (.int .u8 1) := (hk.new (by simp) 0).1
  have e1 : w1.cell? ⟨w.heap.size, 1, none⟩ = some .nilFunc := (hk.new (by simp) 1).1
  have e2 : w1.cell? ⟨w.heap.size, 2, none⟩ = some (.int .i64 0) := (hk.new (by simp) 2).1
  rw [alloc_size] at hlh hlb
  have K := Lib.hid hk.past
  have HH := Lib.hid hh
  have HB := Lib.hid hb
  clear hk hh hb
  go_wp2_with fail
  refine (filter58 1 h w1).mono ?_; rintro e w2 ⟨p, rfl, hp, hlp, hk2⟩
  have HP := Lib.hid hp
  have K2 := Lib.hid hk2
  clear hp hk2 e0 e1 e2
  go_wp2_with fail
  (try simp only [Exit.inBlock, Exit.then])
  go_ret2
  have := K.out.size
  exact ⟨p, h, b, rfl, HP.out, K2.out.obj HH.out (by simp), K2.out.obj HB.out (by simp), hne, by omega, by omega, by omega, K.out.trans K2.out⟩

/-- the cells of a data point that is handed out -/
def exVals (cnt : Nat) (r : Int) (mn mx : Nat) (s : Bk) (va vb : Value) : List Value := [.bool true, U cnt, .int .u64 (IntKind.u64.wrap r), UW mn, UW mx, .int .i32 s.sc, U s.zc, .int .i32 s.ps, va, .int .i32 s.ns, vb]

/-- a data point that tells of a list of numbers -/
def ExIs (w : World) (A : List Nat) (top : Nat) (ms S : Int) (l : List Nat) (cs : List Value) : Prop :=
  (l = [] ∧ cs = exZero) ∨ (l ≠ [] ∧ ∃ r mn mx va vb, mmOf l = some (mn, mx) ∧ SumOf l r ∧ cs = exVals ((bkOf top ms S (l.map fv)).pl.sum + (bkOf top ms S (l.map fv)).nl.sum + (bkOf top ms S (l.map fv)).zc) r mn mx (bkOf top ms S (l.map fv)) va vb ∧
    OwnAv w A 23 1 va (bkOf top ms S (l.map fv)).pl.length ((bkOf top ms S (l.map fv)).pl.map U) ∧ OwnAv w A 23 1 vb (bkOf top ms S (l.map fv)).nl.length ((bkOf top ms S (l.map fv)).nl.map U))

theorem ExIs.kept {w w' : World} {A S : List Nat} {top : Nat} {ms S' : Int} {l : List Nat} {cs : List Value} (h : ExIs w A top ms S' l cs) (hk : Kept S w w') (hS : ∀ i, i ∈ S → i ∈ A ∨ w.heap.size ≤ i) : ExIs w' A top ms S' l cs := by
  rcases h with h | ⟨h0, r, mn, mx, va, vb, h1, h2, h3, h4, h5⟩
  · exact .inl h
  · exact .inr ⟨h0, r, mn, mx, va, vb, h1, h2, h3, h4.kept hk hS, h5.kept hk hS⟩

theorem ExIs.turn {w : World} {A A' : List Nat} {top : Nat} {ms S' : Int} {l : List Nat} {cs : List Value} (h : ExIs w A top ms S' l cs) (hA : ∀ i, i ∈ A' → i ∈ A ∨ w.heap.size ≤ i) : ExIs w A' top ms S' l cs := by
  rcases h with h | ⟨h0, r, mn, mx, va, vb, h1, h2, h3, h4, h5⟩
  · exact .inl h
  · exact .inr ⟨h0, r, mn, mx, va, vb, h1, h2, h3, h4.turn hA, h5.turn hA⟩

/-- the data points so far -/
structure ResAt (w : World) (A : List Nat) (top : Nat) (ms S : Int) (acc : Nat → List Nat) (o : Value) (n : Nat) (es : List (List Value)) : Prop where
  own : OwnAv w A 26 11 o n es.flatten
  len : es.length = n
  el : ∀ i, i < n → (es.getD i []).length = 11 ∧ ExIs w A top ms S (acc i) (es.getD i [])

theorem ResAt.nil (w : World) (A : List Nat) (top : Nat) (ms S : Int) (acc : Nat → List Nat) : ResAt w A top ms S acc (.slice none 0 0) 0 [] :=
  ⟨⟨⟨rfl, .inl ⟨rfl, rfl⟩⟩, fun z h => by cases h⟩, rfl, fun i h => by omega⟩

theorem ResAt.kept {w w' : World} {A K : List Nat} {top : Nat} {ms S : Int} {acc : Nat → List Nat} {o : Value} {n : Nat} {es : List (List Value)} (h : ResAt w A top ms S acc o n es) (hk : Kept K w w') (hK : ∀ i, i ∈ K → i ∈ A ∨ w.heap.size ≤ i) : ResAt w' A top ms S acc o n es :=
  ⟨h.own.kept hk hK, h.len, fun i hi => ⟨(h.el i hi).1, (h.el i hi).2.kept hk hK⟩⟩

theorem ResAt.turn {w : World} {A A' : List Nat} {top : Nat} {ms S : Int} {acc : Nat → List Nat} {o : Value} {n : Nat} {es : List (List Value)} (h : ResAt w A top ms S acc o n es) (hA : ∀ i, i ∈ A' → i ∈ A ∨ w.heap.size ≤ i) : ResAt w A' top ms S acc o n es :=
  ⟨h.own.turn hA, h.len, fun i hi => ⟨(h.el i hi).1, (h.el i hi).2.turn hA⟩⟩

/-- one more data point -/
theorem ResAt.push {w w' : World} {A : List Nat} {top : Nat} {ms S : Int} {acc : Nat → List Nat} {o o' : Value} {n : Nat} {es : List (List Value)} {cs : List Value} (h : ResAt w A top ms S acc o n es) (hc : ExIs w A top ms S (acc n) cs) (hl : cs.length = 11)
    (ho : w'.ownsRow 0 26 11 o' (n + 1) (es.flatten ++ cs)) (hg : w.grownBy w' o.ownBlock) (hloc : o'.ownBlock = o.ownBlock ∨ o'.ownBlock = some w.heap.size) (hA : ∀ i, i ∈ A → i < w.heap.size) : ResAt w' A top ms S acc o' (n + 1) (es ++ [cs]) := by
  have key : ∀ {l : List Nat} {c : List Value}, ExIs w A top ms S l c → ExIs w' A top ms S l c := by
    intro l c hx
    rcases hx with hx | ⟨h0, r, mn, mx, va, vb, h1, h2, h3, h4, h5⟩
    · exact .inl hx
    · exact .inr ⟨h0, r, mn, mx, va, vb, h1, h2, h3, ⟨h4.1.kept hg (own_ne h4.1 h.own.1 (by decide)), h4.2⟩, ⟨h5.1.kept hg (own_ne h5.1 h.own.1 (by decide)), h5.2⟩⟩
  refine ⟨⟨by simpa using ho, fun z hz hm => ?_⟩, by simp [h.len], fun i hi => ?_⟩
  · rcases hloc with e | e
    · exact h.own.2 z (e ▸ hz) hm
    · rw [hz] at e; cases e; have := hA _ hm; omega
  · rw [List.getD_eq_getElem?_getD]
    by_cases hin : i < n
    · rw [List.getElem?_append_left (by rw [h.len]; exact hin), ← List.getD_eq_getElem?_getD]
      exact ⟨(h.el i hin).1, key (h.el i hin).2⟩
    · have : i = n := by omega
      subst this
      rw [List.getElem?_append_right (by rw [h.len]; exact Nat.le_refl _), h.len, Nat.sub_self]
      exact ⟨hl, key hc⟩

/-- what stands as numbers are measured -/
structure ExInv (w : World) (p h b top : Nat) (ms S : Int) (l F : List Nat) (wr : World) : Prop where
  kept : Kept [] w wr
  pc : wr.cell? ⟨p, 0, none⟩ = some (.func (.func 53) #[.pointer (some ⟨h, 0, none⟩)] #[])
  hc : wr.heap[h]? = some (.cells (hgCells ms S b (.int .i64 0)) 173 (0, 0))
  map : MapAt wr b top ms S l F
  new : ∀ i, i ∈ b :: F → w.heap.size ≤ i
  hp : p ∉ b :: F
  hh : h ∉ b :: F
  bF : b ∉ F

theorem ExInv.fresh {w wr w' : World} {p h b top : Nat} {ms S : Int} {l F : List Nat} (I : ExInv w p h b top ms S l F wr) {K : List Nat} (hk : Kept K wr w') (hK : ∀ i, i ∈ K → wr.heap.size ≤ i) : ExInv w p h b top ms S l F w' := by
  have hs := I.kept.size
  have hbl : b < wr.heap.size := by
    rcases I.map with ⟨-, -, c, hm⟩ | ⟨-, d, n, c, fb, ni, og, oh, hm, -⟩
    · exact heap_lt hm
    · exact heap_lt hm
  have hFl : ∀ i, i ∈ F → i < wr.heap.size := by
    intro i hi
    rcases I.map with ⟨-, rfl, -⟩ | ⟨-, d, n, c, fb, ni, og, oh, hm, _, _, hd, rfl, _⟩
    · cases hi
    · simp only [List.mem_cons, List.mem_append, Option.mem_toList] at hi
      rcases hi with rfl | hi | hi
      · exact hd.lt
      · exact (hd.bk.P.lt hi).1
      · exact (hd.bk.N.lt hi).1
  refine ⟨I.kept.trans2 hk fun i hi => .inr (Nat.le_trans hs (hK i hi)), ?_, hk.obj I.hc fun hm => ?_, I.map.kept hk (fun hm => ?_) fun i hi hm => ?_, I.new, I.hp, I.hh, I.bF⟩
  · have hpl : p < wr.heap.size := cell_lt I.pc
    exact (hk.cell hpl fun hm => by have h1 := hK _ hm; omega).trans I.pc
  · have := hK _ hm; have := heap_lt I.hc; omega
  · have := hK _ hm; omega
  · have := hK _ hm; have := hFl i hi; omega

/-- the blocks of the map lie below the heap's end -/
theorem ExInv.lt {w wr : World} {p h b top : Nat} {ms S : Int} {l F : List Nat} (I : ExInv w p h b top ms S l F wr) : ∀ i, i ∈ b :: F → i < wr.heap.size := by
  intro i hi
  rcases List.mem_cons.1 hi with rfl | hi
  · rcases I.map with ⟨-, -, c, hm⟩ | ⟨-, d, n, c, fb, ni, og, oh, hm, -⟩
    · exact heap_lt hm
    · exact heap_lt hm
  · rcases I.map with ⟨-, rfl, -⟩ | ⟨-, d, n, c, fb, ni, og, oh, hm, _, _, hd, rfl, _⟩
    · cases hi
    · simp only [List.mem_cons, List.mem_append, Option.mem_toList] at hi
      rcases hi with rfl | hi | hi
      · exact hd.lt
      · exact (hd.bk.P.lt hi).1
      · exact (hd.bk.N.lt hi).1

theorem ResAt.step {w w' : World} {A A' : List Nat} {top : Nat} {ms S : Int} {acc : Nat → List Nat} {o : Value} {n : Nat} {es : List (List Value)} (h : ResAt w A top ms S acc o n es) (hk : Kept A w w') (hA : ∀ i, i ∈ A' → i ∈ A ∨ w.heap.size ≤ i) : ResAt w' A' top ms S acc o n es := by
  have h1 : ResAt w (A ++ A') top ms S acc o n es := h.turn fun i hi => by
    rcases List.mem_append.1 hi with hi | hi
    · exact .inl hi
    · exact hA i hi
  have h2 := h1.kept hk fun i hi => .inl (List.mem_append_left _ hi)
  exact h2.turn fun i hi => .inl (List.mem_append_right _ hi)

/-- behind a measurement -/
theorem ExInv.step {w wr w' : World} {p h b top : Nat} {ms S : Int} {l l' F F' : List Nat} (I : ExInv w p h b top ms S l F wr) (hm : MapAt w' b top ms S l' F') (hk : Kept (b :: F) wr w') (hF : ∀ i, i ∈ F' → i ∈ F ∨ wr.heap.size ≤ i) (hbF : b ∉ F') :
    ExInv w p h b top ms S l' F' w' := by
  have hpl : p < wr.heap.size := cell_lt I.pc
  have hhl := heap_lt I.hc
  have hs := I.kept.size
  refine ⟨I.kept.trans2 hk fun i hi => .inr (I.new i hi), (hk.cell hpl I.hp).trans I.pc, hk.obj I.hc I.hh, hm, ?_, ?_, ?_, hbF⟩
  · intro i hi
    rcases List.mem_cons.1 hi with rfl | hi
    · exact I.new _ List.mem_cons_self
    · rcases hF i hi with h1 | h1
      · exact I.new _ (List.mem_cons_of_mem _ h1)
      · omega
  · intro hi
    rcases List.mem_cons.1 hi with e | hi
    · exact I.hp (e ▸ List.mem_cons_self)
    · rcases hF _ hi with h1 | h1
      · exact I.hp (List.mem_cons_of_mem _ h1)
      · omega
  · intro hi
    rcases List.mem_cons.1 hi with e | hi
    · exact I.hh (e ▸ List.mem_cons_self)
    · rcases hF _ hi with h1 | h1
      · exact I.hh (List.mem_cons_of_mem _ h1)
      · omega

/-- what stands while a data point's two rows are copied -/
structure FX (W0 : World) (x t : Nat) (tc : Array Value) (vp vb : Value) (lp ln : List Nat) (O : List (Value × List Nat)) (w : World) : Prop where
  x : w.heap[x]? = some (.cells exZero.toArray 26 (0, 0))
  t : w.heap[t]? = some (.cells tc 116 (0, 0))
  p : NumAt w vp lp
  n : NumAt w vb ln
  k : Kept [] W0 w
  o : ∀ q, q ∈ O → w.ownsRow 0 23 1 q.1 q.2.length (q.2.map U) ∧ ∀ z, q.1.ownBlock = some z → W0.heap.size ≤ z

theorem FX.grow {W0 : World} {x t : Nat} {tc : Array Value} {vp vb : Value} {lp ln : List Nat} {O : List (Value × List Nat)} {w w' : World} (h : FX W0 x t tc vp vb lp ln O w) (hg : w.grownBy w' none) : FX W0 x t tc vp vb lp ln O w' := by
  have hk : Kept [] w w' := grownBy_kept hg
  exact ⟨hk.obj h.x (by simp), hk.obj h.t (by simp), h.p.kept hk, h.n.kept hk, h.k.trans hk, fun q hq => ⟨own_keptK (h.o q hq).1 hk (by simp), (h.o q hq).2⟩⟩

theorem FX.push {W0 : World} {x t : Nat} {tc : Array Value} {vp vb v : Value} {lp ln l : List Nat} {O : List (Value × List Nat)} {w w' : World} (h : FX W0 x t tc vp vb lp ln O w) (ho : w'.ownsRow w.heap.size 23 1 v l.length (l.map U)) (hg : w.grownBy w' none) :
    FX W0 x t tc vp vb lp ln ((v, l) :: O) w' := by
  have h' := h.grow hg
  refine ⟨h'.x, h'.t, h'.p, h'.n, h'.k, fun q hq => ?_⟩
  rcases List.mem_cons.1 hq with rfl | hq
  · exact ⟨own_mono0 ho, fun z hz => Nat.le_trans h.k.size (ho.lt z hz).1⟩
  · exact h'.o q hq

theorem FX.dr {W0 : World} {x t : Nat} {tc : Array Value} {vp vb : Value} {lp ln : List Nat} {O : List (Value × List Nat)} {w : World} (h : FX W0 x t tc vp vb lp ln O w) : FX W0 x t tc vp vb lp ln O w.drew :=
  ⟨h.x, h.t, h.p, h.n, h.k.dr ⟨1, rfl⟩, h.o⟩

/-- what the statement leaves -/
def FXE (W0 : World) (x t : Nat) (tc : Array Value) (cnt r sc zc ps ns : Int) (lp ln : List Nat) (w : World) : Prop := ∃ va vb,
  w.heap[x]? = some (.cells #[.bool true, .int .u64 cnt, .int .u64 r, .int .u64 0, .int .u64 0, .int .i32 sc, .int .u64 zc, .int .i32 ps, va, .int .i32 ns, vb] 26 (0, 0)) ∧ w.heap[t]? = some (.cells tc 116 (0, 0)) ∧
  Kept [x] W0 w ∧ (w.ownsRow 0 23 1 va lp.length (lp.map U) ∧ ∀ z, va.ownBlock = some z → W0.heap.size ≤ z) ∧ (w.ownsRow 0 23 1 vb ln.length (ln.map U) ∧ ∀ z, vb.ownBlock = some z → W0.heap.size ≤ z) ∧ (∃ p n c, va = .slice p n c) ∧ (∃ p n c, vb = .slice p n c)

theorem FX.fin {W0 : World} {x t : Nat} {tc : Array Value} {vp vb : Value} {lp ln : List Nat} {O : List (Value × List Nat)} {w : World} (h : FX W0 x t tc vp vb lp ln O w) (hxt : x ≠ t) (cnt r sc zc ps ns : Int) {p q : Option Addr} {n c n' c' : Nat}
    (h1 : ((.slice p n c : Value), lp) ∈ O) (h2 : ((.slice q n' c' : Value), ln) ∈ O) : FXE W0 x t tc cnt r sc zc ps ns lp ln (store11 w x cnt r sc zc ps ns (.slice p n c) (.slice q n' c')) := by
  have hx0 : x < w.heap.size := heap_lt h.x
  have hk : Kept [x] w (store11 w x cnt r sc zc ps ns (.slice p n c) (.slice q n' c')) := store11_kept (Kept.refl _ _) (.inl (by simp)) _ _ _ _ _ _ _ _
  have nx : ∀ {v : Value} {l : List Nat}, w.ownsRow 0 23 1 v l.length (l.map U) → ∀ z, v.ownBlock = some z → z ∉ [x] := by
    intro v l ho z hz hm
    have e : z = x := by simpa using hm
    subst e
    obtain ⟨cur, hc⟩ := own_type ho hz
    rw [h.x] at hc
    injection hc with hc; injection hc with _ hc; cases hc
  exact ⟨_, _, store11_at h.x _ _ _ _ _ _ _ _, hk.obj h.t (by simpa using hxt.symm), (h.k.sub (by simp)).trans hk, ⟨own_keptK (h.o _ h1).1 hk (nx (h.o _ h1).1), (h.o _ h1).2⟩, ⟨own_keptK (h.o _ h2).1 hk (nx (h.o _ h2).1), (h.o _ h2).2⟩, ⟨_, _, _, rfl⟩, ⟨_, _, _, rfl⟩⟩

/-- what 'expo' hands out -/
def ExPost (w : World) (top : Nat) (ms S : Int) (delta : Bool) (rs : List (List Nat)) (e : Ending) (w' : World) : Prop := ∃ V es, e = .returned V ∧ ResAt w' [] top ms S (accL delta rs) V rs.length es ∧ Kept [] w w'

theorem ExInv.lt2 {w wr : World} {p h b top : Nat} {ms S : Int} {l F : List Nat} (I : ExInv w p h b top ms S l F wr) : ∀ i, i ∈ h :: p :: b :: F → i < wr.heap.size := by
  intro i hi
  rcases List.mem_cons.1 hi with rfl | hi
  · exact heap_lt I.hc
  · rcases List.mem_cons.1 hi with rfl | hi
    · have : i < wr.heap.size := cell_lt I.pc
      exact this
    · exact I.lt i hi

theorem ExInv.own {w wr w' : World} {p h b top : Nat} {ms S : Int} {l F : List Nat} (I : ExInv w p h b top ms S l F wr) {o : Value} {n : Nat} {xs : List Value} (hg : wr.grownBy w' o.ownBlock) (ho : OwnAv wr (h :: p :: b :: F) 26 11 o n xs) (hn : ∀ z, o.ownBlock = some z → w.heap.size ≤ z) :
    ExInv w p h b top ms S l F w' := by
  have hk := grownBy_kept hg
  have hz : ∀ i, i ∈ o.ownBlock.toList → i ∉ h :: p :: b :: F ∧ w.heap.size ≤ i := by
    intro i hi
    have e : o.ownBlock = some i := by simpa using hi
    exact ⟨ho.2 i e, hn i e⟩
  have hpl : p < wr.heap.size := cell_lt I.pc
  refine ⟨I.kept.trans2 hk fun i hi => .inr (hz i hi).2, (hk.cell hpl fun hm => (hz p hm).1 (by simp)).trans I.pc, hk.obj I.hc fun hm => (hz h hm).1 (by simp), I.map.kept hk (fun hm => (hz b hm).1 (by simp)) (fun i hi hm => (hz i hm).1 (by simp [hi])), I.new, I.hp, I.hh, I.bF⟩

theorem ExInv.coll {w wr w' : World} {p h b top q : Nat} {ms S : Int} {l l' F F' : List Nat} (I : ExInv w p h b top ms S l F wr) (hm : MapAt w' b top ms S l' F') (hk : Kept [q, b] wr w') (hq : wr.heap.size ≤ q) (hF : ∀ i, i ∈ F' → i ∈ F) (hbF : b ∉ F') : ExInv w p h b top ms S l' F' w' := by
  have hpl : p < wr.heap.size := cell_lt I.pc
  have hhl := heap_lt I.hc
  have hs := I.kept.size
  have hpb : p ≠ b := fun e => I.hp (e ▸ List.mem_cons_self)
  have hhb : h ≠ b := fun e => I.hh (e ▸ List.mem_cons_self)
  have hbn := I.new b List.mem_cons_self
  refine ⟨I.kept.trans2 hk fun i hi => ?_, (hk.cell hpl ?_).trans I.pc, hk.obj I.hc ?_, hm, ?_, ?_, ?_, hbF⟩
  · right
    simp only [List.mem_cons, List.not_mem_nil, or_false] at hi
    rcases hi with rfl | rfl <;> omega
  · simp only [List.mem_cons, List.not_mem_nil, or_false]; omega
  · simp only [List.mem_cons, List.not_mem_nil, or_false]; omega
  · intro i hi
    rcases List.mem_cons.1 hi with rfl | hi
    · exact hbn
    · exact I.new i (List.mem_cons_of_mem _ (hF i hi))
  · intro hi
    rcases List.mem_cons.1 hi with e | hi
    · exact hpb e
    · exact I.hp (List.mem_cons_of_mem _ (hF p hi))
  · intro hi
    rcases List.mem_cons.1 hi with e | hi
    · exact hhb e
    · exact I.hh (List.mem_cons_of_mem _ (hF h hi))

theorem as125_some (v : Value) (n : Int) (w : World) : (Instr.typeAssert (.iface 106 (.agg #[v, .int .u8 n])) 102 106 true).run Tryz.prog w = .ok (.tuple #[.agg #[v, .int .u8 n], .bool true]) w := by kernel_rfl

end Go.Proofs.YtlpddogcnpokfaaGreat.I
namespace Go.Proofs.YtlpddogcnpokfaaGreat.I
open Go.RowKit

set_option maxHeartbeats 4000000 in
set_option maxRecDepth 100000 in
theorem expo40d (top : Nat) (ms S : Int) (rs : List (List Nat)) (a : Addr) (vc : Nat) (vs : List Value) (w : World) (hvs : vs.length = rs.length) (hab : a.block < w.heap.size)
    (hv : ∀ i u, vs[i]? = some u → w.cell? (a.add i) = some u) (hr : ∀ i, i < rs.length → SlRd w (vs.getD i undef) ((rs.getD i []).map Iw))
    (hf : ∀ i, i < rs.length → ∃ B, Fine top ms ((top : Int) - S).toNat B ((accL true rs i).map fv)) (hok : ∀ i, i < rs.length → ∀ v, v ∈ rs.getD i [] → okI v) (hlen : rs.length ≤ 500) (htot : rs.flatten.length ≤ 500)
    (hs : 1 ≤ ms) (hs2 : ms ≤ 200) (ht : top ≤ 20) (hS : S ≤ top) (hS2 : -10 ≤ S)
    (hov : ∀ w1, Calls Tryz.prog 71 #[] w1 fun e w' => ∃ x : Int, e = .returned (.agg #[.int .u64 x]) ∧ Kept [] w1 w') :
    Calls Tryz.prog 38 #[.bool true, .int .i32 ms, .int .i32 S, .slice (some a) rs.length vc, .func (.func 39) #[] #[]] w (ExPost w top ms S true rs) := by
  have hta := as125_some
  have HV := Lib.hid (And.intro hvs (And.intro hab (And.intro hv hr)))
  have HF := Lib.hid (And.intro hf (And.intro htot hov))
  have HS := Lib.hid (And.intro hs (And.intro hs2 (And.intro ht (And.intro hS hS2))))
  have HOK := Lib.hid hok
  clear hvs hab hv hr hf htot hov hs hs2 ht hS hS2 hok
  go_enter Tryz.func38, Tryz.ntmps38
  go_wp2_with fail
  have h47 := bld47 ms S (w.alloc (.cells #[.int .u8 2, .nilFunc, .int .i64 0] 87)) (by have := HS.out.1; omega) (by have := HS.out.2.1; omega)
  unfold bldV at h47
  refine h47.mono ?_
  clear h47
  rintro e w1 ⟨p, h, b, rfl, hp, hh, hb, hne, hlp, hlh, hlb, hk1⟩
  rw [alloc_size] at hlp hlh hlb
  have hpb : p ≠ b := by
    rintro rfl
    unfold World.cell? at hp
    rw [hb] at hp; cases hp
  have I0 := Lib.hid (show ExInv w p h b top ms S [] [] w1 from ⟨hk1.past, hp, hh, .inl ⟨rfl, rfl, 0, hb⟩, by simp; omega, by simpa using hpb, by simpa using hne, by simp⟩)
  clear hp hh hb hk1 hne hlp hlh hlb hpb
  go_wp2_with fail
  go_loopw [14, 40] (fun o i wr => ∃ (m : Nat) (es : List (List Value)) (F : List Nat), m ≤ rs.length ∧ i = .int .i64 (m : Int) ∧ ExInv w p h b top ms S (preL true rs m) F wr ∧ ResAt wr (h :: p :: b :: F) top ms S (accL true rs) o m es ∧ ∀ z, o.ownBlock = some z → w.heap.size ≤ z) (fun _ i _ => rs.length - (intOf i).toNat)
  case atStart => exact ⟨0, [], [], by omega, rfl, by rw [preL_zero]; exact I0.out, ResAt.nil _ _ _ _ _ _, fun z hz => by cases hz⟩
  case round =>
  clear I0
  obtain ⟨m, es, F, hm, rfl, I, R, hON⟩ := hrel
  have HON := Lib.hid hON
  clear hON
  have I := Lib.hid I
  have R := Lib.hid R
  by_cases hge : rs.length ≤ m
  · obtain rfl : m = rs.length := by omega
    have w7 : ¬ (rs.length : Int) < (rs.length : Int) := by omega
    go_wp2_with fail
    go_ret
    exact ⟨_, es, rfl, R.out.turn (by simp), I.out.kept⟩
  -- the round's numbers
  have hlt : m < rs.length := by omega
  clear hge
  obtain ⟨v, hvm⟩ : ∃ v, v = vs.getD m undef := ⟨_, rfl⟩
  have hvm2 : vs[m]? = some v := by rw [hvm, List.getD_eq_getElem?_getD, List.getElem?_eq_getElem (by rw [HV.out.1]; exact hlt)]; rfl
  have hcell : wr.cell? (a.add m) = some v := (cellKept I.out.kept (by rw [Addr_add_block]; exact HV.out.2.1) (by simp)).trans (HV.out.2.2.1 m v hvm2)
  have hsl := HV.out.2.2.2 m hlt
  rw [← hvm] at hsl
  have HSL := Lib.hid hsl
  obtain ⟨r, hrr⟩ : ∃ r, r = rs.getD m [] := ⟨_, rfl⟩
  rw [← hrr] at hsl
  obtain ⟨ad, vn, hvv⟩ : ∃ ad vn, v = .slice ad r.length vn := by
    obtain ⟨x, c, h1, _⟩ := hsl
    rw [List.length_map] at h1
    exact ⟨_, _, h1⟩
  have hracc : accL true rs m = preL true rs m ++ r := by unfold accL; rw [hrr]
  have hrl : r.length ≤ 500 := by
    have h1 := HF.out.2.1
    have h2 : r ∈ rs := by rw [hrr, List.getD_eq_getElem?_getD, List.getElem?_eq_getElem hlt]; exact List.getElem_mem hlt
    have h3 := mem_le_sum (rs.map List.length) r.length (List.mem_map.2 ⟨r, h2, rfl⟩)
    rw [List.length_flatten] at h1; omega
  have hpl : (preL true rs m).length ≤ 500 := by
    unfold preL
    have h1 := HF.out.2.1
    split
    · simp
    · have h2 : rs.flatten = (rs.take m).flatten ++ (rs.drop m).flatten := by rw [← List.flatten_append, List.take_append_drop]
      rw [h2, List.length_append] at h1; omega
  have HR := Lib.hid (And.intro hrr (And.intro hracc (And.intro hsl (And.intro hvm2 hpl))))
  clear hsl hvm hvm2 hrr hracc HSL hpl
  subst hvv
  have w7 : (m : Int) < (rs.length : Int) := by omega
  go_wp2_with fail
  clear hcell
  go_loopw [46] (fun j wx => ∃ (k : Nat) (F : List Nat), k ≤ r.length ∧ j = .int .i64 (k : Int) ∧ ExInv w p h b top ms S (preL true rs m ++ r.take k) F wx ∧ ResAt wx (h :: p :: b :: F) top ms S (accL true rs) u14 m es) (fun j _ => r.length - (intOf j).toNat)
  case atStart => exact ⟨0, F, by omega, rfl, by simpa using I.out, R.out⟩
  case round =>
  clear I R
  obtain ⟨k, F, hk, rfl, I, R⟩ := hrel
  have I := Lib.hid I
  have R := Lib.hid R
  by_cases hkl : k < r.length
  · -- a measurement
    obtain ⟨x, hx⟩ : ∃ x, x = r.getD k 0 := ⟨_, rfl⟩
    have hlm : (r.map Iw)[k]? = some (Iw x) := by rw [List.getElem?_map, List.getElem?_eq_getElem hkl, hx, List.getD_eq_getElem?_getD, List.getElem?_eq_getElem hkl]; rfl
    obtain ⟨a2, rfl, hcx⟩ : ∃ a2, ad = some a2 ∧ wr.cell? (a2.add k) = some (.int .i64 (sgn x)) := by
      obtain ⟨p', c', h1, h5⟩ := HR.out.2.2.1
      injection h1 with h1 _ _
      obtain ⟨a2, e, hc⟩ := h5 k _ hlm
      exact ⟨a2, h1.trans e, (cellKept I.out.kept (cell_lt hc) (by simp)).trans hc⟩
    have htk : preL true rs m ++ r.take (k + 1) = (preL true rs m ++ r.take k) ++ [x] := by
      rw [List.append_assoc, List.take_succ_eq_append_getElem hkl, hx, List.getD_eq_getElem?_getD, List.getElem?_eq_getElem hkl]; rfl
    have HX := Lib.hid htk
    have HX2 := Lib.hid (show x ∈ r by rw [hx, List.getD_eq_getElem?_getD, List.getElem?_eq_getElem hkl]; exact List.getElem_mem hkl)
    clear htk hlm hx
    have w8 : (k : Int) < (r.length : Int) := by omega
    have w9 : IntKind.i64.wrap ((k : Int) + 1) = (k : Int) + 1 := IntWalk.i64_in _ (by omega)
    go_wp2_with fail
    refine (bg44 _).mono ?_; rintro e w' ⟨rfl, rfl⟩
    clear hcx
    go_wp2_with fail
    refine (newSet45 _).mono ?_; rintro e w2 ⟨g, rfl, hk2, -, -⟩
    have I2 := Lib.hid (I.out.fresh hk2 (by simp))
    have R2 := Lib.hid (R.out.kept hk2 (by simp))
    clear hk2
    go_wp2_with fail
    obtain ⟨B, hB⟩ := HF.out.1 m hlt
    have hB' : Fine top ms ((top : Int) - S).toNat B ((preL true rs m ++ r.take k).map fv ++ [fv x]) := by
      have e : (preL true rs m ++ r.take k).map fv ++ [fv x] = (preL true rs m ++ r.take (k + 1)).map fv := by rw [HX.out]; simp
      rw [e]
      refine Fine.left (k := (r.drop (k + 1)).map fv) ?_
      rw [← List.map_append, List.append_assoc, List.take_append_drop, ← HR.out.2.1]; exact hB
    have hokx : okI x := HOK.out m hlt x (by rw [← HR.out.1]; exact HX2.out)
    have hll : (preL true rs m ++ r.take k).length < 1000 := by
      have h1 := HR.out.2.2.2.2
      have h2 := List.length_take_le k r
      rw [List.length_append]; omega
    refine (flt94 p h b g x top B ms S _ F _ _ w2 I2.out.pc I2.out.hc I2.out.map I2.out.bF HF.out.2.2 hB' hokx HS.out.1 HS.out.2.1 HS.out.2.2.1 HS.out.2.2.2.1 HS.out.2.2.2.2 hll).mono ?_
    rintro e w3 ⟨rfl, F', q1, q2, q3, q4⟩
    rw [← HX.out] at q1
    have I3 := Lib.hid (I2.out.step q1 q2 q3 q4)
    have R3 := Lib.hid (R2.out.step (A' := h :: p :: b :: F') (q2.sub fun i hi => List.mem_cons_of_mem _ (List.mem_cons_of_mem _ hi)) (fun i hi => by
      simp only [List.mem_cons] at hi ⊢
      rcases hi with h0 | h0 | h0 | hi
      · exact .inl (.inl h0)
      · exact .inl (.inr (.inl h0))
      · exact .inl (.inr (.inr (.inl h0)))
      · exact (q3 i hi).imp (fun h => .inr (.inr (.inr h))) id))
    clear q1 q2 q3 q4 hB hB' hll
    go_wp2_with fail
    go_roundw
    case rel => exact ⟨k + 1, F', by omega, by go_num, I3.out, R3.out⟩
    case measure => simp [intOf]; omega
  -- the collection
  obtain rfl : k = r.length := by omega
  have w8 : ¬ (r.length : Int) < (r.length : Int) := by omega
  clear hkl hk
  obtain ⟨l, hl⟩ : ∃ l, l = accL true rs m := ⟨_, rfl⟩
  have hll : preL true rs m ++ r.take r.length = l := by rw [hl, HR.out.2.1, List.take_length]
  rw [hll] at I
  have hlim : BkLim (bkOf top ms S (l.map fv)) := by
    obtain ⟨B, hB⟩ := HF.out.1 m hlt
    rw [← hl] at hB
    refine (hB.lim HS.out.1 HS.out.2.1 HS.out.2.2.1 HS.out.2.2.2.1 ?_).1
    have h1 := HR.out.2.2.2.2
    rw [List.length_map, hl, HR.out.2.1, List.length_append]; omega
  have HLM := Lib.hid hlim
  have HLL := Lib.hid hl
  clear hll hlim hl
  go_wp2_with fail
  have J := Lib.hid (I.out.fresh (((Kept.refl [] wr).alloc (.cells #[.nilIface] 102))) (by simp))
  have RJ := Lib.hid (R.out.kept (((Kept.refl [] wr).alloc (.cells #[.nilIface] 102))) (by simp))
  have hqb : wr.heap.size ≠ b := by have := I.out.lt b List.mem_cons_self; omega
  have hqh : wr.heap.size ≠ h := by have := heap_lt I.out.hc; omega
  have hhb : h ≠ b := fun e => I.out.hh (e ▸ List.mem_cons_self)
  have hqF : wr.heap.size ∉ F := fun hm => by have := I.out.lt _ (List.mem_cons_of_mem _ hm); omega
  have hd1 : (wr.alloc (.cells #[.nilIface] 102)).cell? ⟨wr.heap.size, 0, none⟩ = some .nilIface := by go_simp
  have hd2 : (wr.alloc (.cells #[.nilIface] 102)).frozen? ⟨wr.heap.size, 0, none⟩ = false := by go_simp
  refine (delta60 h b wr.heap.size top ms S l F _ J.out.hc J.out.map hd1 hd2 hqb hqh hhb HLM.out).mono ?_
  clear hd1 hd2
  rintro e w2 ⟨⟨n, rfl⟩, V, q1, q2, q3, q4⟩
  obtain ⟨F2, hF2⟩ : ∃ F2 : List Nat, F2 = [] := ⟨_, rfl⟩
  have QK := Lib.hid (((Kept.refl [wr.heap.size, b] wr).alloc (.cells #[.nilIface] 102)).trans q4)
  have I2 := Lib.hid (show ExInv w p h b top ms S (preL true rs (m + 1)) F2 w2 by
    rw [hF2, preL_true]; exact I.out.coll (F' := []) q3 QK.out (Nat.le_refl _) (by simp) (by simp))
  have R2 := Lib.hid (show ResAt w2 (h :: p :: b :: F2) top ms S (accL true rs) u14 m es by
    rw [hF2]
    exact (R.out.kept QK.out (by intro i hi; simp at hi ⊢; omega)).turn (by intro i hi; simp at hi ⊢; omega))
  have hcq : w2.cell? ⟨wr.heap.size, 0, none⟩ = some (.iface 106 (.agg #[V, .int .u8 2])) := q1
  have CO := Lib.hid q2
  clear q1 q2 q3 q4 R RJ I J hqb hqh hhb hqF
  have hta2 := hta V 2
  clear hta
  have hql2 : wr.heap.size < w2.heap.size := cell_lt hcq
  obtain ⟨i0, hi⟩ := info26
  have HI := Lib.hid hi
  have W1 : IntKind.i64.wrap ((m : Int) + 1) = (m : Int) + 1 := IntWalk.i64_in _ (by omega)
  clear hi
  rcases CO.out with ⟨hl0, rfl⟩ | ⟨hl0, g, z, r1, vp, vb, mn, mx, rfl, hmm, hsum, hg, hvp, hvb⟩
  · -- no data point
    have HZ := Lib.hid hl0
    clear hl0 CO
    go_wp2_with (at_builtin; refine wpList_append_own_at _ rfl _ _ 47 rfl 0 26 i0 (.agg exZero.toArray) 11 120 Tryz.underlying47 HI.out.1 HI.out.2.1 HI.out.2.2.1 HI.out.2.2.2 rfl (by decide) _ _ _ rfl (((R2.out.own.1.alloc _).alloc _).alloc _) ⟨w2.heap.size + 2, 0, none⟩ 1 1 exZero rfl rfl (by exact new_cells' ((w2.alloc (.cells exZero.toArray 26)).alloc (.cells #[.slice none 0 0, .int .u8 2] 106)) exZero 26 _ (by simp)) (by decide) (by unfold maxLen; omega) (by omega) (Nat.zero_le _) ?_; intro v' w4 hown' hgrow hnil hloc)
    have HO := Lib.hid (And.intro hown' (And.intro hgrow hloc))
    have K3 : Kept [] w2 (((w2.alloc (.cells exZero.toArray 26)).alloc (.cells #[.slice none 0 0, .int .u8 2] 106)).alloc (.cells exZero.toArray 26)) := (((Kept.refl [] w2).alloc _).alloc _).alloc _
    have I3 := I2.out.fresh K3 (by simp)
    have R3 := R2.out.kept K3 (by simp)
    have Rn := R3.push (.inl ⟨by rw [← HLL.out]; exact HZ.out, rfl⟩) rfl HO.out.1 HO.out.2.1 HO.out.2.2 I3.lt2
    have I4 := I3.own HO.out.2.1 R3.own HON.out
    have hON2 : ∀ z, v'.ownBlock = some z → w.heap.size ≤ z := fun z hz => by
      rcases HO.out.2.2 with e | e
      · exact HON.out z (e ▸ hz)
      · rw [hz] at e; cases e; exact I3.kept.size
    have RN := Lib.hid (And.intro I4 (And.intro Rn hON2))
    clear hON2 I3 R3 Rn I4 K3 hown' hgrow hnil hloc
    go_roundw
    case rel => exact ⟨m + 1, _, F2, by omega, by go_num, RN.out.1, RN.out.2.1, RN.out.2.2⟩
    case measure => simp [intOf]; omega
  · -- a data point
    have HM := Lib.hid (And.intro hmm (And.intro hsum (And.intro hvp (And.intro hvb hl0))))
    have HG := Lib.hid hg
    have hgl := heap_lt hg
    obtain ⟨T, hT⟩ : ∃ T, (bkOf top ms S (l.map fv)).pl.sum + (bkOf top ms S (l.map fv)).nl.sum + (bkOf top ms S (l.map fv)).zc = T := ⟨_, rfl⟩
    rw [hT] at hg
    obtain ⟨bk, hbk⟩ : ∃ bk, bkOf top ms S (l.map fv) = bk := ⟨_, rfl⟩
    have HBK := Lib.hid (And.intro hbk hT)
    rw [hbk] at hg
    clear hT
    obtain ⟨p1, p2, p3, hvp2⟩ : ∃ p1 p2 p3, vp = .slice p1 p2 p3 := by rcases HM.out.2.2.1 with ⟨h, _⟩ | ⟨_, h, _⟩ <;> exact ⟨_, _, _, h⟩
    obtain ⟨p4, p5, p6, hvb2⟩ : ∃ p1 p2 p3, vb = .slice p1 p2 p3 := by rcases HM.out.2.2.2.1 with ⟨h, _⟩ | ⟨_, h, _⟩ <;> exact ⟨_, _, _, h⟩
    subst hvp2 hvb2
    obtain ⟨pc, hpc⟩ : ∃ pc, pc = ptCells z T mn mx r1 bk (.slice p1 p2 p3) (.slice p4 p5 p6) := ⟨_, rfl⟩
    rw [← hpc] at hg
    have hps : pc.size = 18 := by rw [hpc]; rfl
    have hp1 : pc.all (·.oneCell') = true := by rw [hpc]; simp [ptCells, Value.oneCell', U]
    have hg2 : ((w2.alloc (.cells exZero.toArray 26)).alloc (.cells #[.slice (some ⟨g, 0, none⟩) 1 1, .int .u8 2] 106)).heap[g]? = some (.cells pc 116 (0, 0)) := (((Kept.refl [] w2).alloc _).alloc _).obj hg (by simp)
    have hg3 := alloc_new ((w2.alloc (.cells exZero.toArray 26)).alloc (.cells #[.slice (some ⟨g, 0, none⟩) 1 1, .int .u8 2] 106)) (.cells zeroPt 116)
    have hsz3 : ((w2.alloc (.cells exZero.toArray 26)).alloc (.cells #[.slice (some ⟨g, 0, none⟩) 1 1, .int .u8 2] 106)).heap.size = w2.heap.size + 2 := by simp
    rw [hsz3] at hg3
    have HPC := Lib.hid hpc
    have HPS := Lib.hid (And.intro hps (And.intro hp1 (And.intro hg2 hg3)))
    clear hg hmm hsum hvp hvb hl0 CO hbk hpc hps hp1 hg2 hg3 hsz3
    go_upto_region 20 with (first
      | (refine wpList_load_row rfl 116 _ rfl g pc 116 rfl HPS.out.2.2.1 _ Tryz.underlying116 rfl (by rw [HPS.out.1]; kernel_rfl) ?_)
      | (refine wpList_store_row rfl 116 _ _ rfl (w2.heap.size + 2) pc rfl rfl 116 zeroPt HPS.out.2.2.2 (by rw [HPS.out.1]; kernel_rfl) (by rw [HPS.out.1]; rfl) HPS.out.2.1 ?_))
    go_frame
    generalize hW5 : World.setRow _ (w2.heap.size + 2) pc = W5
    have K5 := Lib.hid (show Kept [] w2 W5 by rw [← hW5]; exact setRow_kept ((((Kept.refl [] w2).alloc _).alloc _).alloc _) (.inr (by omega)))
    have T5 := Lib.hid (show W5.heap[w2.heap.size + 2]? = some (.cells pc 116 (0, 0)) by rw [← hW5]; exact setRow_heap _ _ zeroPt pc 116 (0, 0) HPS.out.2.2.2)
    have X5 := Lib.hid (show W5.heap[w2.heap.size]? = some (.cells exZero.toArray 26 (0, 0)) by
      rw [← hW5, setRow_other _ _ _ _ (by omega)]
      exact (((Kept.refl [] (w2.alloc (.cells exZero.toArray 26))).alloc _).alloc _).obj (alloc_new w2 _) (by simp))
    have F5 := Lib.hid (show FX W5 w2.heap.size (w2.heap.size + 2) pc (.slice p1 p2 p3) (.slice p4 p5 p6) bk.pl bk.nl [] W5 from
      ⟨X5.out, T5.out, by rw [← HBK.out.1]; exact HM.out.2.2.1.kept K5.out, by rw [← HBK.out.1]; exact HM.out.2.2.2.1.kept K5.out, Kept.refl _ _, by simp⟩)
    clear hW5
    obtain ⟨xb, hxb⟩ : ∃ xb, w2.heap.size = xb := ⟨_, rfl⟩
    have HXB := Lib.hid hxb
    rw [hxb] at F5
    have T5' := Lib.hid (show W5.heap[xb + 2]? = some (.cells pc 116 (0, 0)) by rw [← hxb]; exact T5.out)
    rw [hxb]
    clear hxb
    go_cut [] from 74 to 98 (fun wx => FXE W5 xb (xb + 2) pc T (IntKind.u64.wrap r1) bk.sc bk.zc bk.ps bk.ns bk.pl bk.nl wx)
    case first =>
      have hbl : bk.pl.length ≤ 1000 ∧ bk.nl.length ≤ 1000 := by rw [← HBK.out.1]; have h1 := HLM.out.pl; have h2 := HLM.out.nl; omega
      have HBL := Lib.hid hbl
      have FD := F5.out.dr
      have e0 : W5.drew.cell? ⟨xb, 0, none⟩ = some (.bool false) := cellOf FD.x rfl
      have e1 : W5.drew.cell? ⟨xb, 1, none⟩ = some (.int .u64 0) := cellOf FD.x rfl
      have e2 : W5.drew.cell? ⟨xb, 2, none⟩ = some (.int .u64 0) := cellOf FD.x rfl
      have e3 : W5.drew.cell? ⟨xb, 3, none⟩ = some (.int .u64 0) := cellOf FD.x rfl
      have e4 : W5.drew.cell? ⟨xb, 4, none⟩ = some (.int .u64 0) := cellOf FD.x rfl
      have e5 : W5.drew.cell? ⟨xb, 5, none⟩ = some (.int .i32 0) := cellOf FD.x rfl
      have FX1 := Lib.hid FD
      have hne : xb ≠ xb + 2 := by omega
      clear hbl FD e0 e1 e2 e3 e4 e5
      have tc : ∀ {w' : World} {O : List (Value × List Nat)}, FX W5 xb (xb + 2) pc (.slice p1 p2 p3) (.slice p4 p5 p6) bk.pl bk.nl O w' →
        w'.cell? ⟨xb + 2, 4, none⟩ = some (.int .u64 (T : Int)) ∧ w'.cell? ⟨xb + 2, 9, none⟩ = some (.int .i64 r1) ∧ w'.cell? ⟨xb + 2, 10, none⟩ = some (.int .i32 bk.sc) ∧ w'.cell? ⟨xb + 2, 11, none⟩ = some (.int .u64 (bk.zc : Int)) ∧
        w'.cell? ⟨xb + 2, 12, none⟩ = some (.int .i32 bk.ps) ∧ w'.cell? ⟨xb + 2, 13, none⟩ = some (.slice p1 p2 p3) ∧ w'.cell? ⟨xb + 2, 14, none⟩ = some (.int .i32 bk.ns) ∧ w'.cell? ⟨xb + 2, 15, none⟩ = some (.slice p4 p5 p6) := by
        intro w' O hF
        have h := hF.t
        rw [HPC.out] at h
        exact ⟨cellOf h rfl, cellOf h rfl, cellOf h rfl, cellOf h rfl, cellOf h rfl, cellOf h rfl, cellOf h rfl, cellOf h rfl⟩
      have TC : Hid (∀ (w' : World) (O : List (Value × List Nat)), FX W5 xb (xb + 2) pc (.slice p1 p2 p3) (.slice p4 p5 p6) bk.pl bk.nl O w' → _) := Lib.hid (fun w' O h => tc h)
      clear tc
      obtain ⟨t4, t9, t10, t11, t12, t13, t14, t15⟩ := TC.out _ _ FX1.out
      go_region_held3 (fun w' => w'.cell? ⟨xb + 2, 4, none⟩ = some (.int .u64 (T : Int)) ∧ w'.cell? ⟨xb + 2, 9, none⟩ = some (.int .i64 r1) ∧ w'.cell? ⟨xb + 2, 10, none⟩ = some (.int .i32 bk.sc) ∧ w'.cell? ⟨xb + 2, 11, none⟩ = some (.int .u64 (bk.zc : Int)) ∧
          w'.cell? ⟨xb + 2, 12, none⟩ = some (.int .i32 bk.ps) ∧ w'.cell? ⟨xb + 2, 13, none⟩ = some (.slice p1 p2 p3) ∧ w'.cell? ⟨xb + 2, 14, none⟩ = some (.int .i32 bk.ns) ∧ w'.cell? ⟨xb + 2, 15, none⟩ = some (.slice p4 p5 p6))
        (first
          | (refine ⟨?_, ?_, ?_, ?_, ?_, ?_, ?_, ?_⟩ <;> (repeat rw [World.cell?_setCell_far _ _ _ _ hne]) <;> assumption))
        (first
          | (go_at_call 39; refine (bits39 _ _).mono ?_; rintro e w' ⟨rfl, rfl⟩)
          | (refine step_append_num (.slice p1 p2 p3) bk.pl rfl _ _ rfl rfl rfl FX1.out.p HBL.out.1 ?_
             intro ad1 c1 wA hownA hgA
             have FX1 := Lib.hid (FX1.out.push hownA hgA)
             clear hownA hgA
             have e0 : wA.cell? ⟨xb, 0, none⟩ = some (.bool false) := cellOf FX1.out.x rfl
             have e1 : wA.cell? ⟨xb, 1, none⟩ = some (.int .u64 0) := cellOf FX1.out.x rfl
             have e2 : wA.cell? ⟨xb, 2, none⟩ = some (.int .u64 0) := cellOf FX1.out.x rfl
             have e3 : wA.cell? ⟨xb, 3, none⟩ = some (.int .u64 0) := cellOf FX1.out.x rfl
             have e4 : wA.cell? ⟨xb, 4, none⟩ = some (.int .u64 0) := cellOf FX1.out.x rfl
             have e5 : wA.cell? ⟨xb, 5, none⟩ = some (.int .i32 0) := cellOf FX1.out.x rfl
             have e6 : wA.cell? ⟨xb, 6, none⟩ = some (.int .u64 0) := cellOf FX1.out.x rfl
             have e7 : wA.cell? ⟨xb, 7, none⟩ = some (.int .i32 0) := cellOf FX1.out.x rfl
             have e8 : wA.cell? ⟨xb, 8, none⟩ = some (.slice none 0 0) := cellOf FX1.out.x rfl
             have e9 : wA.cell? ⟨xb, 9, none⟩ = some (.int .i32 0) := cellOf FX1.out.x rfl
             have e10 : wA.cell? ⟨xb, 10, none⟩ = some (.slice none 0 0) := cellOf FX1.out.x rfl
             have ff : ∀ i, wA.frozen? ⟨xb, i, none⟩ = false := fun i => frOf FX1.out.x
             obtain ⟨t4, t9, t10, t11, t12, t13, t14, t15⟩ := TC.out _ _ FX1.out)
          | (refine step_append_num (.slice p4 p5 p6) bk.nl rfl _ _ rfl rfl rfl FX1.out.n HBL.out.2 ?_
             intro ad2 c2 wB hownB hgB
             have FX1 := Lib.hid (FX1.out.push hownB hgB)
             clear hownB hgB
             have e0 : wB.cell? ⟨xb, 0, none⟩ = some (.bool false) := cellOf FX1.out.x rfl
             have e1 : wB.cell? ⟨xb, 1, none⟩ = some (.int .u64 0) := cellOf FX1.out.x rfl
             have e2 : wB.cell? ⟨xb, 2, none⟩ = some (.int .u64 0) := cellOf FX1.out.x rfl
             have e3 : wB.cell? ⟨xb, 3, none⟩ = some (.int .u64 0) := cellOf FX1.out.x rfl
             have e4 : wB.cell? ⟨xb, 4, none⟩ = some (.int .u64 0) := cellOf FX1.out.x rfl
             have e5 : wB.cell? ⟨xb, 5, none⟩ = some (.int .i32 0) := cellOf FX1.out.x rfl
             have e6 : wB.cell? ⟨xb, 6, none⟩ = some (.int .u64 0) := cellOf FX1.out.x rfl
             have e7 : wB.cell? ⟨xb, 7, none⟩ = some (.int .i32 0) := cellOf FX1.out.x rfl
             have e8 : wB.cell? ⟨xb, 8, none⟩ = some (.slice none 0 0) := cellOf FX1.out.x rfl
             have e9 : wB.cell? ⟨xb, 9, none⟩ = some (.int .i32 0) := cellOf FX1.out.x rfl
             have e10 : wB.cell? ⟨xb, 10, none⟩ = some (.slice none 0 0) := cellOf FX1.out.x rfl
             have ff : ∀ i, wB.frozen? ⟨xb, i, none⟩ = false := fun i => frOf FX1.out.x
             obtain ⟨t4, t9, t10, t11, t12, t13, t14, t15⟩ := TC.out _ _ FX1.out))
      all_goals
        go_wp2_with fail
        go_meet
        exact FX.fin FX1.out hne (T : Int) (IntKind.u64.wrap r1) bk.sc bk.zc bk.ps bk.ns (by simp) (by simp)
    case rest =>
    obtain ⟨va, vb', hx, htt, hk, ha, hb', ⟨pa, na, ca, rfl⟩, ⟨pb, nb, cb, rfl⟩⟩ := hcut
    have CX := Lib.hid (And.intro hx (And.intro htt (And.intro hk (And.intro ha hb'))))
    have htt2 := htt
    rw [HPC.out] at htt2
    have m5 : wc.cell? ⟨xb + 2, 5, none⟩ = some (.int .i64 (sgn mn)) := cellOf htt2 rfl
    have m6 : wc.cell? ⟨xb + 2, 6, none⟩ = some (.bool true) := cellOf htt2 rfl
    clear hx htt hk ha hb' htt2
    go_wp2_with fail
    refine (extVal48 (sgn mn) true _).mono ?_; rintro e wD ⟨rfl, hkD⟩
    have XD := Lib.hid (hkD.obj CX.out.1 (by simp))
    have TD := Lib.hid (hkD.obj CX.out.2.1 (by simp))
    have KD := Lib.hid hkD
    have x3 : wD.cell? ⟨xb, 3, none⟩ = some (.int .u64 0) := cellOf XD.out rfl
    have y3 : wD.frozen? ⟨xb, 3, none⟩ = false := frOf XD.out
    have htt2 := TD.out
    rw [HPC.out] at htt2
    have m7 : wD.cell? ⟨xb + 2, 7, none⟩ = some (.int .i64 (sgn mx)) := cellOf htt2 rfl
    have m8 : wD.cell? ⟨xb + 2, 8, none⟩ = some (.bool true) := cellOf htt2 rfl
    have hne2 : xb ≠ xb + 2 := by omega
    clear hkD m5 m6 htt2
    go_wp2_with fail
    refine (bits39 _ _).mono ?_; rintro e w' ⟨rfl, rfl⟩
    go_wp2_with fail
    refine grab (fun W => W.heap[xb]? = some (.cells #[.bool true, .int .u64 (T : Int), .int .u64 (IntKind.u64.wrap r1), .int .u64 (IntKind.u64.wrap (sgn mn)), .int .u64 0, .int .i32 bk.sc, .int .u64 (bk.zc : Int), .int .i32 bk.ps, .slice pa na ca, .int .i32 bk.ns, .slice pb nb cb] 26 (0, 0)) ∧ Kept [xb] wc W) ?_ ?_
    · exact ⟨blkSet' XD.out rfl, (KD.out.sub (by simp)).setCell (.inl (by simp)) _⟩
    rintro wF ⟨hxF, hkF⟩
    have XF := Lib.hid hxF
    have KF := Lib.hid hkF
    clear x3 y3 m7 m8 hxF hkF
    refine (extVal48 (sgn mx) true _).mono ?_; rintro e wG ⟨rfl, hkG⟩
    have XG := Lib.hid (hkG.obj XF.out (by simp))
    have KG := Lib.hid (KF.out.trans (hkG.sub (by simp)))
    have x4 : wG.cell? ⟨xb, 4, none⟩ = some (.int .u64 0) := cellOf XG.out rfl
    have y4 : wG.frozen? ⟨xb, 4, none⟩ = false := frOf XG.out
    have XH := Lib.hid (show (wG.setCell ⟨xb, 4, none⟩ (.int .u64 (IntKind.u64.wrap (sgn mx)))).heap[xb]? = some (.cells #[.bool true, .int .u64 (T : Int), .int .u64 (IntKind.u64.wrap r1), .int .u64 (IntKind.u64.wrap (sgn mn)), .int .u64 (IntKind.u64.wrap (sgn mx)), .int .i32 bk.sc, .int .u64 (bk.zc : Int), .int .i32 bk.ps, .slice pa na ca, .int .i32 bk.ns, .slice pb nb cb] 26 (0, 0)) from blkSet' XG.out rfl)
    have KH := Lib.hid (show Kept [xb] wc (wG.setCell ⟨xb, 4, none⟩ (.int .u64 (IntKind.u64.wrap (sgn mx)))) from KG.out.setCell (.inl (by simp)) _)
    have hs3 : xb + 2 < (wG.setCell ⟨xb, 4, none⟩ (.int .u64 (IntKind.u64.wrap (sgn mx)))).heap.size := heap_lt (KH.out.obj CX.out.2.1 (by simp))
    have hxw : w2.heap.size = xb := HXB.out
    have KALL := Lib.hid (((K5.out.sub (S' := [xb]) (by simp)).trans CX.out.2.2.1).trans KH.out)
    have R3 := Lib.hid (R2.out.kept KALL.out (by intro i hi; right; simp at hi; omega))
    have HXW := Lib.hid hxw
    clear hxw
    clear hkG
    go_wp2_with (first
      | (go_at_call 39; refine (bits39 _ _).mono ?_; rintro e w' ⟨rfl, rfl⟩)
      | (refine wpList_load_row rfl 26 _ rfl xb #[.bool true, .int .u64 (T : Int), .int .u64 (IntKind.u64.wrap r1), .int .u64 (IntKind.u64.wrap (sgn mn)), .int .u64 (IntKind.u64.wrap (sgn mx)), .int .i32 bk.sc, .int .u64 (bk.zc : Int), .int .i32 bk.ps, .slice pa na ca, .int .i32 bk.ns, .slice pb nb cb] 26 rfl XH.out _ Tryz.underlying26 rfl (by kernel_rfl) ?_)
      | (at_builtin; refine wpList_append_own_at _ rfl _ _ 47 rfl 0 26 i0 (.agg exZero.toArray) 11 120 Tryz.underlying47 HI.out.1 HI.out.2.1 HI.out.2.2.1 HI.out.2.2.2 rfl (by decide) _ _ _ rfl (R3.out.own.1.alloc _) ⟨wG.heap.size, 0, none⟩ 1 1 [.bool true, .int .u64 (T : Int), .int .u64 (IntKind.u64.wrap r1), .int .u64 (IntKind.u64.wrap (sgn mn)), .int .u64 (IntKind.u64.wrap (sgn mx)), .int .i32 bk.sc, .int .u64 (bk.zc : Int), .int .i32 bk.ps, .slice pa na ca, .int .i32 bk.ns, .slice pb nb cb] rfl rfl (by exact new_cells' (wG.setCell ⟨xb, 4, none⟩ (.int .u64 (IntKind.u64.wrap (sgn mx)))) [.bool true, .int .u64 (T : Int), .int .u64 (IntKind.u64.wrap r1), .int .u64 (IntKind.u64.wrap (sgn mn)), .int .u64 (IntKind.u64.wrap (sgn mx)), .int .i32 bk.sc, .int .u64 (bk.zc : Int), .int .i32 bk.ps, .slice pa na ca, .int .i32 bk.ns, .slice pb nb cb] 26 _ (by simp)) (by simp [Value.oneCell']) (by unfold maxLen; omega) (by omega) (Nat.zero_le _) ?_; intro v' w4 hown' hgrow hnil hloc))
    have HO := Lib.hid (And.intro hown' (And.intro hgrow hloc))
    have hxw : w2.heap.size = xb := HXW.out
    have K3 : Kept [xb] w2 ((wG.setCell ⟨xb, 4, none⟩ (.int .u64 (IntKind.u64.wrap (sgn mx)))).alloc (.cells #[.bool true, .int .u64 (T : Int), .int .u64 (IntKind.u64.wrap r1), .int .u64 (IntKind.u64.wrap (sgn mn)), .int .u64 (IntKind.u64.wrap (sgn mx)), .int .i32 bk.sc, .int .u64 (bk.zc : Int), .int .i32 bk.ps, .slice pa na ca, .int .i32 bk.ns, .slice pb nb cb] 26)) := KALL.out.alloc _
    have I3 := I2.out.fresh K3 (by intro i hi; simp at hi; omega)
    have R3a := R2.out.kept K3 (by intro i hi; right; simp at hi; omega)
    have KC : Kept [xb] wc ((wG.setCell ⟨xb, 4, none⟩ (.int .u64 (IntKind.u64.wrap (sgn mx)))).alloc (.cells #[.bool true, .int .u64 (T : Int), .int .u64 (IntKind.u64.wrap r1), .int .u64 (IntKind.u64.wrap (sgn mn)), .int .u64 (IntKind.u64.wrap (sgn mx)), .int .i32 bk.sc, .int .u64 (bk.zc : Int), .int .i32 bk.ps, .slice pa na ca, .int .i32 bk.ns, .slice pb nb cb] 26)) := KH.out.alloc _
    have hs5 : xb + 2 < W5.heap.size := heap_lt T5'.out
    have av : ∀ {v : Value} {n : Nat} {xs : List Value}, wc.ownsRow 0 23 1 v n xs → (∀ z, v.ownBlock = some z → W5.heap.size ≤ z) → OwnAv ((wG.setCell ⟨xb, 4, none⟩ (.int .u64 (IntKind.u64.wrap (sgn mx)))).alloc (.cells #[.bool true, .int .u64 (T : Int), .int .u64 (IntKind.u64.wrap r1), .int .u64 (IntKind.u64.wrap (sgn mn)), .int .u64 (IntKind.u64.wrap (sgn mx)), .int .i32 bk.sc, .int .u64 (bk.zc : Int), .int .i32 bk.ps, .slice pa na ca, .int .i32 bk.ns, .slice pb nb cb] 26)) (h :: p :: b :: F2) 23 1 v n xs := by
      intro v n xs h1 h2
      refine ⟨own_keptK h1 KC fun z hz hm => ?_, fun z hz hm => ?_⟩
      · have := h2 z hz; simp at hm; omega
      · have h3 := h2 z hz; have h4 := I2.out.lt2 z hm; omega
    have Rn := R3a.push (cs := [.bool true, .int .u64 (T : Int), .int .u64 (IntKind.u64.wrap r1), .int .u64 (IntKind.u64.wrap (sgn mn)), .int .u64 (IntKind.u64.wrap (sgn mx)), .int .i32 bk.sc, .int .u64 (bk.zc : Int), .int .i32 bk.ps, .slice pa na ca, .int .i32 bk.ns, .slice pb nb cb]) (.inr ⟨by rw [← HLL.out]; exact HM.out.2.2.2.2, r1, mn, mx, .slice pa na ca, .slice pb nb cb, by rw [← HLL.out]; exact HM.out.1, by rw [← HLL.out]; exact HM.out.2.1, by rw [← HLL.out, HBK.out.2, HBK.out.1]; rfl, by rw [← HLL.out, HBK.out.1]; exact av CX.out.2.2.2.1.1 CX.out.2.2.2.1.2, by rw [← HLL.out, HBK.out.1]; exact av CX.out.2.2.2.2.1 CX.out.2.2.2.2.2⟩) rfl HO.out.1 HO.out.2.1 HO.out.2.2 I3.lt2
    have I4 := I3.own HO.out.2.1 R3a.own HON.out
    have hON2 : ∀ z, v'.ownBlock = some z → w.heap.size ≤ z := fun z hz => by
      rcases HO.out.2.2 with e | e
      · exact HON.out z (e ▸ hz)
      · rw [hz] at e; cases e; exact I3.kept.size
    have RN := Lib.hid (And.intro I4 (And.intro Rn hON2))
    clear hON2 I3 R3a Rn I4 K3 KC av hown' hgrow hnil hloc hxw hs5
    go_roundw
    case rel => exact ⟨m + 1, _, F2, by omega, by go_num, RN.out.1, RN.out.2.1, RN.out.2.2⟩
    case measure => simp [intOf]; omega

end Go.Proofs.YtlpddogcnpokfaaGreat.I
