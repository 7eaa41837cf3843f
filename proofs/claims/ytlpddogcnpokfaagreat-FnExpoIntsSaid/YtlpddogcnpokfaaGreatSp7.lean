/- The reference: ExpoRight, and ExpoPoint of no number. slices.Equal on rows of counts. expoFew on rounds. zzFits of rounds of float64 numbers. -/
import Derived.Test.YtlpddogcnpokfaaGreatSp6
import Derived.BigQuiet
namespace Go.Proofs.YtlpddogcnpokfaaGreat
open Go.RowKit Go.Maps
set_option maxRecDepth 100000 in
theorem right17 (size scale : Int) (w : World) : Calls Tryz.prog 17 #[.int .i32 size, .int .i32 scale] w fun e w' => e = .returned (.bool (decide (1 ≤ size ∧ size ≤ 200 ∧ -10 ≤ scale ∧ scale ≤ 20))) ∧ Kept [] w w' := by
  by_cases h1 : 1 ≤ size <;> by_cases h2 : size ≤ 200 <;> by_cases h3 : -10 ≤ scale <;> by_cases h4 : scale ≤ 20
  all_goals
    go_enter Tryz.func17, Tryz.ntmps17
    go_wp2_with fail
    go_ret
    refine ⟨?_, Kept.refl _ _⟩
    simp [h1, h2, h3, h4]
set_option maxHeartbeats 1000000 in
set_option maxRecDepth 100000 in
theorem point19_nil (size scale : Int) (w : World) : Calls Tryz.prog 19 #[.int .i32 size, .int .i32 scale, .slice none 0 0] w fun e w' => e = .returned (.tuple #[.agg exZero.toArray, .bool false]) ∧ Kept [] w w' := by
  go_enter Tryz.func19, Tryz.ntmps19
  go_wp2_with (refine wpList_store_row rfl 43 _ _ rfl w.heap.size exZero.toArray rfl rfl 43 exZero.toArray (MapKept.heap_alloc w _).1 exz_sz rfl exz_one ?_)
  (try simp only [Exit.inBlock, Exit.then])
  refine bodyPost_ret (res19 (g := w.heap.size) (cs := exZero.toArray) (op := false) rfl rfl (setRow_heap _ _ _ _ _ _ (MapKept.heap_alloc w _).1) rfl) rfl ?_
  exact ⟨rfl, setRow_kept ((Kept.refl [] w).alloc _) (.inr (Nat.le_refl _))⟩
end Go.Proofs.YtlpddogcnpokfaaGreat
namespace Go.Proofs.YtlpddogcnpokfaaGreat
open Go.RowKit Go.Maps
theorem SlAt.read {w : World} {v : Value} {xs : List Value} (h : SlAt w v xs) : ∃ p c, v = .slice p xs.length c ∧ ∀ i u, xs[i]? = some u → ∃ a, p = some a ∧ w.cell? (a.add i) = some u := by
  rcases h with ⟨rfl, rfl⟩ | ⟨a, c, h1, h2, h3, h4, h5⟩
  · exact ⟨none, 0, rfl, fun i u hi => by simp at hi⟩
  · exact ⟨some a, c, h1, fun i u hi => ⟨a, rfl, h5 i u hi⟩⟩
set_option maxHeartbeats 1000000 in
set_option maxRecDepth 100000 in
theorem equal13 (l k : List Nat) (V W : Value) (w : World) (hV : SlAt w V (l.map U)) (hW : SlAt w W (k.map U)) (hl : l.length ≤ 100000) :
    Calls Tryz.prog 13 #[V, W] w fun e w' => e = .returned (.bool (decide (l = k))) ∧ Kept [] w w' := by
  obtain ⟨p, c, rfl, hp⟩ := hV.read
  obtain ⟨q, d, rfl, hq⟩ := hW.read
  rw [List.length_map, List.length_map]
  have HP := Lib.hid hp
  have HQ := Lib.hid hq
  clear hp hq hV hW
  by_cases hlk : l.length = k.length
  · have HL := Lib.hid hlk
    rw [← hlk]
    clear hlk
    go_enter Tryz.func13, Tryz.ntmps13
    go_wp2_with fail
    go_loopw [13] (fun i wr => ∃ m : Nat, m ≤ l.length ∧ i = .int .i64 (m : Int) ∧ (∀ j, j < m → l[j]? = k[j]?) ∧ Kept [] w wr ∧ (∀ a, wr.cell? a = w.cell? a)) (fun i _ => l.length - (intOf i).toNat)
    case atStart => exact ⟨0, Nat.zero_le _, rfl, fun j h => by omega, Kept.refl _ _, fun _ => rfl⟩
    case round =>
    obtain ⟨m, hm, rfl, hpre, hkp, hce⟩ := hrel
    have HI := Lib.hid (And.intro hm (And.intro hpre (And.intro hkp hce)))
    clear hm hpre hkp hce
    by_cases hmlt : m < l.length
    · obtain ⟨x, hx⟩ : ∃ x, l[m]? = some x := ⟨_, List.getElem?_eq_getElem hmlt⟩
      obtain ⟨y, hy⟩ : ∃ y, k[m]? = some y := ⟨_, List.getElem?_eq_getElem (by have := HL.out; omega)⟩
      obtain ⟨a1, rfl, h1⟩ := HP.out m (U x) (by rw [List.getElem?_map, hx]; rfl)
      obtain ⟨a2, rfl, h2⟩ := HQ.out m (U y) (by rw [List.getElem?_map, hy]; rfl)
      have c1 : wr.cell? (a1.add m) = some (.int .u64 (x : Int)) := (HI.out.2.2.2 _).trans h1
      have c2 : wr.cell? (a2.add m) = some (.int .u64 (y : Int)) := (HI.out.2.2.2 _).trans h2
      have hmi : (m : Int) < (l.length : Int) := by omega
      have HXY := Lib.hid (And.intro hx hy)
      clear h1 h2 hx hy
      go_wp2_with fail
      go_quiet (fail)
      rename_i K0 hK0 K1 hK1
      first | refine hK1 _ _ ?_ | refine hK0 _ _ ?_
      have hmw : IntKind.i64.wrap ((m : Int) + 1) = (m : Int) + 1 := IntWalk.i64_in _ (by omega)
      by_cases hxy : x = y
      · subst hxy
        have hne : ((x : Int) != (x : Int)) = false := by simp
        rw [hne]
        go_wp2_with fail
        go_roundw
        case rel =>
          refine ⟨m + 1, by omega, by go_num, ?_, HI.out.2.2.1.dr ⟨_, rfl⟩, fun a => HI.out.2.2.2 a⟩
          intro j hj
          rcases Nat.lt_or_ge j m with h | h
          · exact HI.out.2.1 j h
          · obtain rfl : j = m := by omega
            rw [HXY.out.1, HXY.out.2]
        case measure => simp [intOf]; omega
      · have hne : ((x : Int) != (y : Int)) = true := by simp; omega
        rw [hne]
        have hlk : ¬ l = k := fun e => by
          have a := HXY.out.1; rw [e, HXY.out.2] at a; injection a with a; exact hxy a.symm
        have HNE := Lib.hid hlk
        clear hlk
        go_wp2_with fail
        go_ret
        exact ⟨by rw [decide_eq_false HNE.out]; rfl, HI.out.2.2.1.dr ⟨_, rfl⟩⟩
    · have hlk : l = k := by
        apply List.ext_getElem?
        intro j
        rcases Nat.lt_or_ge j m with h | h
        · exact HI.out.2.1 j h
        · rw [List.getElem?_eq_none (by omega), List.getElem?_eq_none (by have := HL.out; omega)]
      have HEQ := Lib.hid hlk
      clear hlk
      have hml : (m : Int) = (l.length : Int) := by have := HI.out.1; omega
      go_wp2_with fail
      go_ret
      exact ⟨by rw [decide_eq_true HEQ.out]; rfl, HI.out.2.2.1⟩
  · have hne : ¬ l = k := fun e => hlk (by rw [e])
    rw [decide_eq_false hne]
    have hli : ((l.length : Int) != (k.length : Int)) = true := by simp; omega
    have hlj : ¬ (l.length : Int) = (k.length : Int) := by omega
    clear hlk hne
    go_enter Tryz.func13, Tryz.ntmps13
    go_wp2_with fail
    go_ret
    exact ⟨rfl, Kept.refl _ _⟩
end Go.Proofs.YtlpddogcnpokfaaGreat
namespace Go.Proofs.YtlpddogcnpokfaaGreat
open Go.RowKit Go.Maps
set_option maxHeartbeats 1000000 in
set_option maxRecDepth 100000 in
theorem few27 (rs : List Value) (ns : List Nat) (V : Value) (w : World) (hV : SlAt w V rs) (hlen : rs.length = ns.length) (hrs : ∀ (i n : Nat), ns[i]? = some n → ∃ (p : Option Addr) (c : Nat), rs[i]? = some (Value.slice p n c)) (hl : ns.length ≤ 2147483647) (hn : ∀ n, n ∈ ns → n ≤ maxLen) :
    Calls Tryz.prog 27 #[V] w fun e w' => e = .returned (.bool (decide ((∀ n, n ∈ ns → n ≤ 60) ∧ ns.length ≤ 6))) ∧ Kept [] w w' := by
  obtain ⟨p, c, rfl, hp⟩ := hV.read
  rw [hlen]
  have HP := Lib.hid (And.intro hp (And.intro hrs hn))
  have HLN := Lib.hid hl
  clear hp hV hlen hrs hn hl
  go_enter Tryz.func27, Tryz.ntmps27
  go_wp2_with fail
  go_loopw [7] (fun i wr => ∃ m : Nat, m ≤ ns.length ∧ i = .int .i64 (m : Int) ∧ (∀ (j n : Nat), j < m → ns[j]? = some n → n ≤ 60) ∧ w = wr) (fun i _ => ns.length - (intOf i).toNat)
  case atStart => exact ⟨0, Nat.zero_le _, rfl, fun j n h => by omega, rfl⟩
  case round =>
  obtain ⟨m, hm, rfl, hpre, rfl⟩ := hrel
  have HI := Lib.hid (And.intro hm hpre)
  clear hm hpre
  by_cases hmlt : m < ns.length
  · obtain ⟨n, hx⟩ : ∃ n, ns[m]? = some n := ⟨_, List.getElem?_eq_getElem hmlt⟩
    obtain ⟨p1, c1, hr⟩ := HP.out.2.1 m n hx
    obtain ⟨a1, rfl, h1⟩ := HP.out.1 m _ hr
    have hmi : (m : Int) < (ns.length : Int) := by omega
    have hmw : IntKind.i64.wrap ((m : Int) + 1) = (m : Int) + 1 := IntWalk.i64_in _ (by have := HLN.out; omega)
    have HX := Lib.hid hx
    clear hx hr
    by_cases h60 : n ≤ 60
    · have hg : ¬ ((60 : Int) < (n : Int)) := by omega
      go_wp2_with fail
      go_roundw
      case rel =>
        refine ⟨m + 1, by omega, by go_num, ?_, trivial⟩
        intro j n' hj hx'
        rcases Nat.lt_or_ge j m with h | h
        · exact HI.out.2 j n' h hx'
        · obtain rfl : j = m := by omega
          rw [HX.out] at hx'; injection hx' with e; omega
      case measure => simp [intOf]; omega
    · have hg : ((60 : Int) < (n : Int)) := by omega
      go_wp2_with fail
      go_ret
      refine ⟨?_, Kept.refl _ _⟩
      rw [decide_eq_false (fun h => h60 (h.1 n (List.mem_of_getElem? HX.out)))]; rfl
  · have hml : (m : Int) = (ns.length : Int) := by have := HI.out.1; omega
    by_cases h6 : ns.length ≤ 6
    · have h6' : (ns.length : Int) ≤ 6 := by omega
      have H6 := Lib.hid h6
      go_wp2_with fail
      go_ret
      refine ⟨?_, Kept.refl _ _⟩
      rw [decide_eq_true ⟨fun n hn => by obtain ⟨j, hj⟩ := List.getElem?_of_mem hn; exact HI.out.2 j n (by have := (List.getElem?_eq_some_iff.1 hj).1; omega) hj, H6.out⟩]
      simp
    · have h6' : ¬ (ns.length : Int) ≤ 6 := by omega
      have H6 := Lib.hid h6
      go_wp2_with fail
      go_ret
      refine ⟨?_, Kept.refl _ _⟩
      rfl
end Go.Proofs.YtlpddogcnpokfaaGreat
namespace Go.Proofs.YtlpddogcnpokfaaGreat
open Go.RowKit Go.Maps
set_option maxHeartbeats 1000000 in
set_option maxRecDepth 100000 in
theorem fits26 (rs : List Value) (ns : List Nat) (V : Value) (w : World) (hV : SlAt w V rs) (hlen : rs.length = ns.length) (hrs : ∀ (i n : Nat), ns[i]? = some n → ∃ (p : Option Addr) (c : Nat), rs[i]? = some (Value.slice p n c)) (hl : ns.length ≤ 2147483647) (hn : ∀ n, n ∈ ns → n ≤ maxLen) :
    Calls Tryz.prog 26 #[V] w fun e w' => e = .returned (.bool (decide (∀ n, n ∈ ns → n ≤ 2147483647))) ∧ Kept [] w w' := by
  obtain ⟨p, c, rfl, hp⟩ := hV.read
  rw [hlen]
  have HP := Lib.hid (And.intro hp (And.intro hrs hn))
  have HLN := Lib.hid hl
  clear hp hV hlen hrs hn hl
  have hnb : ¬ ((2147483647 : Int) < (ns.length : Int)) := by have := HLN.out; omega
  go_enter Tryz.func26, Tryz.ntmps26
  go_wp2_with fail
  go_loopw [10] (fun i wr => ∃ m : Nat, m ≤ ns.length ∧ i = .int .i64 (m : Int) ∧ (∀ (j n : Nat), j < m → ns[j]? = some n → n ≤ 2147483647) ∧ w = wr) (fun i _ => ns.length - (intOf i).toNat)
  case atStart => exact ⟨0, Nat.zero_le _, rfl, fun j n h => by omega, rfl⟩
  case round =>
  obtain ⟨m, hm, rfl, hpre, rfl⟩ := hrel
  have HI := Lib.hid (And.intro hm hpre)
  clear hm hpre
  by_cases hmlt : m < ns.length
  · obtain ⟨n, hx⟩ : ∃ n, ns[m]? = some n := ⟨_, List.getElem?_eq_getElem hmlt⟩
    obtain ⟨p1, c1, hr⟩ := HP.out.2.1 m n hx
    obtain ⟨a1, rfl, h1⟩ := HP.out.1 m _ hr
    have hmi : (m : Int) < (ns.length : Int) := by omega
    have hmw : IntKind.i64.wrap ((m : Int) + 1) = (m : Int) + 1 := IntWalk.i64_in _ (by have := HLN.out; omega)
    have HX := Lib.hid hx
    clear hx hr
    by_cases h60 : n ≤ 2147483647
    · have hg : ¬ ((2147483647 : Int) < (n : Int)) := by omega
      go_wp2_with fail
      go_roundw
      case rel =>
        refine ⟨m + 1, by omega, by go_num, ?_, trivial⟩
        intro j n' hj hx'
        rcases Nat.lt_or_ge j m with h | h
        · exact HI.out.2 j n' h hx'
        · obtain rfl : j = m := by omega
          rw [HX.out] at hx'; injection hx' with e; omega
      case measure => simp [intOf]; omega
    · have hg : ((2147483647 : Int) < (n : Int)) := by omega
      go_wp2_with fail
      go_ret
      refine ⟨?_, Kept.refl _ _⟩
      have hno : ¬ ∀ n, n ∈ ns → n ≤ 2147483647 := fun h => h60 (h n (List.mem_of_getElem? HX.out))
      rw [decide_eq_false hno]; rfl
  · have hml : (m : Int) = (ns.length : Int) := by have := HI.out.1; omega
    go_wp2_with fail
    go_ret
    refine ⟨?_, Kept.refl _ _⟩
    have hyes : ∀ n, n ∈ ns → n ≤ 2147483647 := fun n hn => by obtain ⟨j, hj⟩ := List.getElem?_of_mem hn; exact HI.out.2 j n (by have := (List.getElem?_eq_some_iff.1 hj).1; omega) hj
    rw [decide_eq_true hyes]
    rfl
set_option maxRecDepth 100000 in
theorem fits26_big (p : Option Addr) (n c : Nat) (w : World) (h : (2147483647 : Int) < (n : Int)) :
    Calls Tryz.prog 26 #[.slice p n c] w fun e w' => e = .returned (.bool false) ∧ Kept [] w w' := by
  go_enter Tryz.func26, Tryz.ntmps26
  go_wp2_with fail
  go_ret
  exact ⟨rfl, Kept.refl _ _⟩
end Go.Proofs.YtlpddogcnpokfaaGreat
