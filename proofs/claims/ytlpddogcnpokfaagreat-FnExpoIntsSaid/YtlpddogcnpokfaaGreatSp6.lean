/- The reference: the data point of a list (ExpoPoint). -/
import Derived.Test.YtlpddogcnpokfaaGreatSp5
namespace Go.Proofs.YtlpddogcnpokfaaGreat
open Go.RowKit Go.Maps
theorem pIs_all (top : Nat) (l : List Nat) (x : Int) : x ∈ pIs top (l.take l.length).reverse ↔ x ∈ pIs top l := by
  unfold pIs; rw [List.take_length]; simp [List.mem_map, List.mem_filter]
theorem nIs_all (top : Nat) (l : List Nat) (x : Int) : x ∈ nIs top (l.take l.length).reverse ↔ x ∈ nIs top l := by
  unfold nIs; rw [List.take_length]; simp [List.mem_map, List.mem_filter]
theorem SlAt.form {w : World} {v : Value} {xs : List Value} (h : SlAt w v xs) : ∃ p n c, v = .slice p n c := by
  rcases h with ⟨h, _⟩ | ⟨a, c, h, _⟩
  · exact ⟨_, _, _, h⟩
  · exact ⟨_, _, _, h⟩
theorem SlAt.keptS {S : List Nat} {w w' : World} {v : Value} {xs : List Value} (h : SlAt w v xs) (hk : Kept S w w') (hS : ∀ a n c, v = .slice (some a) n c → a.block ∉ S) : SlAt w' v xs := by
  rcases h with h | ⟨a, c, h1, h2, h3, h4, h5⟩
  · exact .inl h
  · exact .inr ⟨a, c, h1, Nat.lt_of_lt_of_le h2 hk.size, h3, h4, fun i u hi => (cellKept hk (by rw [Addr_add_block]; exact h2) (by rw [Addr_add_block]; exact hS _ _ _ h1)).trans (h5 i u hi)⟩
theorem pIs_perm (top : Nat) (l : List Nat) : (pIs top (l.take l.length).reverse).Perm (pIs top l) := by
  unfold pIs; rw [List.take_length]; exact ((List.reverse_perm l).filter _).map _
theorem nIs_perm (top : Nat) (l : List Nat) : (nIs top (l.take l.length).reverse).Perm (nIs top l) := by
  unfold nIs; rw [List.take_length]; exact ((List.reverse_perm l).filter _).map _
theorem exz_one : exZero.toArray.all (·.oneCell') = true := by simp [exZero, Value.oneCell', U]
theorem exz_sz : (Tryz.prog.info? 43).map (·.size) = some exZero.toArray.size := by kernel_rfl
theorem res19 {tmps : Array Value} {w : World} {g : Nat} {cs : Array Value} {op : Bool} (h6 : tmps.getD 6 undef = .pointer (some ⟨g, 0, none⟩)) (h7 : tmps.getD 7 undef = .bool op) (hg : w.heap[g]? = some (.cells cs 43 (0, 0))) (hs : cs.size = 11) :
    (results Tryz.f19 tmps).run Tryz.prog w = .ok (.tuple #[.agg cs, .bool op]) w := by
  have hl : (loadVar 43 ⟨g, 0, none⟩).run Tryz.prog w = .ok (.agg cs) w := run_loadVar_row w g 43 43 cs (0, 0) _ hg Tryz.underlying43 rfl (by rw [hs]; kernel_rfl)
  simp only [Array.getD_eq_getD_getElem?] at h6 h7
  simp [results, h6, h7, hl, asAddr]
/-- the reference's data point of a list -/
def SpPt (w' : World) (l : List Nat) (top : Nat) (size scale : Int) (cs : List Value) : Prop :=
  ∃ b s stp lp stn ln va vb, ((top : Int) - scale).toNat ≤ b ∧ b ≤ top + 10 ∧ Sd b (pIs top l) stp lp ∧ Sd b (nIs top l) stn ln ∧ FitB size b (pIs top l) ∧ FitB size b (nIs top l) ∧
    (∀ b', ((top : Int) - scale).toNat ≤ b' → b' < b → ¬ (FitB size b' (pIs top l) ∧ FitB size b' (nIs top l))) ∧ SpSum l.reverse s ∧
    cs = [.bool true, U l.length, U s, U (spMn l), U (spMx l), .int .i32 ((top : Int) - b), U (zIs l), .int .i32 stp, va, .int .i32 stn, vb] ∧ SlAt w' va (lp.map U) ∧ SlAt w' vb (ln.map U)
def PtPost (w : World) (l : List Nat) (top : Nat) (size scale : Int) (e : Ending) (w' : World) : Prop :=
  ∃ cs op, e = .returned (.tuple #[.agg (List.toArray cs), .bool op]) ∧ Kept [] w w' ∧
    ((op = true ∧ cs = exZero ∧ ¬ Fine top size ((top : Int) - scale).toNat (top + 10) l) ∨ (op = false ∧ Fine top size ((top : Int) - scale).toNat (top + 10) l ∧ SpPt w' l top size scale cs))
/-- the counts of the data point lie in blocks of counts -/
def PtTy (w' : World) (e : Ending) : Prop := ∀ cs op, e = .returned (.tuple #[.agg (List.toArray cs), .bool op]) → ∀ v, v ∈ cs → ∀ a n c, v = .slice (some a) n c → ∃ cur, w'.heap[a.block]? = some (.cells cur 23 (0, 0))
theorem ptTy_zero (w' : World) (b : Bool) : PtTy w' (.returned (.tuple #[.agg exZero.toArray, .bool b])) := by
  intro cs op h v hv a n c e
  have hc : exZero = cs := by injection h with h; injection h with h; injection h with h; injection h with h _; injection h with h; injection h
  subst hc; subst e
  simp [exZero, U] at hv
theorem PtPost.halt {w wr : World} {l : List Nat} {top : Nat} {size scale : Int} {B0 : Nat} (hk : Kept [] w wr) (hB : B0 = w.heap.size) (hn : ¬ Fine top size ((top : Int) - scale).toNat (top + 10) l) :
    PtPost w l top size scale (.returned (.tuple #[.agg exZero.toArray, .bool true])) (wr.setRow B0 exZero.toArray) ∧ PtTy (wr.setRow B0 exZero.toArray) (.returned (.tuple #[.agg exZero.toArray, .bool true])) :=
  ⟨⟨exZero, true, rfl, setRow_kept hk (.inr (by omega)), .inl ⟨rfl, rfl, hn⟩⟩, ptTy_zero _ _⟩
theorem pLen (top m : Nat) {l : List Nat} (h : l.length ≤ 1000) : (pIs top (l.take m).reverse).length ≤ 1000 := by
  unfold pIs; rw [List.length_map]
  exact Nat.le_trans (List.length_filter_le _ _) (by rw [List.length_reverse, List.length_take]; omega)
theorem nLen (top m : Nat) {l : List Nat} (h : l.length ≤ 1000) : (nIs top (l.take m).reverse).length ≤ 1000 := by
  unfold nIs; rw [List.length_map]
  exact Nat.le_trans (List.length_filter_le _ _) (by rw [List.length_reverse, List.length_take]; omega)
set_option maxHeartbeats 4000000 in
set_option maxRecDepth 100000 in
theorem point19x (l : List Nat) (top : Nat) (size scale : Int) (V : Value) (w : World) (hl : SlAt w V (l.map Fl)) (hlt : ∀ v, v ∈ l → v < 18446744073709551616) (hll : l.length ≤ 1000) (hne : l ≠ []) (h1 : 1 ≤ size) (h2 : size ≤ 200) (h3 : -10 ≤ scale) (h4 : scale ≤ 20) (ht : (top : Int) = max scale 0) :
    Calls Tryz.prog 19 #[.int .i32 size, .int .i32 scale, V] w (fun e w' => PtPost w l top size scale e w' ∧ PtTy w' e) := by
  obtain ⟨a, c, rfl, hal, hlc, hcm, hcell⟩ : ∃ (a : Addr) (c : Nat), V = .slice (some a) (l.map Fl).length c ∧ a.block < w.heap.size ∧ (l.map Fl).length ≤ c ∧ c ≤ maxLen ∧ ∀ i u, (l.map Fl)[i]? = some u → w.cell? (a.add i) = some u := by
    rcases hl with ⟨_, h⟩ | h
    · exact absurd (List.map_eq_nil_iff.1 h) hne
    · exact h
  rw [List.length_map] at *
  have hz : ((l.length : Int) == 0) = false := by have := List.length_pos_iff.2 hne; rw [beq_eq_false_iff_ne]; omega
  have HO := Lib.hid (And.intro hal (And.intro hlc (And.intro hcm (And.intro hcell (And.intro hlt hne)))))
  have HT := Lib.hid ht
  have ht20 : (top : Int) ≤ 20 := by omega
  clear hal hlc hcm hcell hl hlt hne ht
  go_enter Tryz.func19, Tryz.ntmps19
  go_upto_region 3 with fail
  go_cut [8] from 23 to 25 (fun x wx => x = .int .i32 top ∧ wx = w.alloc (.cells (zc43 0) 43))
  case first =>
    go_wp2_with fail
    all_goals
      go_meet
      refine ⟨?_, rfl⟩
      have := HT.out
      congr 1
      omega
  case rest =>
  obtain ⟨rfl, rfl⟩ := hcut
  go_wp2_with (first | (go_at_call 31; first | (refine (inf31 _).mono ?_; rintro e w' ⟨rfl, rfl⟩) | (refine (inf31n _).mono ?_; rintro e w' ⟨rfl, rfl⟩)))
  have hsz : (w.alloc (.cells (zc43 0) 43)).heap.size = w.heap.size + 1 := by simp
  have SI : SpInv w l top 0 0 (((w.alloc (.cells (zc43 0) 43)).alloc (.cells #[.int .i64 0, .int .i64 0, .map none] 66)).alloc (.cells #[.int .i64 0, .int .i64 0, .map none] 66)) none none := by
    refine ⟨?_, .inl ⟨by simp [pIs], rfl, ?_⟩, .inl ⟨by simp [nIs], rfl, ?_⟩, by simp, by simp, (((Kept.refl [] w).alloc _).alloc _).alloc _, by simp, by simp [SpSum], by simp⟩
    · rw [Below.heap_alloc _ _ _ (by simp; omega), Below.heap_alloc _ _ _ (by simp)]
      simp only [List.take_zero]
      exact (MapKept.heap_alloc w _).1
    · rw [Below.heap_alloc _ _ _ (by simp)]
      exact hsz ▸ (MapKept.heap_alloc (w.alloc (.cells (zc43 0) 43)) _).1
    · have h3 : ((w.alloc (.cells (zc43 0) 43)).alloc (.cells #[.int .i64 0, .int .i64 0, .map none] 66)).heap.size = w.heap.size + 1 + 1 := by simp
      exact h3 ▸ (MapKept.heap_alloc ((w.alloc (.cells (zc43 0) 43)).alloc (.cells #[.int .i64 0, .int .i64 0, .map none] 66)) _).1
  generalize (((w.alloc (.cells (zc43 0) 43)).alloc (.cells #[.int .i64 0, .int .i64 0, .map none] 66)).alloc (.cells #[.int .i64 0, .int .i64 0, .map none] 66)) = W0 at SI ⊢
  obtain ⟨B0, hB0⟩ : ∃ B0, B0 = w.heap.size := ⟨_, rfl⟩
  simp only [← hB0]
  have HB0 := Lib.hid hB0
  have HSI := Lib.hid SI
  have hlen := Lib.hid hll
  clear SI hB0 hsz hll
  go_loopw [11, 12, 13, 29] (fun x y z i wr => ∃ (m s : Nat) (om oc : Option Nat), m ≤ l.length ∧ x = .float .f64 s ∧ y = .float .f64 (spMn (l.take m)) ∧ z = .float .f64 (spMx (l.take m)) ∧ i = .int .i64 (m : Int) ∧ SpInv w l top m s wr om oc) (fun _ _ _ i _ => l.length - (intOf i).toNat)
  case atStart => exact ⟨0, 0, none, none, Nat.zero_le _, rfl, rfl, rfl, rfl, HSI.out⟩
  case round =>
  obtain ⟨m, s, om, oc, hm, rfl, rfl, rfl, rfl, SI⟩ := hrel
  replace SI := Lib.hid SI
  have HM := Lib.hid hm
  clear hm HSI
  by_cases hmlt : m < l.length
  · obtain ⟨v, hv⟩ : ∃ v, v = l.getD m 0 := ⟨_, rfl⟩
    have hget : l[m]? = some v := by rw [hv, List.getD_eq_getElem?_getD, List.getElem?_eq_getElem hmlt]; rfl
    have hlm : (l.map Fl)[m]? = some (Fl v) := by rw [List.getElem?_map, hget]; rfl
    have cv : wr.cell? (a.add m) = some (.float .f64 v) := (cellKept SI.out.k (by rw [Addr_add_block]; exact HO.out.1) (by simp)).trans (HO.out.2.2.2.1 m _ hlm)
    have hmi : (m : Int) < (l.length : Int) := by omega
    have hv64 : v < 18446744073709551616 := HO.out.2.2.2.2.1 v (List.mem_of_getElem? hget)
    have HV := Lib.hid (And.intro hget hv64)
    clear hv hlm hget hv64
    cases hnan : Lg.nanW v
    · cases hinf : Lg.infW v
      · have hff := Lib.hid (fin_facts hnan hinf)
        have hni := Lib.hid (And.intro hnan hinf)
        obtain ⟨r, w2, hr2, hd2, hk3, hk4⟩ := add_any s v wr
        obtain ⟨mn, hmn⟩ : ∃ mn, mn = spMn (l.take m) := ⟨_, rfl⟩
        obtain ⟨mx, hmx⟩ : ∃ mx, mx = spMx (l.take m) := ⟨_, rfl⟩
        rw [← hmn, ← hmx]
        have HMM := Lib.hid (And.intro hmn (And.intro hmx (And.intro hk3 hk4)))
        have HD2 := Lib.hid hd2
        clear hmn hmx hk3 hk4 hd2
        go_upto_if 45 with (first
          | (go_at_call 32; refine (isNaN32 v _).mono ?_; rw [hni.out.1]; rintro e w' ⟨rfl, rfl⟩)
          | (go_at_call 33; refine (isInf33 v _ HV.out.2).mono ?_; rw [hni.out.2]; rintro e w' ⟨rfl, rfl⟩))
        go_cut [12] from 46 to 46 (fun x wx => x = .float .f64 (mnSt mn v) ∧ wx = w2)
        case first =>
          go_wp2_with fail
          all_goals
            rename_i hc
            go_meet
            refine ⟨?_, rfl⟩
            first
              | (unfold mnSt; rw [show ltW v mn = true from hc]; rfl)
              | (unfold mnSt; rw [show ltW v mn = false from hc]; rfl)
        case rest =>
        obtain ⟨rfl, hwc⟩ := hcut
        replace hwc := hwc.symm
        subst hwc
        go_upto_if 49 with fail
        go_cut [13] from 50 to 50 (fun x wx => x = .float .f64 (mxSt mx v) ∧ wx = w2)
        case first =>
          go_wp2_with fail
          all_goals
            rename_i hc
            go_meet
            refine ⟨?_, rfl⟩
            first
              | (unfold mxSt; rw [show gtW v mx = true from hc]; rfl)
              | (unfold mxSt; rw [show gtW v mx = false from hc]; rfl)
        case rest =>
        obtain ⟨rfl, hwc⟩ := hcut
        replace hwc := hwc.symm
        subst hwc
        have hk2 : Kept [] wr w2 := hd2k HD2.out
        obtain ⟨zn, hzn⟩ : ∃ zn, zn = zIs (l.take m) := ⟨_, rfl⟩
        have hp2 : w2.heap[B0]? = some (.cells (zc43 zn) 43 (0, 0)) := by
          rw [hzn, HB0.out]; exact hk2.obj SI.out.p (by simp)
        have HP2 := Lib.hid (And.intro hzn (And.intro hk2 hp2))
        cases hzero : (FloatKind.f64.format.order v 0 == some .eq)
        · have hz0 : absW v ≠ 0 := of_decide_eq_false (hff.out.2.1.symm.trans hzero)
          have hpos := hff.out.2.2 hz0
          have hi34 := idx_range top (absW v) (by have := HT.out; omega) (Nat.pos_of_ne_zero hz0) hff.out.1
          have HZ := Lib.hid (And.intro hz0 (And.intro hff.out.1 hi34))
          have hln := hlen.out
          have hmw : IntKind.i64.wrap ((m : Int) + 1) = (m : Int) + 1 := IntWalk.i64_in _ (by omega)
          clear hz0 hi34
          cases hnear : Lg.near top (absW v)
          · have HN := Lib.hid hnear
            clear hnear
            cases hsg : ltW v 0
            · replace hpos : (FloatKind.f64.format.order v 0 == some .gt) = true := by rw [hpos, hsg]; rfl
              have HSG := Lib.hid hsg
              have HSA := Lib.hid (show SideS wr (B0 + 1) (pIs top (l.take m).reverse) om by rw [HB0.out]; exact SI.out.A)
              have HSB := Lib.hid (show SideS wr (B0 + 1 + 1) (nIs top (l.take m).reverse) oc by rw [HB0.out]; exact SI.out.B)
              have HNS := Lib.hid (show (∀ x, om = some x → x ∉ ([] : List Nat)) ∧ (∀ x, oc = some x → x ∉ ([] : List Nat)) by simp)
              clear hsg hk2 hzn hp2
              go_wp2_with (first
                | (go_at_call 12; refine (abs12 v _ HV.out.2).mono ?_; rintro e w' ⟨rfl, rfl⟩)
                | (go_at_call 34; refine (idx34 (absW v) top _ (Nat.pos_of_ne_zero HZ.out.1) HZ.out.2.1 (by omega)).mono ?_; rintro e w3 ⟨rfl, hk3⟩; rw [HN.out])
                | (go_at_call 35; refine (add35 (B0 + 1) (Lg.idx top (absW v)) (pIs top (l.take m).reverse) om _ (HSA.out.kept (HP2.out.2.1.trans2 hk3 (by simp)) (by simp) (by simp)) (pLen top m hlen.out) (by have := HZ.out.2.2; omega) (by have := HZ.out.2.2; omega)).mono ?_; intro e w4 hpost; obtain rfl := hpost.1))
              go_roundw
              case rel =>
                rw [HB0.out] at hpost
                obtain ⟨om1, SI1⟩ := SI.out.up (HP2.out.2.1.trans2 hk3 (by simp)) HV.out.1 HZ.out.2.1 HZ.out.1 HN.out HSG.out HMM.out.2.2.1 hpost
                refine ⟨m + 1, r, om1, oc, by omega, rfl, ?_, ?_, by go_num, SI1⟩
                · rw [spMn_snoc HV.out.1, ← HMM.out.1]
                · rw [spMx_snoc HV.out.1, ← HMM.out.2.1]
              case measure => simp [intOf]; omega
            · replace hpos : (FloatKind.f64.format.order v 0 == some .gt) = false := by rw [hpos, hsg]; rfl
              have HSG := Lib.hid hsg
              have HSA := Lib.hid (show SideS wr (B0 + 1) (pIs top (l.take m).reverse) om by rw [HB0.out]; exact SI.out.A)
              have HSB := Lib.hid (show SideS wr (B0 + 1 + 1) (nIs top (l.take m).reverse) oc by rw [HB0.out]; exact SI.out.B)
              have HNS := Lib.hid (show (∀ x, om = some x → x ∉ ([] : List Nat)) ∧ (∀ x, oc = some x → x ∉ ([] : List Nat)) by simp)
              clear hsg hk2 hzn hp2
              go_wp2_with (first
                | (go_at_call 12; refine (abs12 v _ HV.out.2).mono ?_; rintro e w' ⟨rfl, rfl⟩)
                | (go_at_call 34; refine (idx34 (absW v) top _ (Nat.pos_of_ne_zero HZ.out.1) HZ.out.2.1 (by omega)).mono ?_; rintro e w3 ⟨rfl, hk3⟩; rw [HN.out])
                | (go_at_call 35; refine (add35 (B0 + 1 + 1) (Lg.idx top (absW v)) (nIs top (l.take m).reverse) oc _ (HSB.out.kept (HP2.out.2.1.trans2 hk3 (by simp)) (by simp) (by simp)) (nLen top m hlen.out) (by have := HZ.out.2.2; omega) (by have := HZ.out.2.2; omega)).mono ?_; intro e w4 hpost; obtain rfl := hpost.1))
              go_roundw
              case rel =>
                rw [HB0.out] at hpost
                obtain ⟨oc1, SI1⟩ := SI.out.dn (HP2.out.2.1.trans2 hk3 (by simp)) HV.out.1 HZ.out.2.1 HZ.out.1 HN.out HSG.out HMM.out.2.2.1 hpost
                refine ⟨m + 1, r, om, oc1, by omega, rfl, ?_, ?_, by go_num, SI1⟩
                · rw [spMn_snoc HV.out.1, ← HMM.out.1]
                · rw [spMx_snoc HV.out.1, ← HMM.out.2.1]
              case measure => simp [intOf]; omega
          · have hnf : ¬ Fine top size ((top : Int) - scale).toNat (top + 10) l := fun F => by
              have := F.near v (List.mem_of_getElem? HV.out.1) HZ.out.1
              rw [hnear] at this; cases this
            have HN := Lib.hid hnear
            have HF := Lib.hid hnf
            clear hnear hnf hk2 hzn hp2 hpos
            go_wp2_with (first
              | (go_at_call 12; refine (abs12 v _ HV.out.2).mono ?_; rintro e w' ⟨rfl, rfl⟩)
              | (go_at_call 34; refine (idx34 (absW v) top _ (Nat.pos_of_ne_zero HZ.out.1) HZ.out.2.1 (by omega)).mono ?_; rintro e w3 ⟨rfl, hk3⟩; rw [HN.out])
              | (refine wpList_store_row rfl 43 _ _ rfl B0 exZero.toArray rfl rfl 43 (zc43 zn) (hk3.obj HP2.out.2.2 (by simp)) exz_sz rfl exz_one ?_))
            (try simp only [Exit.inBlock, Exit.then])
            refine bodyPost_ret (res19 (g := B0) (cs := exZero.toArray) (op := true) rfl rfl (setRow_heap _ _ _ _ _ _ (hk3.obj HP2.out.2.2 (by simp))) rfl) rfl ?_
            exact PtPost.halt (SI.out.k.trans (HP2.out.2.1.trans hk3)) HB0.out HF.out
        · have hz0 : absW v = 0 := of_decide_eq_true (hff.out.2.1.symm.trans hzero)
          have c6 : w2.cell? ⟨B0, 6, none⟩ = some (.int .u64 (zn : Int)) := cellOf hp2 rfl
          have f6 : w2.frozen? ⟨B0, 6, none⟩ = false := frOf hp2
          have hznl : zn ≤ l.length := by rw [hzn]; exact Nat.le_trans List.countP_le_length (by rw [List.length_take]; omega)
          have hln := hlen.out
          have hsum : IntKind.u64.wrap ((zn : Int) + 1) = (zn : Int) + 1 := by rw [IntKind.wrap_u64]; omega
          have hmw : IntKind.i64.wrap ((m : Int) + 1) = (m : Int) + 1 := IntWalk.i64_in _ (by omega)
          clear hk2 hzn hp2
          go_wp2_with fail
          go_roundw
          case rel =>
            refine ⟨m + 1, r, om, oc, by omega, rfl, ?_, ?_, by go_num, ?_⟩
            · rw [spMn_snoc HV.out.1, ← HMM.out.1]
            · rw [spMx_snoc HV.out.1, ← HMM.out.2.1]
            · rw [HB0.out]
              exact SI.out.zero HP2.out.2.1 HV.out.1 hff.out.1 hz0 HMM.out.2.2.1 HP2.out.1
          case measure => simp [intOf]; omega
      · have hnf : ¬ Fine top size ((top : Int) - scale).toNat (top + 10) l := fun F => by
          have := (Lg.fin_iff v).1 (F.fin v (List.mem_of_getElem? HV.out.1))
          rw [hinf] at this; exact absurd this.2 (by simp)
        have hpz : wr.heap[B0]? = some (.cells (zc43 (zIs (l.take m))) 43 (0, 0)) := by rw [HB0.out]; exact SI.out.p
        have hni := Lib.hid (And.intro hnan hinf)
        have HF := Lib.hid hnf
        have HPZ := Lib.hid hpz
        clear hnan hinf hnf hpz
        go_wp2_with (first
          | (go_at_call 32; refine (isNaN32 v _).mono ?_; rw [hni.out.1]; rintro e w' ⟨rfl, rfl⟩)
          | (go_at_call 33; refine (isInf33 v _ HV.out.2).mono ?_; rw [hni.out.2]; rintro e w' ⟨rfl, rfl⟩)
          | (refine wpList_store_row rfl 43 _ _ rfl B0 exZero.toArray rfl rfl 43 (zc43 (zIs (l.take m))) HPZ.out exz_sz rfl exz_one ?_))
        (try simp only [Exit.inBlock, Exit.then])
        refine bodyPost_ret (res19 (g := B0) (cs := exZero.toArray) (op := true) rfl rfl (setRow_heap _ _ _ _ _ _ HPZ.out) rfl) rfl ?_
        exact PtPost.halt SI.out.k HB0.out HF.out
    · have hnf : ¬ Fine top size ((top : Int) - scale).toNat (top + 10) l := fun F => by
        have := (Lg.fin_iff v).1 (F.fin v (List.mem_of_getElem? HV.out.1))
        rw [hnan] at this; exact absurd this.1 (by simp)
      have hpz : wr.heap[B0]? = some (.cells (zc43 (zIs (l.take m))) 43 (0, 0)) := by rw [HB0.out]; exact SI.out.p
      have hni := Lib.hid hnan
      have HF := Lib.hid hnf
      have HPZ := Lib.hid hpz
      clear hnan hnf hpz
      go_wp2_with (first
        | (go_at_call 32; refine (isNaN32 v _).mono ?_; rw [hni.out]; rintro e w' ⟨rfl, rfl⟩)
        | (refine wpList_store_row rfl 43 _ _ rfl B0 exZero.toArray rfl rfl 43 (zc43 (zIs (l.take m))) HPZ.out exz_sz rfl exz_one ?_))
      (try simp only [Exit.inBlock, Exit.then])
      refine bodyPost_ret (res19 (g := B0) (cs := exZero.toArray) (op := true) rfl rfl (setRow_heap _ _ _ _ _ _ HPZ.out) rfl) rfl ?_
      exact PtPost.halt SI.out.k HB0.out HF.out
  · have hmeq : m = l.length := by have := HM.out; omega
    subst hmeq
    clear hmlt
    obtain ⟨b0, hb0⟩ : ∃ b0 : Nat, (b0 : Int) = (top : Int) - scale := ⟨((top : Int) - scale).toNat, by have := HT.out; omega⟩
    have HBB := Lib.hid hb0
    have hb30 : (b0 : Int) ≤ 30 := by have := HT.out; omega
    have hb10 : (b0 : Int) ≤ (top : Int) + 10 := by have := HT.out; omega
    have HPS := Lib.hid (show SideS wr (B0 + 1) (pIs top (l.take l.length).reverse) om ∧ SideS wr (B0 + 1 + 1) (nIs top (l.take l.length).reverse) oc by rw [HB0.out]; exact ⟨SI.out.A, SI.out.B⟩)
    obtain ⟨P, hP⟩ : ∃ P, P = pIs top (l.take l.length).reverse := ⟨_, rfl⟩
    obtain ⟨N, hN⟩ : ∃ N, N = nIs top (l.take l.length).reverse := ⟨_, rfl⟩
    rw [← hP, ← hN] at HPS
    have hPr : ∀ x, x ∈ P → -1130000000 ≤ x ∧ x ≤ 1130000000 := by
      rw [hP]; exact pIs_range (by omega) fun v hv => (SI.out.good v (List.mem_reverse.1 hv)).1
    have hNr : ∀ x, x ∈ N → -1130000000 ≤ x ∧ x ≤ 1130000000 := by
      rw [hN]; exact nIs_range (by omega) fun v hv => (SI.out.good v (List.mem_reverse.1 hv)).1
    have HPN := Lib.hid (And.intro hP (And.intro hN (And.intro hPr hNr)))
    clear hb0 hP hN hPr hNr
    go_wp2_with fail
    rw [← HBB.out]
    simp only [List.take_length]
    go_loopw [18] (fun x wt => ∃ b : Nat, x = .int .i64 (b : Int) ∧ b0 ≤ b ∧ b ≤ top + 10 ∧ (∀ b', b0 ≤ b' → b' < b → ¬ (FitB size b' P ∧ FitB size b' N)) ∧ Kept [] wr wt) (fun x _ => top + 11 - (intOf x).toNat)
    case atStart => exact ⟨b0, rfl, Nat.le_refl _, by omega, fun b' h1 h2 => by omega, Kept.refl _ _⟩
    case round =>
    obtain ⟨b, rfl, hbb0, hbt, hbl, hkt⟩ := hrel
    have HB := Lib.hid (And.intro hbb0 (And.intro hbl hkt))
    have hbt2 : (b : Int) ≤ (top : Int) + 10 := by omega
    have hb00 : (0 : Int) ≤ (b : Int) := by omega
    have hw3 : IntKind.i64.wrap ((b : Int) + 1) = (b : Int) + 1 := IntWalk.i64_in _ (by omega)
    have hw4 : IntKind.i64.wrap ((top : Int) - ((b : Int) + 1)) = (top : Int) - ((b : Int) + 1) := IntWalk.i64_in _ (by omega)
    clear hbb0 hbl hkt hbt
    have F1 := Lib.hid (fits36 (B0 + 1) P om (b : Int) size wr (HPS.out.1.kept HB.out.2.2 (by simp) (by simp)) (fun x hx => by have := HPN.out.2.2.1 x hx; omega) (by omega) (by omega) h1 h2)
    have F2 := Lib.hid (fun (w5 : World) (hk5 : Kept [] wr w5) => fits36 (B0 + 1 + 1) N oc (b : Int) size w5 (HPS.out.2.kept (HB.out.2.2.trans hk5) (by simp) (by simp)) (fun x hx => by have := HPN.out.2.2.2 x hx; omega) (by omega) (by omega) h1 h2)
    rw [Int.toNat_natCast] at F1 F2
    obtain ⟨fp, hfp⟩ : ∃ fp, fp = decide (FitB size b P) := ⟨_, rfl⟩
    obtain ⟨fn, hfn⟩ : ∃ fn, fn = decide (FitB size b N) := ⟨_, rfl⟩
    rw [← hfp] at F1
    rw [← hfn] at F2
    have HFF := Lib.hid (And.intro hfp hfn)
    clear hfp hfn
    cases fp
    · have HHP := Lib.hid (show ∀ w5, Kept [] wr w5 → w5.heap[B0]? = some (.cells (zc43 (zIs (l.take l.length))) 43 (0, 0)) from fun w5 hk5 => by rw [HB0.out]; exact (HB.out.2.2.trans hk5).obj SI.out.p (by simp))
      by_cases hlast : (b : Int) = (top : Int) + 10
      · have hnf : ¬ Fine top size ((top : Int) - scale).toNat (top + 10) l := fun F => by
          have hb : b = top + 10 := by omega
          have hf : FitB size (top + 10) P := (HPN.out.1 ▸ F.f1.sub (fun x hx => (pIs_all top l x).1 hx))
          rw [← hb] at hf
          have := HFF.out.1
          rw [decide_eq_true hf] at this; cases this
        have HF := Lib.hid hnf
        have hge : (top : Int) - ((b : Int) + 1) < -10 := by omega
        have HL := Lib.hid hlast
        clear hnf hlast
        go_wp2_with (first
          | (go_at_call 36; with_reducible refine F1.out.mono ?_; rintro e w5 ⟨rfl, hk5⟩)
          | (refine wpList_store_row rfl 43 _ _ rfl B0 exZero.toArray rfl rfl 43 (zc43 (zIs (l.take l.length))) (HHP.out _ hk5) exz_sz rfl exz_one ?_))
        (try simp only [Exit.inBlock, Exit.then])
        refine bodyPost_ret (res19 (g := B0) (cs := exZero.toArray) (op := true) rfl rfl (setRow_heap _ _ _ _ _ _ (HHP.out _ hk5)) rfl) rfl ?_
        exact PtPost.halt (SI.out.k.trans (HB.out.2.2.trans hk5)) HB0.out HF.out
      · have hge : ¬ ((top : Int) - ((b : Int) + 1) < -10) := by omega
        have HL := Lib.hid hlast
        clear hlast
        go_wp2_with (first
          | (go_at_call 36; with_reducible refine F1.out.mono ?_; rintro e w5 ⟨rfl, hk5⟩))
        go_roundw
        case rel =>
          refine ⟨b + 1, by go_num, by have := HB.out.1; omega, by have := HL.out; omega, ?_, HB.out.2.2.trans hk5⟩
          intro b' h1' h2' hh
          rcases Nat.lt_or_ge b' b with h | h
          · exact HB.out.2.1 b' h1' h hh
          · have e : b' = b := by omega
            rw [e] at hh
            have := HFF.out.1
            rw [decide_eq_true hh.1] at this; cases this
        case measure => simp [intOf]; omega
    · cases fn
      · have HHP := Lib.hid (show ∀ w5, Kept [] wr w5 → w5.heap[B0]? = some (.cells (zc43 (zIs (l.take l.length))) 43 (0, 0)) from fun w5 hk5 => by rw [HB0.out]; exact (HB.out.2.2.trans hk5).obj SI.out.p (by simp))
        by_cases hlast : (b : Int) = (top : Int) + 10
        · have hnf : ¬ Fine top size ((top : Int) - scale).toNat (top + 10) l := fun F => by
            have hb : b = top + 10 := by omega
            have hf : FitB size (top + 10) N := (HPN.out.2.1 ▸ F.f2.sub (fun x hx => (nIs_all top l x).1 hx))
            rw [← hb] at hf
            have := HFF.out.2
            rw [decide_eq_true hf] at this; cases this
          have HF := Lib.hid hnf
          have hge : (top : Int) - ((b : Int) + 1) < -10 := by omega
          have HL := Lib.hid hlast
          clear hnf hlast
          go_wp2_with (first
            | (go_at_call 36; with_reducible refine F1.out.mono ?_; rintro e w5 ⟨rfl, hk5⟩)
            | (go_at_call 36; with_reducible refine (F2.out _ hk5).mono ?_; rintro e w6 ⟨rfl, hk6⟩)
            | (refine wpList_store_row rfl 43 _ _ rfl B0 exZero.toArray rfl rfl 43 (zc43 (zIs (l.take l.length))) (HHP.out _ (hk5.trans hk6)) exz_sz rfl exz_one ?_))
          (try simp only [Exit.inBlock, Exit.then])
          refine bodyPost_ret (res19 (g := B0) (cs := exZero.toArray) (op := true) rfl rfl (setRow_heap _ _ _ _ _ _ (HHP.out _ (hk5.trans hk6))) rfl) rfl ?_
          exact PtPost.halt (SI.out.k.trans (HB.out.2.2.trans (hk5.trans hk6))) HB0.out HF.out
        · have hge : ¬ ((top : Int) - ((b : Int) + 1) < -10) := by omega
          have HL := Lib.hid hlast
          clear hlast
          go_wp2_with (first
            | (go_at_call 36; with_reducible refine F1.out.mono ?_; rintro e w5 ⟨rfl, hk5⟩)
            | (go_at_call 36; with_reducible refine (F2.out _ hk5).mono ?_; rintro e w6 ⟨rfl, hk6⟩))
          go_roundw
          case rel =>
            refine ⟨b + 1, by go_num, by have := HB.out.1; omega, by have := HL.out; omega, ?_, HB.out.2.2.trans (hk5.trans hk6)⟩
            intro b' h1' h2' hh
            rcases Nat.lt_or_ge b' b with h | h
            · exact HB.out.2.1 b' h1' h hh
            · have e : b' = b := by omega
              rw [e] at hh
              have := HFF.out.2
              rw [decide_eq_true hh.2] at this; cases this
          case measure => simp [intOf]; omega
      · go_upto_region 30 with (first
          | (go_at_call 36; with_reducible refine F1.out.mono ?_; rintro e w5 ⟨rfl, hk5⟩)
          | (go_at_call 36; with_reducible refine (F2.out _ hk5).mono ?_; rintro e w6 ⟨rfl, hk6⟩))
        have hk6' : Kept [] wr w6 := hk5.trans hk6
        have hp6 : w6.heap[B0]? = some (.cells (zc43 (zIs (l.take l.length))) 43 (0, 0)) := by rw [HB0.out]; exact (HB.out.2.2.trans hk6').obj SI.out.p (by simp)
        have x0 : w6.cell? ⟨B0, 0, none⟩ = some (.bool false) := cellOf hp6 rfl
        have x1 : w6.cell? ⟨B0, 1, none⟩ = some (U 0) := cellOf hp6 rfl
        have x2 : w6.cell? ⟨B0, 2, none⟩ = some (U 0) := cellOf hp6 rfl
        have x3 : w6.cell? ⟨B0, 3, none⟩ = some (U 0) := cellOf hp6 rfl
        have x4 : w6.cell? ⟨B0, 4, none⟩ = some (U 0) := cellOf hp6 rfl
        have x5 : w6.cell? ⟨B0, 5, none⟩ = some (.int .i32 0) := cellOf hp6 rfl
        have y0 : w6.frozen? ⟨B0, 0, none⟩ = false := frOf hp6
        have y1 : w6.frozen? ⟨B0, 1, none⟩ = false := frOf hp6
        have y2 : w6.frozen? ⟨B0, 2, none⟩ = false := frOf hp6
        have y3 : w6.frozen? ⟨B0, 3, none⟩ = false := frOf hp6
        have y4 : w6.frozen? ⟨B0, 4, none⟩ = false := frOf hp6
        have y5 : w6.frozen? ⟨B0, 5, none⟩ = false := frOf hp6
        have q1 : IntKind.u64.wrap (l.length : Int) = (l.length : Int) := by rw [IntKind.wrap_u64]; have := hlen.out; omega
        have q2 : wrap32 ((top : Int) - (b : Int)) = (top : Int) - (b : Int) := by unfold wrap32; omega
        have HK6 := Lib.hid (And.intro hk6' hp6)
        clear hk6' hp6
        go_upto_region 32 with fail
        obtain ⟨Z, hZ⟩ : ∃ Z, Z = zIs (l.take l.length) := ⟨_, rfl⟩
        have hp7 : ((((((w6.setCell ⟨B0, 0, none⟩ (.bool true)).setCell ⟨B0, 1, none⟩ (.int .u64 (l.length : Int))).setCell ⟨B0, 5, none⟩ (.int .i32 ((top : Int) - b))).setCell ⟨B0, 2, none⟩ (.int .u64 (s : Int))).setCell ⟨B0, 3, none⟩ (.int .u64 (spMn l : Int))).setCell ⟨B0, 4, none⟩ (.int .u64 (spMx l : Int))).heap[B0]? =
            some (.cells #[.bool true, U l.length, U s, U (spMn l), U (spMx l), .int .i32 ((top : Int) - b), U Z, .int .i32 0, .slice none 0 0, .int .i32 0, .slice none 0 0] 43 (0, 0)) := by
          rw [hZ]
          exact blkSet' (blkSet' (blkSet' (blkSet' (blkSet' (blkSet' HK6.out.2 rfl) rfl) rfl) rfl) rfl) rfl
        have hk7 : Kept [B0] wr ((((((w6.setCell ⟨B0, 0, none⟩ (.bool true)).setCell ⟨B0, 1, none⟩ (.int .u64 (l.length : Int))).setCell ⟨B0, 5, none⟩ (.int .i32 ((top : Int) - b))).setCell ⟨B0, 2, none⟩ (.int .u64 (s : Int))).setCell ⟨B0, 3, none⟩ (.int .u64 (spMn l : Int))).setCell ⟨B0, 4, none⟩ (.int .u64 (spMx l : Int))) :=
          ((((((HK6.out.1.sub (S' := [B0]) (fun _ h => by cases h)).setCell (p := ⟨B0, 0, none⟩) (.inl (by simp)) _).setCell (p := ⟨B0, 1, none⟩) (.inl (by simp)) _).setCell (p := ⟨B0, 5, none⟩) (.inl (by simp)) _).setCell (p := ⟨B0, 2, none⟩) (.inl (by simp)) _).setCell (p := ⟨B0, 3, none⟩) (.inl (by simp)) _).setCell (p := ⟨B0, 4, none⟩) (.inl (by simp)) _
        generalize ((((((w6.setCell ⟨B0, 0, none⟩ (.bool true)).setCell ⟨B0, 1, none⟩ (.int .u64 (l.length : Int))).setCell ⟨B0, 5, none⟩ (.int .i32 ((top : Int) - b))).setCell ⟨B0, 2, none⟩ (.int .u64 (s : Int))).setCell ⟨B0, 3, none⟩ (.int .u64 (spMn l : Int))).setCell ⟨B0, 4, none⟩ (.int .u64 (spMx l : Int))) = W7 at hp7 hk7 ⊢
        have hfP : FitB size b P := of_decide_eq_true HFF.out.1.symm
        have hfN : FitB size b N := of_decide_eq_true HFF.out.2.symm
        have hsA : SideS W7 (B0 + 1) P om := HPS.out.1.kept ((HB.out.2.2.sub (S' := [B0]) (fun _ h => by cases h)).trans hk7) (by simp) (fun x hx hm => by have := SI.out.ap x hx; have := HB0.out; simp at hm; omega)
        have hPl : P.length ≤ 1000 := by rw [HPN.out.1]; exact pLen top l.length hlen.out
        have hNl : N.length ≤ 1000 := by rw [HPN.out.2.1]; exact nLen top l.length hlen.out
        have G1 := bkt37 (B0 + 1) P om (b : Int) W7 hsA (fun x hx => by have := HPN.out.2.2.1 x hx; omega) hPl (by omega) (by omega) (fun x hx y hy => by rw [Int.toNat_natCast]; have := hfP x hx y hy; omega)
        rw [Int.toNat_natCast] at G1
        have G1 := Lib.hid G1
        have HW7 := Lib.hid (And.intro hp7 (And.intro hk7 (And.intro hfP (And.intro hfN (And.intro hNl hZ)))))
        clear x0 x1 x2 x3 x4 x5 y0 y1 y2 y3 y4 y5 q1 hp7 hk7 hfP hfN hsA hPl hNl hZ
        go_wp2_with (go_at_call 37; with_reducible refine G1.out.mono ?_)
        rintro e w8 ⟨V1, st1, l1, rfl, hs1, hd1, hk8, hv1⟩
        obtain ⟨p1, n1, c1, rfl⟩ := hs1.form
        have hp8 : w8.heap[B0]? = some (.cells #[.bool true, U l.length, U s, U (spMn l), U (spMx l), .int .i32 ((top : Int) - b), U Z, .int .i32 0, .slice none 0 0, .int .i32 0, .slice none 0 0] 43 (0, 0)) := hk8.obj HW7.out.1 (by simp)
        have x7 : w8.cell? ⟨B0, 7, none⟩ = some (.int .i32 0) := cellOf hp8 rfl
        have y7 : w8.frozen? ⟨B0, 7, none⟩ = false := frOf hp8
        have x8 : w8.cell? ⟨B0, 8, none⟩ = some (.slice none 0 0) := cellOf hp8 rfl
        have y8 : w8.frozen? ⟨B0, 8, none⟩ = false := frOf hp8
        have H8 := Lib.hid (And.intro hp8 (And.intro hs1 (And.intro hd1 (And.intro hk8 hv1))))
        clear hp8 hs1 hd1 hk8 hv1
        go_upto_region 33 with fail
        have hp9 : ((w8.setCell ⟨B0, 7, none⟩ (.int .i32 st1)).setCell ⟨B0, 8, none⟩ (.slice p1 n1 c1)).heap[B0]? = some (.cells #[.bool true, U l.length, U s, U (spMn l), U (spMx l), .int .i32 ((top : Int) - b), U Z, .int .i32 st1, .slice p1 n1 c1, .int .i32 0, .slice none 0 0] 43 (0, 0)) := blkSet' (blkSet' H8.out.1 rfl) rfl
        have hk9 : Kept [B0] W7 ((w8.setCell ⟨B0, 7, none⟩ (.int .i32 st1)).setCell ⟨B0, 8, none⟩ (.slice p1 n1 c1)) := ((H8.out.2.2.2.1.sub (S' := [B0]) (fun _ h => by cases h)).setCell (p := ⟨B0, 7, none⟩) (.inl (by simp)) _).setCell (p := ⟨B0, 8, none⟩) (.inl (by simp)) _
        have hk89 : Kept [B0] w8 ((w8.setCell ⟨B0, 7, none⟩ (.int .i32 st1)).setCell ⟨B0, 8, none⟩ (.slice p1 n1 c1)) := ((Kept.refl [B0] w8).setCell (p := ⟨B0, 7, none⟩) (.inl (by simp)) _).setCell (p := ⟨B0, 8, none⟩) (.inl (by simp)) _
        generalize ((w8.setCell ⟨B0, 7, none⟩ (.int .i32 st1)).setCell ⟨B0, 8, none⟩ (.slice p1 n1 c1)) = W9 at hp9 hk9 hk89 ⊢
        have hsB : SideS W9 (B0 + 1 + 1) N oc := HPS.out.2.kept (((HB.out.2.2.sub (S' := [B0]) (fun _ h => by cases h)).trans HW7.out.2.1).trans hk9) (by simp; omega) (fun x hx hm => by have := SI.out.bp x hx; have := HB0.out; simp at hm; omega)
        have G2 := bkt37 (B0 + 1 + 1) N oc (b : Int) W9 hsB (fun x hx => by have := HPN.out.2.2.2 x hx; omega) HW7.out.2.2.2.2.1 (by omega) (by omega) (fun x hx y hy => by rw [Int.toNat_natCast]; have := HW7.out.2.2.2.1 x hx y hy; omega)
        rw [Int.toNat_natCast] at G2
        have G2 := Lib.hid G2
        have H9 := Lib.hid (And.intro hp9 (And.intro hk9 hk89))
        clear hp9 hk9 hk89 hsB x7 x8 y7 y8
        go_wp2_with (go_at_call 37; with_reducible refine G2.out.mono ?_)
        rintro e w10 ⟨V2, st2, l2, rfl, hs2, hd2, hk10, hv2⟩
        obtain ⟨p2, n2, c2, rfl⟩ := hs2.form
        have hp10 : w10.heap[B0]? = some (.cells #[.bool true, U l.length, U s, U (spMn l), U (spMx l), .int .i32 ((top : Int) - b), U Z, .int .i32 st1, .slice p1 n1 c1, .int .i32 0, .slice none 0 0] 43 (0, 0)) := hk10.obj H9.out.1 (by simp)
        have x9 : w10.cell? ⟨B0, 9, none⟩ = some (.int .i32 0) := cellOf hp10 rfl
        have y9 : w10.frozen? ⟨B0, 9, none⟩ = false := frOf hp10
        have x10 : w10.cell? ⟨B0, 10, none⟩ = some (.slice none 0 0) := cellOf hp10 rfl
        have y10 : w10.frozen? ⟨B0, 10, none⟩ = false := frOf hp10
        have H10 := Lib.hid (And.intro hp10 (And.intro hs2 (And.intro hd2 (And.intro hk10 hv2))))
        clear hp10 hs2 hd2 hk10 hv2
        go_upto_region 34 with fail
        obtain ⟨PC, hPC⟩ : ∃ PC : List Value, PC = [.bool true, U l.length, U s, U (spMn l), U (spMx l), .int .i32 ((top : Int) - b), U Z, .int .i32 st1, .slice p1 n1 c1, .int .i32 st2, .slice p2 n2 c2] := ⟨_, rfl⟩
        have hp11 : ((w10.setCell ⟨B0, 9, none⟩ (.int .i32 st2)).setCell ⟨B0, 10, none⟩ (.slice p2 n2 c2)).heap[B0]? = some (.cells PC.toArray 43 (0, 0)) := by
          rw [hPC]; exact blkSet' (blkSet' H10.out.1 rfl) rfl
        have hk11 : Kept [B0] w10 ((w10.setCell ⟨B0, 9, none⟩ (.int .i32 st2)).setCell ⟨B0, 10, none⟩ (.slice p2 n2 c2)) := ((Kept.refl [B0] w10).setCell (p := ⟨B0, 9, none⟩) (.inl (by simp)) _).setCell (p := ⟨B0, 10, none⟩) (.inl (by simp)) _
        generalize ((w10.setCell ⟨B0, 9, none⟩ (.int .i32 st2)).setCell ⟨B0, 10, none⟩ (.slice p2 n2 c2)) = W11 at hp11 hk11 ⊢
        have hps : PC.toArray.size = 11 := by rw [hPC]; rfl
        have hpi : (Tryz.prog.info? 43).map (·.size) = some PC.toArray.size := by rw [hps]; kernel_rfl
        have hpo : PC.toArray.all (·.oneCell') = true := by rw [hPC]; simp [Value.oneCell', U]
        have H11 := Lib.hid (And.intro hPC (And.intro hp11 (And.intro hk11 (And.intro hps (And.intro hpi hpo)))))
        clear hPC hp11 hk11 hps hpi hpo x9 x10 y9 y10
        go_wp2_with (first
          | (refine wpList_load_row rfl 43 _ rfl B0 PC.toArray 43 rfl H11.out.2.1 _ Tryz.underlying43 rfl H11.out.2.2.2.2.1 ?_)
          | (refine wpList_store_row rfl 43 _ _ rfl B0 PC.toArray rfl rfl 43 PC.toArray H11.out.2.1 H11.out.2.2.2.2.1 rfl H11.out.2.2.2.2.2 ?_))
        refine bodyPost_ret (res19 (g := B0) (cs := PC.toArray) (op := false) rfl rfl (setRow_heap _ _ _ _ _ _ H11.out.2.1) H11.out.2.2.2.1) rfl ?_
        have hBl : B0 < W7.heap.size := heap_lt HW7.out.1
        have kF : Kept [B0] w10 (W11.setRow B0 PC.toArray) := setRow_kept H11.out.2.2.1 (.inl (by simp))
        have k8F : Kept [B0] w8 (W11.setRow B0 PC.toArray) := (H9.out.2.2.trans (H10.out.2.2.2.1.sub (S' := [B0]) (fun _ h => by cases h))).trans kF
        have kwF : Kept [B0] wr (W11.setRow B0 PC.toArray) := ((HW7.out.2.1.trans (H8.out.2.2.2.1.sub (S' := [B0]) (fun _ h => by cases h)))).trans k8F
        have hfP := HW7.out.2.2.1
        have hfN := HW7.out.2.2.2.1
        have hpp := pIs_perm top l
        have hnn := nIs_perm top l
        rw [← HPN.out.1] at hpp
        rw [← HPN.out.2.1] at hnn
        have hb0' : ((top : Int) - scale).toNat = b0 := by have := HBB.out; omega
        have hgood := SI.out.good
        have hsum := SI.out.sum
        have hZ := HW7.out.2.2.2.2.2
        rw [List.take_length] at hgood hsum hZ
        refine ⟨⟨PC, false, rfl, SI.out.k.trans2 ((HB.out.2.2.sub (S' := [B0]) (fun _ h => by cases h)).trans kwF) (by intro z hz; simp at hz; subst hz; exact .inr (Nat.le_of_eq HB0.out.symm)), .inr ⟨rfl, ?_, ?_⟩⟩, ?_⟩
        · exact ⟨HO.out.2.2.2.2.1, fun v hv => (hgood v hv).1, fun v hv => (hgood v hv).2, by omega, Nat.le_refl _, (hfP.mono h1 (by omega)).sub (fun x hx => hpp.mem_iff.2 hx), (hfN.mono h1 (by omega)).sub (fun x hx => hnn.mem_iff.2 hx)⟩
        · refine ⟨b, s, st1, l1, st2, l2, _, _, by rw [hb0']; exact HB.out.1, by omega, H8.out.2.2.1.perm hpp, H10.out.2.2.1.perm hnn, hfP.sub (fun x hx => hpp.mem_iff.2 hx), hfN.sub (fun x hx => hnn.mem_iff.2 hx), ?_, hsum, ?_, H8.out.2.1.keptS k8F ?_, H10.out.2.1.keptS kF ?_⟩
          · intro b' h1' h2' hh
            rw [hb0'] at h1'
            exact HB.out.2.1 b' h1' h2' ⟨hh.1.sub (fun x hx => hpp.mem_iff.1 hx), hh.2.sub (fun x hx => hnn.mem_iff.1 hx)⟩
          · rw [H11.out.1, hZ]
          · intro a' n' c' h'
            have := (H8.out.2.2.2.2 a' n' c' h').1
            simp; omega
          · intro a' n' c' h'
            have := (H10.out.2.2.2.2 a' n' c' h').1
            have := H9.out.2.1.size
            simp; omega
        · intro cs op h v hv a' n' c' e
          have hc : PC = cs := by injection h with h; injection h with h; injection h with h; injection h with h _; injection h with h; injection h
          subst hc; subst e
          rw [H11.out.1] at hv
          simp [U] at hv
          rcases hv with hv | hv
          · obtain ⟨rfl, rfl, rfl⟩ := hv
            obtain ⟨hf, cur, hc⟩ := H8.out.2.2.2.2 _ _ _ rfl
            exact ⟨cur, k8F.obj hc (by simp; omega)⟩
          · obtain ⟨rfl, rfl, rfl⟩ := hv
            obtain ⟨hf, cur, hc⟩ := H10.out.2.2.2.2 _ _ _ rfl
            have := H9.out.2.1.size
            exact ⟨cur, kF.obj hc (by simp; omega)⟩
theorem point19 (l : List Nat) (top : Nat) (size scale : Int) (V : Value) (w : World) (hl : SlAt w V (l.map Fl)) (hlt : ∀ v, v ∈ l → v < 18446744073709551616) (hll : l.length ≤ 1000) (hne : l ≠ []) (h1 : 1 ≤ size) (h2 : size ≤ 200) (h3 : -10 ≤ scale) (h4 : scale ≤ 20) (ht : (top : Int) = max scale 0) :
    Calls Tryz.prog 19 #[.int .i32 size, .int .i32 scale, V] w (PtPost w l top size scale) := (point19x l top size scale V w hl hlt hll hne h1 h2 h3 h4 ht).mono fun _ _ h => h.1
end Go.Proofs.YtlpddogcnpokfaaGreat
