/- The int64 instances: expo, cumulative. -/
import Derived.Test.YtlpddogcnpokfaaGreatIn6
import Derived.Deep.DeepCutAuto
import Derived.Laws.EntriesVeiled
namespace Go.Proofs.YtlpddogcnpokfaaGreat.I
open Go.RowKit

set_option maxHeartbeats 4000000 in
set_option maxRecDepth 100000 in
theorem expo40c (top : Nat) (ms S : Int) (rs : List (List Nat)) (a : Addr) (vc : Nat) (vs : List Value) (w : World) (hvs : vs.length = rs.length) (hab : a.block < w.heap.size)
    (hv : ∀ i u, vs[i]? = some u → w.cell? (a.add i) = some u) (hr : ∀ i, i < rs.length → SlRd w (vs.getD i undef) ((rs.getD i []).map Iw))
    (hf : ∀ i, i < rs.length → ∃ B, Fine top ms ((top : Int) - S).toNat B ((accL false rs i).map fv)) (hok : ∀ i, i < rs.length → ∀ v, v ∈ rs.getD i [] → okI v) (hlen : rs.length ≤ 500) (htot : rs.flatten.length ≤ 500)
    (hs : 1 ≤ ms) (hs2 : ms ≤ 200) (ht : top ≤ 20) (hS : S ≤ top) (hS2 : -10 ≤ S)
    (hov : ∀ w1, Calls Tryz.prog 71 #[] w1 fun e w' => ∃ x : Int, e = .returned (.agg #[.int .u64 x]) ∧ Kept [] w1 w') :
    Calls Tryz.prog 38 #[.bool false, .int .i32 ms, .int .i32 S, .slice (some a) rs.length vc, .func (.func 39) #[] #[]] w (ExPost w top ms S false rs) := by
  have hta := as125_some
  have HV := Lib.hid (And.intro hvs (And.intro hab (And.intro hv hr)))
  have HF := Lib.hid (And.intro hf (And.intro htot hov))
  have HS := Lib.hid (And.intro hs (And.intro hs2 (And.intro ht (And.intro hS hS2))))
  have HOK := Lib.hid hok
  clear hvs hab hv hr hf htot hov hs hs2 ht hS hS2 hok
  go_enter Tryz.func38, Tryz.ntmps38
  go_wp2_with fail
  have h47 := bld47c ms S (w.alloc (.cells #[.int .u8 1, .nilFunc, .int .i64 0] 87)) (by have := HS.out.1; omega) (by have := HS.out.2.1; omega)
  unfold bldV at h47
  refine h47.mono ?_
  clear h47
  rintro e w1 ⟨p, h, b, rfl, hp, hh, hb, hne, hlp, hlh, hlb, hk1⟩
  rw [alloc_size] at hlp hlh hlb
  have hpb : p ≠ b := by
    rintro rfl
    unfold World.cell? at hp
    rw [hb] at hp; cases hp
  have I0 := Lib.hid (show ExInv w p h b top ms S [] [] w1 from ⟨hk1.past, hp, hh, .inl ⟨rfl, rfl, 0, hb⟩, by simp; omega, by simpa using hpb, by simpa using hne, by simp⟩)
  clear hp hh hb hk1 hne hlp hlh hlb hpb
  go_wp2_with fail
  go_loopw [14, 40] (fun o i wr => ∃ (m : Nat) (es : List (List Value)) (F : List Nat), m ≤ rs.length ∧ i = .int .i64 (m : Int) ∧ ExInv w p h b top ms S (preL false rs m) F wr ∧ ResAt wr (h :: p :: b :: F) top ms S (accL false rs) o m es ∧ ∀ z, o.ownBlock = some z → w.heap.size ≤ z) (fun _ i _ => rs.length - (intOf i).toNat)
  case atStart => exact ⟨0, [], [], by omega, rfl, by rw [preL_zero]; exact I0.out, ResAt.nil _ _ _ _ _ _, fun z hz => by cases hz⟩
  case round =>
  clear I0
  obtain ⟨m, es, F, hm, rfl, I, R, hON⟩ := hrel
  have HON := Lib.hid hON
  clear hON
  have I := Lib.hid I
  have R := Lib.hid R
  by_cases hge : rs.length ≤ m
  · obtain rfl : m = rs.length := by omega
    have w7 : ¬ (rs.length : Int) < (rs.length : Int) := by omega
    go_wp2_with fail
    go_ret
    exact ⟨_, es, rfl, R.out.turn (by simp), I.out.kept⟩
  -- the round's numbers
  have hlt : m < rs.length := by omega
  clear hge
  obtain ⟨v, hvm⟩ : ∃ v, v = vs.getD m undef := ⟨_, rfl⟩
  have hvm2 : vs[m]? = some v := by rw [hvm, List.getD_eq_getElem?_getD, List.getElem?_eq_getElem (by rw [HV.out.1]; exact hlt)]; rfl
  have hcell : wr.cell? (a.add m) = some v := (cellKept I.out.kept (by rw [Addr_add_block]; exact HV.out.2.1) (by simp)).trans (HV.out.2.2.1 m v hvm2)
  have hsl := HV.out.2.2.2 m hlt
  rw [← hvm] at hsl
  have HSL := Lib.hid hsl
  obtain ⟨r, hrr⟩ : ∃ r, r = rs.getD m [] := ⟨_, rfl⟩
  rw [← hrr] at hsl
  obtain ⟨ad, vn, hvv⟩ : ∃ ad vn, v = .slice ad r.length vn := by
    obtain ⟨x, c, h1, _⟩ := hsl
    rw [List.length_map] at h1
    exact ⟨_, _, h1⟩
  have hracc : accL false rs m = preL false rs m ++ r := by unfold accL; rw [hrr]
  have hrl : r.length ≤ 500 := by
    have h1 := HF.out.2.1
    have h2 : r ∈ rs := by rw [hrr, List.getD_eq_getElem?_getD, List.getElem?_eq_getElem hlt]; exact List.getElem_mem hlt
    have h3 := mem_le_sum (rs.map List.length) r.length (List.mem_map.2 ⟨r, h2, rfl⟩)
    rw [List.length_flatten] at h1; omega
  have hpl : (preL false rs m).length ≤ 500 := by
    unfold preL
    have h1 := HF.out.2.1
    split
    · simp
    · have h2 : rs.flatten = (rs.take m).flatten ++ (rs.drop m).flatten := by rw [← List.flatten_append, List.take_append_drop]
      rw [h2, List.length_append] at h1; omega
  have HR := Lib.hid (And.intro hrr (And.intro hracc (And.intro hsl (And.intro hvm2 hpl))))
  clear hsl hvm hvm2 hrr hracc HSL hpl
  subst hvv
  have w7 : (m : Int) < (rs.length : Int) := by omega
  go_wp2_with fail
  clear hcell
  go_loopw [46] (fun j wx => ∃ (k : Nat) (F : List Nat), k ≤ r.length ∧ j = .int .i64 (k : Int) ∧ ExInv w p h b top ms S (preL false rs m ++ r.take k) F wx ∧ ResAt wx (h :: p :: b :: F) top ms S (accL false rs) u14 m es) (fun j _ => r.length - (intOf j).toNat)
  case atStart => exact ⟨0, F, by omega, rfl, by simpa using I.out, R.out⟩
  case round =>
  clear I R
  obtain ⟨k, F, hk, rfl, I, R⟩ := hrel
  have I := Lib.hid I
  have R := Lib.hid R
  by_cases hkl : k < r.length
  · -- a measurement
    obtain ⟨x, hx⟩ : ∃ x, x = r.getD k 0 := ⟨_, rfl⟩
    have hlm : (r.map Iw)[k]? = some (Iw x) := by rw [List.getElem?_map, List.getElem?_eq_getElem hkl, hx, List.getD_eq_getElem?_getD, List.getElem?_eq_getElem hkl]; rfl
    obtain ⟨a2, rfl, hcx⟩ : ∃ a2, ad = some a2 ∧ wr.cell? (a2.add k) = some (.int .i64 (sgn x)) := by
      obtain ⟨p', c', h1, h5⟩ := HR.out.2.2.1
      injection h1 with h1 _ _
      obtain ⟨a2, e, hc⟩ := h5 k _ hlm
      exact ⟨a2, h1.trans e, (cellKept I.out.kept (cell_lt hc) (by simp)).trans hc⟩
    have htk : preL false rs m ++ r.take (k + 1) = (preL false rs m ++ r.take k) ++ [x] := by
      rw [List.append_assoc, List.take_succ_eq_append_getElem hkl, hx, List.getD_eq_getElem?_getD, List.getElem?_eq_getElem hkl]; rfl
    have HX := Lib.hid htk
    have HX2 := Lib.hid (show x ∈ r by rw [hx, List.getD_eq_getElem?_getD, List.getElem?_eq_getElem hkl]; exact List.getElem_mem hkl)
    clear htk hlm hx
    have w8 : (k : Int) < (r.length : Int) := by omega
    have w9 : IntKind.i64.wrap ((k : Int) + 1) = (k : Int) + 1 := IntWalk.i64_in _ (by omega)
    go_wp2_with fail
    refine (bg44 _).mono ?_; rintro e w' ⟨rfl, rfl⟩
    clear hcx
    go_wp2_with fail
    refine (newSet45 _).mono ?_; rintro e w2 ⟨g, rfl, hk2, -, -⟩
    have I2 := Lib.hid (I.out.fresh hk2 (by simp))
    have R2 := Lib.hid (R.out.kept hk2 (by simp))
    clear hk2
    go_wp2_with fail
    obtain ⟨B, hB⟩ := HF.out.1 m hlt
    have hB' : Fine top ms ((top : Int) - S).toNat B ((preL false rs m ++ r.take k).map fv ++ [fv x]) := by
      have e : (preL false rs m ++ r.take k).map fv ++ [fv x] = (preL false rs m ++ r.take (k + 1)).map fv := by rw [HX.out]; simp
      rw [e]
      refine Fine.left (k := (r.drop (k + 1)).map fv) ?_
      rw [← List.map_append, List.append_assoc, List.take_append_drop, ← HR.out.2.1]; exact hB
    have hokx : okI x := HOK.out m hlt x (by rw [← HR.out.1]; exact HX2.out)
    have hll : (preL false rs m ++ r.take k).length < 1000 := by
      have h1 := HR.out.2.2.2.2
      have h2 := List.length_take_le k r
      rw [List.length_append]; omega
    refine (flt94 p h b g x top B ms S _ F _ _ w2 I2.out.pc I2.out.hc I2.out.map I2.out.bF HF.out.2.2 hB' hokx HS.out.1 HS.out.2.1 HS.out.2.2.1 HS.out.2.2.2.1 HS.out.2.2.2.2 hll).mono ?_
    rintro e w3 ⟨rfl, F', q1, q2, q3, q4⟩
    rw [← HX.out] at q1
    have I3 := Lib.hid (I2.out.step q1 q2 q3 q4)
    have R3 := Lib.hid (R2.out.step (A' := h :: p :: b :: F') (q2.sub fun i hi => List.mem_cons_of_mem _ (List.mem_cons_of_mem _ hi)) (fun i hi => by
      simp only [List.mem_cons] at hi ⊢
      rcases hi with h0 | h0 | h0 | hi
      · exact .inl (.inl h0)
      · exact .inl (.inr (.inl h0))
      · exact .inl (.inr (.inr (.inl h0)))
      · exact (q3 i hi).imp (fun h => .inr (.inr (.inr h))) id))
    clear q1 q2 q3 q4 hB hB' hll
    go_wp2_with fail
    go_roundw
    case rel => exact ⟨k + 1, F', by omega, by go_num, I3.out, R3.out⟩
    case measure => simp [intOf]; omega
  -- the collection
  obtain rfl : k = r.length := by omega
  have w8 : ¬ (r.length : Int) < (r.length : Int) := by omega
  clear hkl hk
  obtain ⟨l, hl⟩ : ∃ l, l = accL false rs m := ⟨_, rfl⟩
  have hll : preL false rs m ++ r.take r.length = l := by rw [hl, HR.out.2.1, List.take_length]
  rw [hll] at I
  have hlim : BkLim (bkOf top ms S (l.map fv)) := by
    obtain ⟨B, hB⟩ := HF.out.1 m hlt
    rw [← hl] at hB
    refine (hB.lim HS.out.1 HS.out.2.1 HS.out.2.2.1 HS.out.2.2.2.1 ?_).1
    have h1 := HR.out.2.2.2.2
    rw [List.length_map, hl, HR.out.2.1, List.length_append]; omega
  have HLM := Lib.hid hlim
  have HLL := Lib.hid hl
  clear hll hlim hl
  go_wp2_with fail
  have J := Lib.hid (I.out.fresh (((Kept.refl [] wr).alloc (.cells #[.nilIface] 102))) (by simp))
  have RJ := Lib.hid (R.out.kept (((Kept.refl [] wr).alloc (.cells #[.nilIface] 102))) (by simp))
  have hqb : wr.heap.size ≠ b := by have := I.out.lt b List.mem_cons_self; omega
  have hqh : wr.heap.size ≠ h := by have := heap_lt I.out.hc; omega
  have hhb : h ≠ b := fun e => I.out.hh (e ▸ List.mem_cons_self)
  have hqF : wr.heap.size ∉ F := fun hm => by have := I.out.lt _ (List.mem_cons_of_mem _ hm); omega
  have hd1 : (wr.alloc (.cells #[.nilIface] 102)).cell? ⟨wr.heap.size, 0, none⟩ = some .nilIface := by go_simp
  have hd2 : (wr.alloc (.cells #[.nilIface] 102)).frozen? ⟨wr.heap.size, 0, none⟩ = false := by go_simp
  refine (cum61 h b wr.heap.size top ms S l F _ J.out.hc J.out.map hd1 hd2 hqb hqh hhb hqF HLM.out).mono ?_
  clear hd1 hd2
  rintro e w2 ⟨⟨n, rfl⟩, V, q1, q2, q3, q4⟩
  obtain ⟨F2, hF2⟩ : ∃ F2 : List Nat, F2 = F := ⟨_, rfl⟩
  have QK := Lib.hid (((Kept.refl [wr.heap.size, b] wr).alloc (.cells #[.nilIface] 102)).trans (q4.sub (by simp)))
  have I2 := Lib.hid (show ExInv w p h b top ms S (preL false rs (m + 1)) F2 w2 by
    rw [hF2, preL_succ rs m hlt, ← HLL.out]; exact I.out.coll (F' := F) q3 QK.out (Nat.le_refl _) (by simp) I.out.bF)
  have R2 := Lib.hid (show ResAt w2 (h :: p :: b :: F2) top ms S (accL false rs) u14 m es by
    rw [hF2]
    exact R.out.kept QK.out (by intro i hi; simp at hi ⊢; omega))
  have hcq : w2.cell? ⟨wr.heap.size, 0, none⟩ = some (.iface 106 (.agg #[V, .int .u8 1])) := q1
  have CO := Lib.hid q2
  clear q1 q2 q3 q4 R RJ I J hqb hqh hhb hqF
  have hta2 := hta V 1
  clear hta
  have hql2 : wr.heap.size < w2.heap.size := cell_lt hcq
  obtain ⟨i0, hi⟩ := info26
  have HI := Lib.hid hi
  have W1 : IntKind.i64.wrap ((m : Int) + 1) = (m : Int) + 1 := IntWalk.i64_in _ (by omega)
  clear hi
  rcases CO.out with ⟨hl0, rfl⟩ | ⟨hl0, g, z, r1, vp, vb, mn, mx, rfl, hmm, hsum, hg, hvp, hvb⟩
  · -- no data point
    have HZ := Lib.hid hl0
    clear hl0 CO
    go_wp2_with (at_builtin; refine wpList_append_own_at _ rfl _ _ 47 rfl 0 26 i0 (.agg exZero.toArray) 11 120 Tryz.underlying47 HI.out.1 HI.out.2.1 HI.out.2.2.1 HI.out.2.2.2 rfl (by decide) _ _ _ rfl (((R2.out.own.1.alloc _).alloc _).alloc _) ⟨w2.heap.size + 2, 0, none⟩ 1 1 exZero rfl rfl (by exact new_cells' ((w2.alloc (.cells exZero.toArray 26)).alloc (.cells #[.slice none 0 0, .int .u8 1] 106)) exZero 26 _ (by simp)) (by decide) (by unfold maxLen; omega) (by omega) (Nat.zero_le _) ?_; intro v' w4 hown' hgrow hnil hloc)
    have HO := Lib.hid (And.intro hown' (And.intro hgrow hloc))
    have K3 : Kept [] w2 (((w2.alloc (.cells exZero.toArray 26)).alloc (.cells #[.slice none 0 0, .int .u8 1] 106)).alloc (.cells exZero.toArray 26)) := (((Kept.refl [] w2).alloc _).alloc _).alloc _
    have I3 := I2.out.fresh K3 (by simp)
    have R3 := R2.out.kept K3 (by simp)
    have Rn := R3.push (.inl ⟨by rw [← HLL.out]; exact HZ.out, rfl⟩) rfl HO.out.1 HO.out.2.1 HO.out.2.2 I3.lt2
    have I4 := I3.own HO.out.2.1 R3.own HON.out
    have hON2 : ∀ z, v'.ownBlock = some z → w.heap.size ≤ z := fun z hz => by
      rcases HO.out.2.2 with e | e
      · exact HON.out z (e ▸ hz)
      · rw [hz] at e; cases e; exact I3.kept.size
    have RN := Lib.hid (And.intro I4 (And.intro Rn hON2))
    clear hON2 I3 R3 Rn I4 K3 hown' hgrow hnil hloc
    go_roundw
    case rel => exact ⟨m + 1, _, F2, by omega, by go_num, RN.out.1, RN.out.2.1, RN.out.2.2⟩
    case measure => simp [intOf]; omega
  · -- a data point
    have HM := Lib.hid (And.intro hmm (And.intro hsum (And.intro hvp (And.intro hvb hl0))))
    have HG := Lib.hid hg
    have hgl := heap_lt hg
    obtain ⟨T, hT⟩ : ∃ T, (bkOf top ms S (l.map fv)).pl.sum + (bkOf top ms S (l.map fv)).nl.sum + (bkOf top ms S (l.map fv)).zc = T := ⟨_, rfl⟩
    rw [hT] at hg
    obtain ⟨bk, hbk⟩ : ∃ bk, bkOf top ms S (l.map fv) = bk := ⟨_, rfl⟩
    have HBK := Lib.hid (And.intro hbk hT)
    rw [hbk] at hg
    clear hT
    obtain ⟨p1, p2, p3, hvp2⟩ : ∃ p1 p2 p3, vp = .slice p1 p2 p3 := by rcases HM.out.2.2.1 with ⟨h, _⟩ | ⟨_, h, _⟩ <;> exact ⟨_, _, _, h⟩
    obtain ⟨p4, p5, p6, hvb2⟩ : ∃ p1 p2 p3, vb = .slice p1 p2 p3 := by rcases HM.out.2.2.2.1 with ⟨h, _⟩ | ⟨_, h, _⟩ <;> exact ⟨_, _, _, h⟩
    subst hvp2 hvb2
    obtain ⟨pc, hpc⟩ : ∃ pc, pc = ptCells z T mn mx r1 bk (.slice p1 p2 p3) (.slice p4 p5 p6) := ⟨_, rfl⟩
    rw [← hpc] at hg
    have hps : pc.size = 18 := by rw [hpc]; rfl
    have hp1 : pc.all (·.oneCell') = true := by rw [hpc]; simp [ptCells, Value.oneCell', U]
    have hg2 : ((w2.alloc (.cells exZero.toArray 26)).alloc (.cells #[.slice (some ⟨g, 0, none⟩) 1 1, .int .u8 1] 106)).heap[g]? = some (.cells pc 116 (0, 0)) := (((Kept.refl [] w2).alloc _).alloc _).obj hg (by simp)
    have hg3 := alloc_new ((w2.alloc (.cells exZero.toArray 26)).alloc (.cells #[.slice (some ⟨g, 0, none⟩) 1 1, .int .u8 1] 106)) (.cells zeroPt 116)
    have hsz3 : ((w2.alloc (.cells exZero.toArray 26)).alloc (.cells #[.slice (some ⟨g, 0, none⟩) 1 1, .int .u8 1] 106)).heap.size = w2.heap.size + 2 := by simp
    rw [hsz3] at hg3
    have HPC := Lib.hid hpc
    have HPS := Lib.hid (And.intro hps (And.intro hp1 (And.intro hg2 hg3)))
    clear hg hmm hsum hvp hvb hl0 CO hbk hpc hps hp1 hg2 hg3 hsz3
    go_upto_region 20 with (first
      | (refine wpList_load_row rfl 116 _ rfl g pc 116 rfl HPS.out.2.2.1 _ Tryz.underlying116 rfl (by rw [HPS.out.1]; kernel_rfl) ?_)
      | (refine wpList_store_row rfl 116 _ _ rfl (w2.heap.size + 2) pc rfl rfl 116 zeroPt HPS.out.2.2.2 (by rw [HPS.out.1]; kernel_rfl) (by rw [HPS.out.1]; rfl) HPS.out.2.1 ?_))
    go_frame
    generalize hW5 : World.setRow _ (w2.heap.size + 2) pc = W5
    have K5 := Lib.hid (show Kept [] w2 W5 by rw [← hW5]; exact setRow_kept ((((Kept.refl [] w2).alloc _).alloc _).alloc _) (.inr (by omega)))
    have T5 := Lib.hid (show W5.heap[w2.heap.size + 2]? = some (.cells pc 116 (0, 0)) by rw [← hW5]; exact setRow_heap _ _ zeroPt pc 116 (0, 0) HPS.out.2.2.2)
    have X5 := Lib.hid (show W5.heap[w2.heap.size]? = some (.cells exZero.toArray 26 (0, 0)) by
      rw [← hW5, setRow_other _ _ _ _ (by omega)]
      exact (((Kept.refl [] (w2.alloc (.cells exZero.toArray 26))).alloc _).alloc _).obj (alloc_new w2 _) (by simp))
    have F5 := Lib.hid (show FX W5 w2.heap.size (w2.heap.size + 2) pc (.slice p1 p2 p3) (.slice p4 p5 p6) bk.pl bk.nl [] W5 from
      ⟨X5.out, T5.out, by rw [← HBK.out.1]; exact HM.out.2.2.1.kept K5.out, by rw [← HBK.out.1]; exact HM.out.2.2.2.1.kept K5.out, Kept.refl _ _, by simp⟩)
    clear hW5
    obtain ⟨xb, hxb⟩ : ∃ xb, w2.heap.size = xb := ⟨_, rfl⟩
    have HXB := Lib.hid hxb
    rw [hxb] at F5
    have T5' := Lib.hid (show W5.heap[xb + 2]? = some (.cells pc 116 (0, 0)) by rw [← hxb]; exact T5.out)
    rw [hxb]
    clear hxb
    go_cut [] from 74 to 98 (fun wx => FXE W5 xb (xb + 2) pc T (IntKind.u64.wrap r1) bk.sc bk.zc bk.ps bk.ns bk.pl bk.nl wx)
    case first =>
      have hbl : bk.pl.length ≤ 1000 ∧ bk.nl.length ≤ 1000 := by rw [← HBK.out.1]; have h1 := HLM.out.pl; have h2 := HLM.out.nl; omega
      have HBL := Lib.hid hbl
      have FD := F5.out.dr
      have e0 : W5.drew.cell? ⟨xb, 0, none⟩ = some (.bool false) := cellOf FD.x rfl
      have e1 : W5.drew.cell? ⟨xb, 1, none⟩ = some (.int .u64 0) := cellOf FD.x rfl
      have e2 : W5.drew.cell? ⟨xb, 2, none⟩ = some (.int .u64 0) := cellOf FD.x rfl
      have e3 : W5.drew.cell? ⟨xb, 3, none⟩ = some (.int .u64 0) := cellOf FD.x rfl
      have e4 : W5.drew.cell? ⟨xb, 4, none⟩ = some (.int .u64 0) := cellOf FD.x rfl
      have e5 : W5.drew.cell? ⟨xb, 5, none⟩ = some (.int .i32 0) := cellOf FD.x rfl
      have FX1 := Lib.hid FD
      have hne : xb ≠ xb + 2 := by omega
      clear hbl FD e0 e1 e2 e3 e4 e5
      have tc : ∀ {w' : World} {O : List (Value × List Nat)}, FX W5 xb (xb + 2) pc (.slice p1 p2 p3) (.slice p4 p5 p6) bk.pl bk.nl O w' →
        w'.cell? ⟨xb + 2, 4, none⟩ = some (.int .u64 (T : Int)) ∧ w'.cell? ⟨xb + 2, 9, none⟩ = some (.int .i64 r1) ∧ w'.cell? ⟨xb + 2, 10, none⟩ = some (.int .i32 bk.sc) ∧ w'.cell? ⟨xb + 2, 11, none⟩ = some (.int .u64 (bk.zc : Int)) ∧
        w'.cell? ⟨xb + 2, 12, none⟩ = some (.int .i32 bk.ps) ∧ w'.cell? ⟨xb + 2, 13, none⟩ = some (.slice p1 p2 p3) ∧ w'.cell? ⟨xb + 2, 14, none⟩ = some (.int .i32 bk.ns) ∧ w'.cell? ⟨xb + 2, 15, none⟩ = some (.slice p4 p5 p6) := by
        intro w' O hF
        have h := hF.t
        rw [HPC.out] at h
        exact ⟨cellOf h rfl, cellOf h rfl, cellOf h rfl, cellOf h rfl, cellOf h rfl, cellOf h rfl, cellOf h rfl, cellOf h rfl⟩
      have TC : Hid (∀ (w' : World) (O : List (Value × List Nat)), FX W5 xb (xb + 2) pc (.slice p1 p2 p3) (.slice p4 p5 p6) bk.pl bk.nl O w' → _) := Lib.hid (fun w' O h => tc h)
      clear tc
      obtain ⟨t4, t9, t10, t11, t12, t13, t14, t15⟩ := TC.out _ _ FX1.out
      go_region_held3 (fun w' => w'.cell? ⟨xb + 2, 4, none⟩ = some (.int .u64 (T : Int)) ∧ w'.cell? ⟨xb + 2, 9, none⟩ = some (.int .i64 r1) ∧ w'.cell? ⟨xb + 2, 10, none⟩ = some (.int .i32 bk.sc) ∧ w'.cell? ⟨xb + 2, 11, none⟩ = some (.int .u64 (bk.zc : Int)) ∧
          w'.cell? ⟨xb + 2, 12, none⟩ = some (.int .i32 bk.ps) ∧ w'.cell? ⟨xb + 2, 13, none⟩ = some (.slice p1 p2 p3) ∧ w'.cell? ⟨xb + 2, 14, none⟩ = some (.int .i32 bk.ns) ∧ w'.cell? ⟨xb + 2, 15, none⟩ = some (.slice p4 p5 p6))
        (first
          | (refine ⟨?_, ?_, ?_, ?_, ?_, ?_, ?_, ?_⟩ <;> (repeat rw [World.cell?_setCell_far _ _ _ _ hne]) <;> assumption))
        (first
          | (go_at_call 39; refine (bits39 _ _).mono ?_; rintro e w' ⟨rfl, rfl⟩)
          | (refine step_append_num (.slice p1 p2 p3) bk.pl rfl _ _ rfl rfl rfl FX1.out.p HBL.out.1 ?_
             intro ad1 c1 wA hownA hgA
             have FX1 := Lib.hid (FX1.out.push hownA hgA)
             clear hownA hgA
             have e0 : wA.cell? ⟨xb, 0, none⟩ = some (.bool false) := cellOf FX1.out.x rfl
             have e1 : wA.cell? ⟨xb, 1, none⟩ = some (.int .u64 0) := cellOf FX1.out.x rfl
             have e2 : wA.cell? ⟨xb, 2, none⟩ = some (.int .u64 0) := cellOf FX1.out.x rfl
             have e3 : wA.cell? ⟨xb, 3, none⟩ = some (.int .u64 0) := cellOf FX1.out.x rfl
             have e4 : wA.cell? ⟨xb, 4, none⟩ = some (.int .u64 0) := cellOf FX1.out.x rfl
             have e5 : wA.cell? ⟨xb, 5, none⟩ = some (.int .i32 0) := cellOf FX1.out.x rfl
             have e6 : wA.cell? ⟨xb, 6, none⟩ = some (.int .u64 0) := cellOf FX1.out.x rfl
             have e7 : wA.cell? ⟨xb, 7, none⟩ = some (.int .i32 0) := cellOf FX1.out.x rfl
             have e8 : wA.cell? ⟨xb, 8, none⟩ = some (.slice none 0 0) := cellOf FX1.out.x rfl
             have e9 : wA.cell? ⟨xb, 9, none⟩ = some (.int .i32 0) := cellOf FX1.out.x rfl
             have e10 : wA.cell? ⟨xb, 10, none⟩ = some (.slice none 0 0) := cellOf FX1.out.x rfl
             have ff : ∀ i, wA.frozen? ⟨xb, i, none⟩ = false := fun i => frOf FX1.out.x
             obtain ⟨t4, t9, t10, t11, t12, t13, t14, t15⟩ := TC.out _ _ FX1.out)
          | (refine step_append_num (.slice p4 p5 p6) bk.nl rfl _ _ rfl rfl rfl FX1.out.n HBL.out.2 ?_
             intro ad2 c2 wB hownB hgB
             have FX1 := Lib.hid (FX1.out.push hownB hgB)
             clear hownB hgB
             have e0 : wB.cell? ⟨xb, 0, none⟩ = some (.bool false) := cellOf FX1.out.x rfl
             have e1 : wB.cell? ⟨xb, 1, none⟩ = some (.int .u64 0) := cellOf FX1.out.x rfl
             have e2 : wB.cell? ⟨xb, 2, none⟩ = some (.int .u64 0) := cellOf FX1.out.x rfl
             have e3 : wB.cell? ⟨xb, 3, none⟩ = some (.int .u64 0) := cellOf FX1.out.x rfl
             have e4 : wB.cell? ⟨xb, 4, none⟩ = some (.int .u64 0) := cellOf FX1.out.x rfl
             have e5 : wB.cell? ⟨xb, 5, none⟩ = some (.int .i32 0) := cellOf FX1.out.x rfl
             have e6 : wB.cell? ⟨xb, 6, none⟩ = some (.int .u64 0) := cellOf FX1.out.x rfl
             have e7 : wB.cell? ⟨xb, 7, none⟩ = some (.int .i32 0) := cellOf FX1.out.x rfl
             have e8 : wB.cell? ⟨xb, 8, none⟩ = some (.slice none 0 0) := cellOf FX1.out.x rfl
             have e9 : wB.cell? ⟨xb, 9, none⟩ = some (.int .i32 0) := cellOf FX1.out.x rfl
             have e10 : wB.cell? ⟨xb, 10, none⟩ = some (.slice none 0 0) := cellOf FX1.out.x rfl
             have ff : ∀ i, wB.frozen? ⟨xb, i, none⟩ = false := fun i => frOf FX1.out.x
             obtain ⟨t4, t9, t10, t11, t12, t13, t14, t15⟩ := TC.out _ _ FX1.out))
      all_goals
        go_wp2_with fail
        go_meet
        exact FX.fin FX1.out hne (T : Int) (IntKind.u64.wrap r1) bk.sc bk.zc bk.ps bk.ns (by simp) (by simp)
    case rest =>
    obtain ⟨va, vb', hx, htt, hk, ha, hb', ⟨pa, na, ca, rfl⟩, ⟨pb, nb, cb, rfl⟩⟩ := hcut
    have CX := Lib.hid (And.intro hx (And.intro htt (And.intro hk (And.intro ha hb'))))
    have htt2 := htt
    rw [HPC.out] at htt2
    have m5 : wc.cell? ⟨xb + 2, 5, none⟩ = some (.int .i64 (sgn mn)) := cellOf htt2 rfl
    have m6 : wc.cell? ⟨xb + 2, 6, none⟩ = some (.bool true) := cellOf htt2 rfl
    clear hx htt hk ha hb' htt2
    go_wp2_with fail
    refine (extVal48 (sgn mn) true _).mono ?_; rintro e wD ⟨rfl, hkD⟩
    have XD := Lib.hid (hkD.obj CX.out.1 (by simp))
    have TD := Lib.hid (hkD.obj CX.out.2.1 (by simp))
    have KD := Lib.hid hkD
    have x3 : wD.cell? ⟨xb, 3, none⟩ = some (.int .u64 0) := cellOf XD.out rfl
    have y3 : wD.frozen? ⟨xb, 3, none⟩ = false := frOf XD.out
    have htt2 := TD.out
    rw [HPC.out] at htt2
    have m7 : wD.cell? ⟨xb + 2, 7, none⟩ = some (.int .i64 (sgn mx)) := cellOf htt2 rfl
    have m8 : wD.cell? ⟨xb + 2, 8, none⟩ = some (.bool true) := cellOf htt2 rfl
    have hne2 : xb ≠ xb + 2 := by omega
    clear hkD m5 m6 htt2
    go_wp2_with fail
    refine (bits39 _ _).mono ?_; rintro e w' ⟨rfl, rfl⟩
    go_wp2_with fail
    refine grab (fun W => W.heap[xb]? = some (.cells #[.bool true, .int .u64 (T : Int), .int .u64 (IntKind.u64.wrap r1), .int .u64 (IntKind.u64.wrap (sgn mn)), .int .u64 0, .int .i32 bk.sc, .int .u64 (bk.zc : Int), .int .i32 bk.ps, .slice pa na ca, .int .i32 bk.ns, .slice pb nb cb] 26 (0, 0)) ∧ Kept [xb] wc W) ?_ ?_
    · exact ⟨blkSet' XD.out rfl, (KD.out.sub (by simp)).setCell (.inl (by simp)) _⟩
    rintro wF ⟨hxF, hkF⟩
    have XF := Lib.hid hxF
    have KF := Lib.hid hkF
    clear x3 y3 m7 m8 hxF hkF
    refine (extVal48 (sgn mx) true _).mono ?_; rintro e wG ⟨rfl, hkG⟩
    have XG := Lib.hid (hkG.obj XF.out (by simp))
    have KG := Lib.hid (KF.out.trans (hkG.sub (by simp)))
    have x4 : wG.cell? ⟨xb, 4, none⟩ = some (.int .u64 0) := cellOf XG.out rfl
    have y4 : wG.frozen? ⟨xb, 4, none⟩ = false := frOf XG.out
    have XH := Lib.hid (show (wG.setCell ⟨xb, 4, none⟩ (.int .u64 (IntKind.u64.wrap (sgn mx)))).heap[xb]? = some (.cells #[.bool true, .int .u64 (T : Int), .int .u64 (IntKind.u64.wrap r1), .int .u64 (IntKind.u64.wrap (sgn mn)), .int .u64 (IntKind.u64.wrap (sgn mx)), .int .i32 bk.sc, .int .u64 (bk.zc : Int), .int .i32 bk.ps, .slice pa na ca, .int .i32 bk.ns, .slice pb nb cb] 26 (0, 0)) from blkSet' XG.out rfl)
    have KH := Lib.hid (show Kept [xb] wc (wG.setCell ⟨xb, 4, none⟩ (.int .u64 (IntKind.u64.wrap (sgn mx)))) from KG.out.setCell (.inl (by simp)) _)
    have hs3 : xb + 2 < (wG.setCell ⟨xb, 4, none⟩ (.int .u64 (IntKind.u64.wrap (sgn mx)))).heap.size := heap_lt (KH.out.obj CX.out.2.1 (by simp))
    have hxw : w2.heap.size = xb := HXB.out
    have KALL := Lib.hid (((K5.out.sub (S' := [xb]) (by simp)).trans CX.out.2.2.1).trans KH.out)
    have R3 := Lib.hid (R2.out.kept KALL.out (by intro i hi; right; simp at hi; omega))
    have HXW := Lib.hid hxw
    clear hxw
    clear hkG
    go_wp2_with (first
      | (go_at_call 39; refine (bits39 _ _).mono ?_; rintro e w' ⟨rfl, rfl⟩)
      | (refine wpList_load_row rfl 26 _ rfl xb #[.bool true, .int .u64 (T : Int), .int .u64 (IntKind.u64.wrap r1), .int .u64 (IntKind.u64.wrap (sgn mn)), .int .u64 (IntKind.u64.wrap (sgn mx)), .int .i32 bk.sc, .int .u64 (bk.zc : Int), .int .i32 bk.ps, .slice pa na ca, .int .i32 bk.ns, .slice pb nb cb] 26 rfl XH.out _ Tryz.underlying26 rfl (by kernel_rfl) ?_)
      | (at_builtin; refine wpList_append_own_at _ rfl _ _ 47 rfl 0 26 i0 (.agg exZero.toArray) 11 120 Tryz.underlying47 HI.out.1 HI.out.2.1 HI.out.2.2.1 HI.out.2.2.2 rfl (by decide) _ _ _ rfl (R3.out.own.1.alloc _) ⟨wG.heap.size, 0, none⟩ 1 1 [.bool true, .int .u64 (T : Int), .int .u64 (IntKind.u64.wrap r1), .int .u64 (IntKind.u64.wrap (sgn mn)), .int .u64 (IntKind.u64.wrap (sgn mx)), .int .i32 bk.sc, .int .u64 (bk.zc : Int), .int .i32 bk.ps, .slice pa na ca, .int .i32 bk.ns, .slice pb nb cb] rfl rfl (by exact new_cells' (wG.setCell ⟨xb, 4, none⟩ (.int .u64 (IntKind.u64.wrap (sgn mx)))) [.bool true, .int .u64 (T : Int), .int .u64 (IntKind.u64.wrap r1), .int .u64 (IntKind.u64.wrap (sgn mn)), .int .u64 (IntKind.u64.wrap (sgn mx)), .int .i32 bk.sc, .int .u64 (bk.zc : Int), .int .i32 bk.ps, .slice pa na ca, .int .i32 bk.ns, .slice pb nb cb] 26 _ (by simp)) (by simp [Value.oneCell']) (by unfold maxLen; omega) (by omega) (Nat.zero_le _) ?_; intro v' w4 hown' hgrow hnil hloc))
    have HO := Lib.hid (And.intro hown' (And.intro hgrow hloc))
    have hxw : w2.heap.size = xb := HXW.out
    have K3 : Kept [xb] w2 ((wG.setCell ⟨xb, 4, none⟩ (.int .u64 (IntKind.u64.wrap (sgn mx)))).alloc (.cells #[.bool true, .int .u64 (T : Int), .int .u64 (IntKind.u64.wrap r1), .int .u64 (IntKind.u64.wrap (sgn mn)), .int .u64 (IntKind.u64.wrap (sgn mx)), .int .i32 bk.sc, .int .u64 (bk.zc : Int), .int .i32 bk.ps, .slice pa na ca, .int .i32 bk.ns, .slice pb nb cb] 26)) := KALL.out.alloc _
    have I3 := I2.out.fresh K3 (by intro i hi; simp at hi; omega)
    have R3a := R2.out.kept K3 (by intro i hi; right; simp at hi; omega)
    have KC : Kept [xb] wc ((wG.setCell ⟨xb, 4, none⟩ (.int .u64 (IntKind.u64.wrap (sgn mx)))).alloc (.cells #[.bool true, .int .u64 (T : Int), .int .u64 (IntKind.u64.wrap r1), .int .u64 (IntKind.u64.wrap (sgn mn)), .int .u64 (IntKind.u64.wrap (sgn mx)), .int .i32 bk.sc, .int .u64 (bk.zc : Int), .int .i32 bk.ps, .slice pa na ca, .int .i32 bk.ns, .slice pb nb cb] 26)) := KH.out.alloc _
    have hs5 : xb + 2 < W5.heap.size := heap_lt T5'.out
    have av : ∀ {v : Value} {n : Nat} {xs : List Value}, wc.ownsRow 0 23 1 v n xs → (∀ z, v.ownBlock = some z → W5.heap.size ≤ z) → OwnAv ((wG.setCell ⟨xb, 4, none⟩ (.int .u64 (IntKind.u64.wrap (sgn mx)))).alloc (.cells #[.bool true, .int .u64 (T : Int), .int .u64 (IntKind.u64.wrap r1), .int .u64 (IntKind.u64.wrap (sgn mn)), .int .u64 (IntKind.u64.wrap (sgn mx)), .int .i32 bk.sc, .int .u64 (bk.zc : Int), .int .i32 bk.ps, .slice pa na ca, .int .i32 bk.ns, .slice pb nb cb] 26)) (h :: p :: b :: F2) 23 1 v n xs := by
      intro v n xs h1 h2
      refine ⟨own_keptK h1 KC fun z hz hm => ?_, fun z hz hm => ?_⟩
      · have := h2 z hz; simp at hm; omega
      · have h3 := h2 z hz; have h4 := I2.out.lt2 z hm; omega
    have Rn := R3a.push (cs := [.bool true, .int .u64 (T : Int), .int .u64 (IntKind.u64.wrap r1), .int .u64 (IntKind.u64.wrap (sgn mn)), .int .u64 (IntKind.u64.wrap (sgn mx)), .int .i32 bk.sc, .int .u64 (bk.zc : Int), .int .i32 bk.ps, .slice pa na ca, .int .i32 bk.ns, .slice pb nb cb]) (.inr ⟨by rw [← HLL.out]; exact HM.out.2.2.2.2, r1, mn, mx, .slice pa na ca, .slice pb nb cb, by rw [← HLL.out]; exact HM.out.1, by rw [← HLL.out]; exact HM.out.2.1, by rw [← HLL.out, HBK.out.2, HBK.out.1]; rfl, by rw [← HLL.out, HBK.out.1]; exact av CX.out.2.2.2.1.1 CX.out.2.2.2.1.2, by rw [← HLL.out, HBK.out.1]; exact av CX.out.2.2.2.2.1 CX.out.2.2.2.2.2⟩) rfl HO.out.1 HO.out.2.1 HO.out.2.2 I3.lt2
    have I4 := I3.own HO.out.2.1 R3a.own HON.out
    have hON2 : ∀ z, v'.ownBlock = some z → w.heap.size ≤ z := fun z hz => by
      rcases HO.out.2.2 with e | e
      · exact HON.out z (e ▸ hz)
      · rw [hz] at e; cases e; exact I3.kept.size
    have RN := Lib.hid (And.intro I4 (And.intro Rn hON2))
    clear hON2 I3 R3a Rn I4 K3 KC av hown' hgrow hnil hloc hxw hs5
    go_roundw
    case rel => exact ⟨m + 1, _, F2, by omega, by go_num, RN.out.1, RN.out.2.1, RN.out.2.2⟩
    case measure => simp [intOf]; omega

end Go.Proofs.YtlpddogcnpokfaaGreat.I
