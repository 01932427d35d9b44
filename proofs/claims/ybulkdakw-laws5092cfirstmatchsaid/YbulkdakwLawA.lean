import Derived.Test.YbulkdakwBase
namespace Go.Proofs.Ybulkdakw
open Go.RowKit
set_option linter.unusedVariables false

set_option maxHeartbeats 3200000 in
set_option maxRecDepth 100000 in
theorem law_A (ia ca qa : Option Addr) (n ic cn cc qn qc : Nat) (L : List (List Int)) (cs : List Bool) (qs : List Int) (sel : Nat) (w : World) (hn : n ≤ 1024) (hq : qn ≤ 1024) (hcn : cn ≤ maxLen) (hsel : sel < 256)
    (hlm : ∀ i, (L.getD i []).length ≤ maxLen) (hI : CameL w.heap.size w ia n L) (hC : CameB w ca cn cs) (hQ : Sl w.heap.size w (.slice qa qn qc) qs) :
    Calls Yba.prog 3 #[.slice ia n ic, .slice ca cn cc, .slice qa qn qc, .bool false, .int .u8 sel] w fun e w' => e = .returned (.bool true) ∧ Below w.heap.size w w' := by
  unfold maxLen at hcn
  obtain ⟨Z, hZ, hmk⟩ := run_make30 n hn
  obtain ⟨i30, hi30, _⟩ := info_parts info30
  have hptr := fun (w : World) (a : Addr) => run_eql_ptr_same (P := Yba.prog) w a Yba.underlying53 hi30
  have HI := hid hI
  have HC := hid hC
  have HQ := hid hQ
  have HLm := hid hlm
  have HZ := hid hZ
  clear hI hC hQ hlm hZ
  go_enter Yba.func3, Yba.ntmps3
  go_wp2
  go_loopw [32] (fun c wr => ∃ k : Nat, k ≤ n ∧ c = .int .i64 k ∧ (∃ cur, wr.heap[w.heap.size]? = some (.cells cur 30 (0, 0)) ∧ cur.size = n * 3) ∧ Below w.heap.size w wr ∧
      (∀ i, i < k → Ent w.heap.size wr i (L.getD i []) (decide (i < cn) && cs.getD i false)) ∧ (∀ i, i < k → (L.getD i []).length ≤ 1024))
    (fun c _ => n - (intOf c).toNat)
  case atStart => exact ⟨0, by omega, rfl, ⟨Z, heap_alloc_new _ _, HZ.out⟩, (Below.refl _ w).alloc (Nat.le_refl _) _, by intro i hi; omega, by intro i hi; omega⟩
  case round =>
    obtain ⟨k, hk, rfl, ⟨cur, hblk, hcur⟩, hbel, hent, hlens⟩ := hrel
    have HEnt := hid hent
    have HLens := hid hlens
    clear hent hlens
    have hE := lt_of_block hblk
    by_cases hlt : k < n
    · rcases HI.out with h0 | ⟨ib, io, rfl, hib, hcell⟩
      · omega
      obtain ⟨v, hv, hs⟩ := hcell k hlt
      have hs0 := hs
      obtain ⟨va, vn, vc, rfl, hvn, hv3, hv4⟩ := hs
      have hvr : wr.cell? ⟨ib, io + k, none⟩ = some (.slice va vn vc) := by rw [hbel.cell (p := ⟨ib, io + k, none⟩) hib]; exact hv
      have hvle := HLm.out k
      rw [← hvn] at hvle
      unfold maxLen at hvle
      have HVn := hid hvn
      clear hvn hv3 hv4 hv hcell
      by_cases hbig : 1024 < vn
      · go_wp2
        go_ret
        exact ⟨rfl, hbel⟩
      · have hsr : Sl w.heap.size wr (.slice va vn vc) (L.getD k []) := hs0.keep (m := 0) (fun p u hp hu => by rw [hbel.cell (block_lt_of_cell hu)]; exact hu)
        have HSr := hid hsr
        clear hs0 hsr
        have hEr : w.heap.size < wr.heap.size := hE
        go_wp2_with fail
        refine (clone_any HSr.out hEr (by have := HVn.out; omega)).mono ?_
        rintro e w1 ⟨v', rfl, hS1, hb1⟩
        have hblk1 : w1.heap[w.heap.size]? = some (.cells cur 30 (0, 0)) := by rw [hb1.block _ hE]; exact hblk
        have hsz1 := hb1.size
        obtain ⟨xa, xn, xc, hx1, hx2⟩ := hS1
        subst hx1
        have hS1 : Sl w.heap.size w1 (.slice xa xn xc) (L.getD k []) := ⟨xa, xn, xc, rfl, hx2⟩
        have hC0 : ∃ u, w1.cell? ⟨w.heap.size, k * 3, none⟩ = some u := by
          rw [cell_of_row _ _ _ _ _ _ hblk1]; exact ⟨_, Array.getElem?_eq_getElem (by omega)⟩
        have hC1 : ∃ u, w1.cell? ⟨w.heap.size, k * 3 + 1, none⟩ = some u := by
          rw [cell_of_row _ _ _ _ _ _ hblk1]; exact ⟨_, Array.getElem?_eq_getElem (by omega)⟩
        have hC2 : ∃ u, w1.cell? ⟨w.heap.size, k * 3 + 2, none⟩ = some u := by
          rw [cell_of_row _ _ _ _ _ _ hblk1]; exact ⟨_, Array.getElem?_eq_getElem (by omega)⟩
        obtain ⟨u0, hu0⟩ := hC0
        obtain ⟨u1, hu1⟩ := hC1
        obtain ⟨u2, hu2⟩ := hC2
        have f0 := frozen_of_row w1 w.heap.size (k * 3) _ _ hblk1
        have f1 := frozen_of_row w1 w.heap.size (k * 3 + 1) _ _ hblk1
        have f2 := frozen_of_row w1 w.heap.size (k * 3 + 2) _ _ hblk1
        have hE1 : w.heap.size < w1.heap.size := by omega
        have HSt := fun cr => hid (laid_step (cr := cr) (n := n) hblk1 hcur hlt hS1)
        have HK1 : Hid (Keep w.heap.size (k * 3) wr w1) := Keep.below hb1
        have hbel1 : Below w.heap.size w w1 := hbel.trans (hb1.mono (by omega))
        have HFin : ∀ cr : Bool, cr = (decide (k < cn) && cs.getD k false) → Hid ((∃ cur, (laidW w.heap.size k w1 (.slice xa xn xc) cr).heap[w.heap.size]? = some (.cells cur 30 (0, 0)) ∧ cur.size = n * 3) ∧ Below w.heap.size w (laidW w.heap.size k w1 (.slice xa xn xc) cr) ∧
            (∀ i, i < k + 1 → Ent w.heap.size (laidW w.heap.size k w1 (.slice xa xn xc) cr) i (L.getD i []) (decide (i < cn) && cs.getD i false)) ∧ (∀ i, i < k + 1 → (L.getD i []).length ≤ 1024)) := by
          intro cr hcr
          obtain ⟨t1, t2, t3, t4⟩ := (HSt cr).out
          refine ⟨t1, hbel1.trans (t4 _ (Nat.le_refl _)), fun i hi => ?_, fun i hi => ?_⟩
          · by_cases hik : i < k
            · exact (HEnt.out i hik).keep (HK1.out.trans t2) (by omega)
            · have : i = k := by omega
              subst this
              rw [← hcr]
              exact t3
          · by_cases hik : i < k
            · exact HLens.out i hik
            · have : i = k := by omega
              subst this
              have := HVn.out
              omega
        clear hblk hblk1 hcur hvr hS1 hx2 hbel hb1 HSt
        by_cases hkc : k < cn
        · rcases HC.out with h0 | ⟨cb, co, rfl, hcb, hcc⟩
          · omega
          have hcr : w1.cell? ⟨cb, co + k, none⟩ = some (.bool (cs.getD k false)) := by rw [hbel1.cell (p := ⟨cb, co + k, none⟩) hcb]; exact hcc k hkc
          obtain ⟨bb, hbb⟩ : ∃ bb, cs.getD k false = bb := ⟨_, rfl⟩
          rw [hbb] at hcr
          have HF := HFin bb (by rw [hbb]; simp [hkc])
          clear hcc hbb HFin
          go_wp2
          obtain ⟨r1, r2, r3, r4⟩ := HF.out
          exact ⟨⟨k + 1, by omega, by go_num, r1, r2, r3, r4⟩, by simp [intOf]; omega⟩
        · have HF := HFin false (by simp [hkc])
          clear HFin
          go_wp2
          obtain ⟨r1, r2, r3, r4⟩ := HF.out
          exact ⟨⟨k + 1, by omega, by go_num, r1, r2, r3, r4⟩, by simp [intOf]; omega⟩
    · have hkn : k = n := by omega
      subst hkn
      have HB := hid hblk
      clear hblk
      have hQr : Sl w.heap.size wr (.slice qa qn qc) qs := HQ.out.keep (m := 0) (fun p u hp hu => by rw [hbel.cell (block_lt_of_cell hu)]; exact hu)
      have HQr := hid hQr
      have hqle : qs.length ≤ 1024 := by
        obtain ⟨a, m, c, h1, h2, _⟩ := hQr
        injection h1 with _ h3 _
        omega
      have HQle := hid hqle
      clear hQr hqle
      go_wp2_with fail
      refine (clone_any (xs := qs) HQr.out hE HQle.out).mono ?_
      rintro e w1 ⟨ov, rfl, hSo, hb1⟩
      obtain ⟨oa, on, oc, ho1, ho2⟩ := hSo
      subst ho1
      have HSo : Hid (Sl w.heap.size w1 (.slice oa on oc) (qs)) := ⟨oa, on, oc, rfl, ho2⟩
      have HE1 : Hid (∀ i, i < k → Ent w.heap.size w1 i (L.getD i []) (decide (i < cn) && cs.getD i false)) := fun i hi => (HEnt.out i hi).keep (m := k * 3) (Keep.below hb1) (by omega)
      have hbel1 : Below w.heap.size w w1 := hbel.trans (hb1.mono (by omega))
      have hE1 : w.heap.size < w1.heap.size := by have := hb1.size; omega
      have HYl : Hid ((qs).length ≤ 1024) := HQle.out
      obtain ⟨ys, hys⟩ : ∃ ys, ys = qs := ⟨_, rfl⟩
      rw [← hys] at HSo HYl
      clear hys ho2 hb1 HEnt HB HQ hbel HQr HQle 
      go_wp2_with (refine wpList_cert _ rfl rfl w.heap.size k rfl ?_; intro cells hcells)
      have kb : Below w1.heap.size w1 (w1.alloc (.cells cells 52)) := (Below.refl _ w1).alloc (Nat.le_refl _) _
      have HSoW : Hid (Sl w.heap.size (w1.alloc (.cells cells 52)) (.slice oa on oc) ys) := HSo.out.keep (m := 0) (Keep.below kb)
      have HEW : Hid (∀ i, i < k → Ent w.heap.size (w1.alloc (.cells cells 52)) i (L.getD i []) (decide (i < cn) && cs.getD i false)) := fun i hi => (HE1.out i hi).keep (m := k * 3) (Keep.below kb) (by omega)
      have hcW : (w1.alloc (.cells cells 52)).cell? ⟨w1.heap.size, 41, none⟩ = some (.slice (some ⟨w.heap.size, 0, none⟩) k k) := by
        rw [cell_of_row _ _ _ _ _ _ (heap_alloc_new w1 _)]; exact hcells
      have hbelW : Below w.heap.size w (w1.alloc (.cells cells 52)) := hbel1.alloc hbel1.size _
      have HILr : Hid (∀ i, i < k → ∃ b off, ia = some ⟨b, off, none⟩ ∧ ∃ v, (w1.alloc (.cells cells 52)).cell? ⟨b, off + i, none⟩ = some v ∧ Sl w.heap.size (w1.alloc (.cells cells 52)) v (L.getD i [])) := by
        intro i hi
        rcases HI.out with h0 | ⟨ib, io, h1, h2, h3⟩
        · omega
        obtain ⟨v, h4, h5⟩ := h3 i hi
        refine ⟨ib, io, h1, v, by rw [hbelW.cell (p := ⟨ib, io + i, none⟩) h2]; exact h4, h5.keep (m := 0) (fun p u hp hu => by rw [hbelW.cell (block_lt_of_cell hu)]; exact hu)⟩
      have HCLr : Hid (∀ i, i < cn → ∃ b off, ca = some ⟨b, off, none⟩ ∧ (w1.alloc (.cells cells 52)).cell? ⟨b, off + i, none⟩ = some (.bool (cs.getD i false))) := by
        intro i hi
        rcases HC.out with h0 | ⟨ib, io, h1, h2, h3⟩
        · omega
        refine ⟨ib, io, h1, by rw [hbelW.cell (p := ⟨ib, io + i, none⟩) h2]; exact h3 i hi⟩
      have hsz1 : w.heap.size < w1.heap.size := hE1
      clear HSo HE1 kb hbel1 hE1 HI HC hE
      refine (find_any w.heap.size w1.heap.size k k L (.slice oa on oc) ys _ hn HLens.out HYl.out hcW HSoW.out (fun i hi => (HEW.out i hi).idc)).mono ?_
      rintro e w2 ⟨⟨q0, rfl⟩, hcase⟩
      rcases hcase with ⟨f, hfk, hfy, hfirst, rfl⟩ | ⟨hnone, rfl⟩
      · have HFy := hid hfy
        have HFf := hid hfirst
        clear hfy hfirst
        go_wp2
        go_loopw [16, 105] (fun wt c wr => ∃ j q : Nat, j ≤ k ∧ c = .int .i64 j ∧ wt = .int .i64 (-1) ∧ (∀ i, i < j → L.getD i [] ≠ ys) ∧ wr = (w1.alloc (.cells cells 52)).drewN q) (fun _ c _ => k - (intOf c).toNat)
        case atStart => exact ⟨0, q0, by omega, rfl, rfl, by intro i hi; omega, rfl⟩
        case round =>
          obtain ⟨j, q, hj, rfl, rfl, hpre, rfl⟩ := hrel
          have HP := hid hpre
          clear hpre
          have hjf : j ≤ f := by
            rcases Nat.lt_or_ge f j with h | h
            · exact absurd HFy.out (HP.out f h)
            · exact h
          have hjk : j < k := by omega
          obtain ⟨vv, hvv, hsv⟩ := (HEW.out j hjk).idc
          obtain ⟨xa, xn, xc, hx1, hx2⟩ := hsv
          subst hx1
          have HSv : Hid (Sl w.heap.size ((w1.alloc (.cells cells 52)).drewN q) (.slice xa xn xc) (L.getD j [])) := ⟨xa, xn, xc, rfl, hx2⟩
          have HSo2 : Hid (Sl w.heap.size ((w1.alloc (.cells cells 52)).drewN q) (.slice oa on oc) ys) := HSoW.out
          clear hx2
          by_cases hm : L.getD j [] = ys
          · have hfj : f = j := by
              rcases Nat.lt_or_ge j f with h | h
              · exact absurd hm (HFf.out j h)
              · omega
            subst hfj
            have HDec : Hid (decide (L.getD f [] = ys) = true) := by
              show decide _ = true
              rw [decide_eq_true_iff]; exact hm
            clear hm
            go_wp2_with (go_at_call 6; refine (eq6_any HSv.out HSo2.out (HLens.out f hfk) HYl.out).mono ?_; rw [HDec.out]; rintro e w3 ⟨rfl, q3, rfl⟩)
            go_loopw [119] (fun c wr => ∃ j q : Nat, j ≤ k ∧ c = .int .i64 j ∧ wr = (w1.alloc (.cells cells 52)).drewN q) (fun c _ => k - (intOf c).toNat)
            case atStart => exact ⟨0, _, by omega, rfl, rfl⟩
            case round =>
              obtain ⟨j, q9, hj, rfl, rfl⟩ := hrel
              by_cases hjk : j < k
              · obtain ⟨ib, io, hia, vi, hvi, hsi⟩ := HILr.out j hjk
                subst hia
                obtain ⟨⟨vv, hvv, hsv⟩, hcr, ⟨vb, hvb, hval, hvc⟩⟩ := HEW.out j hjk
                obtain ⟨xa, xn, xc, hx1, hx2⟩ := hsv
                subst hx1
                obtain ⟨ya, yn, yc, hy1, hy2⟩ := hsi
                subst hy1
                have HSv : Hid (∀ q, Sl w.heap.size ((w1.alloc (.cells cells 52)).drewN q) (.slice xa xn xc) (L.getD j [])) := fun q => ⟨xa, xn, xc, rfl, hx2⟩
                have HSi : Hid (∀ q, Sl w.heap.size ((w1.alloc (.cells cells 52)).drewN q) (.slice ya yn yc) (L.getD j [])) := fun q => ⟨ya, yn, yc, rfl, hy2⟩
                clear hx2 hy2
                have b0 : (0 : Int) ≤ (j : Int) := by omega
                have b1 : (j : Int) < (k : Int) := by omega
                by_cases hjc : j < cn
                · obtain ⟨cb, co, hca, hcc⟩ := HCLr.out j hjc
                  subst hca
                  obtain ⟨bb, hbb⟩ : ∃ bb, cs.getD j false = bb := ⟨_, rfl⟩
                  rw [hbb] at hcc hcr
                  have hcr2 : (w1.alloc (.cells cells 52)).cell? ⟨w.heap.size, j * 3 + 1, none⟩ = some (.bool bb) := by rw [hcr]; simp [hjc]
                  have b2 : (j : Int) < (cn : Int) := by omega
                  clear hbb hcr
                  go_wp2
                  go_quiet (first | (go_at_call 6; exact quiet_add (eq6_same (HSv.out _) (HSi.out _) (HLens.out j hjk))))
                  go_wp2
                  exact ⟨⟨j + 1, _, by omega, by go_num, rfl⟩, by simp [intOf]; omega⟩
                · have hcr2 : (w1.alloc (.cells cells 52)).cell? ⟨w.heap.size, j * 3 + 1, none⟩ = some (.bool false) := by rw [hcr]; simp [hjc]
                  have hdc : decide ((j : Int) < (cn : Int)) = false := by rw [decide_eq_false_iff_not]; omega
                  clear hcr
                  go_wp2
                  go_quiet (first | (go_at_call 6; exact quiet_add (eq6_same (HSv.out _) (HSi.out _) (HLens.out j hjk))))
                  go_wp2
                  exact ⟨⟨j + 1, _, by omega, by go_num, rfl⟩, by simp [intOf]; omega⟩
              · have hje : j = k := by omega
                subst hje
                go_wp2
                go_ret
                exact ⟨by simp, below_drewN hbelW _⟩
          · have HNe := hid hm
            have HDec : Hid (decide (L.getD j [] = ys) = false) := by
              show decide _ = false
              rw [decide_eq_false_iff_not]; exact hm
            clear hm
            go_wp2_with (go_at_call 6; refine (eq6_any HSv.out HSo2.out (HLens.out j hjk) HYl.out).mono ?_; rw [HDec.out]; rintro e w3 ⟨rfl, q3, rfl⟩)
            refine ⟨⟨j + 1, _, by omega, by go_num, rfl, fun i hi => ?_, rfl⟩, by simp [intOf]; omega⟩
            by_cases hij : i < j
            · exact HP.out i hij
            · have : i = j := by omega
              subst this
              exact HNe.out
      · have HNone := hid hnone
        clear hnone
        go_wp2
        go_loopw [16, 105] (fun wt c wr => ∃ j q : Nat, j ≤ k ∧ c = .int .i64 j ∧ wt = .int .i64 (-1) ∧ wr = (w1.alloc (.cells cells 52)).drewN q) (fun _ c _ => k - (intOf c).toNat)
        case atStart => exact ⟨0, q0, by omega, rfl, rfl, rfl⟩
        case round =>
          obtain ⟨j, q, hj, rfl, rfl, rfl⟩ := hrel
          by_cases hjk : j < k
          · obtain ⟨vv, hvv, hsv⟩ := (HEW.out j hjk).idc
            obtain ⟨xa, xn, xc, hx1, hx2⟩ := hsv
            subst hx1
            have HSv : Hid (Sl w.heap.size ((w1.alloc (.cells cells 52)).drewN q) (.slice xa xn xc) (L.getD j [])) := ⟨xa, xn, xc, rfl, hx2⟩
            have HSo2 : Hid (Sl w.heap.size ((w1.alloc (.cells cells 52)).drewN q) (.slice oa on oc) ys) := HSoW.out
            clear hx2
            have HDec : Hid (decide (L.getD j [] = ys) = false) := by
              show decide _ = false
              rw [decide_eq_false_iff_not]; exact HNone.out j hjk
            go_wp2_with (go_at_call 6; refine (eq6_any HSv.out HSo2.out (HLens.out j hjk) HYl.out).mono ?_; rw [HDec.out]; rintro e w3 ⟨rfl, q3, rfl⟩)
            exact ⟨⟨j + 1, _, by omega, by go_num, rfl, rfl⟩, by simp [intOf]; omega⟩
          · have hje0 : j = k := by omega
            subst hje0
            go_wp2
            go_loopw [119] (fun c wr => ∃ i q : Nat, i ≤ j ∧ c = .int .i64 i ∧ wr = (w1.alloc (.cells cells 52)).drewN q) (fun c _ => j - (intOf c).toNat)
            case atStart => exact ⟨0, _, by omega, rfl, rfl⟩
            case round =>
              obtain ⟨ii, q9, hj, rfl, rfl⟩ := hrel
              by_cases hjk : ii < j
              · obtain ⟨ib, io, hia, vi, hvi, hsi⟩ := HILr.out ii hjk
                subst hia
                obtain ⟨⟨vv, hvv, hsv⟩, hcr, ⟨vb, hvb, hval, hvc⟩⟩ := HEW.out ii hjk
                obtain ⟨xa, xn, xc, hx1, hx2⟩ := hsv
                subst hx1
                obtain ⟨ya, yn, yc, hy1, hy2⟩ := hsi
                subst hy1
                have HSv : Hid (∀ q, Sl w.heap.size ((w1.alloc (.cells cells 52)).drewN q) (.slice xa xn xc) (L.getD ii [])) := fun q => ⟨xa, xn, xc, rfl, hx2⟩
                have HSi : Hid (∀ q, Sl w.heap.size ((w1.alloc (.cells cells 52)).drewN q) (.slice ya yn yc) (L.getD ii [])) := fun q => ⟨ya, yn, yc, rfl, hy2⟩
                clear hx2 hy2
                have b0 : (0 : Int) ≤ (ii : Int) := by omega
                have b1 : (ii : Int) < (j : Int) := by omega
                by_cases hjc : ii < cn
                · obtain ⟨cb, co, hca, hcc⟩ := HCLr.out ii hjc
                  subst hca
                  obtain ⟨bb, hbb⟩ : ∃ bb, cs.getD ii false = bb := ⟨_, rfl⟩
                  rw [hbb] at hcc hcr
                  have hcr2 : (w1.alloc (.cells cells 52)).cell? ⟨w.heap.size, ii * 3 + 1, none⟩ = some (.bool bb) := by rw [hcr]; simp [hjc]
                  have b2 : (ii : Int) < (cn : Int) := by omega
                  clear hbb hcr
                  go_wp2
                  go_quiet (first | (go_at_call 6; exact quiet_add (eq6_same (HSv.out _) (HSi.out _) (HLens.out ii hjk))))
                  go_wp2
                  exact ⟨⟨ii + 1, _, by omega, by go_num, rfl⟩, by simp [intOf]; omega⟩
                · have hcr2 : (w1.alloc (.cells cells 52)).cell? ⟨w.heap.size, ii * 3 + 1, none⟩ = some (.bool false) := by rw [hcr]; simp [hjc]
                  have hdc : decide ((ii : Int) < (cn : Int)) = false := by rw [decide_eq_false_iff_not]; omega
                  clear hcr
                  go_wp2
                  go_quiet (first | (go_at_call 6; exact quiet_add (eq6_same (HSv.out _) (HSi.out _) (HLens.out ii hjk))))
                  go_wp2
                  exact ⟨⟨ii + 1, _, by omega, by go_num, rfl⟩, by simp [intOf]; omega⟩
              · have hje : ii = j := by omega
                subst hje
                go_wp2
                go_ret
                exact ⟨by simp, below_drewN hbelW _⟩
end Go.Proofs.Ybulkdakw
