import Derived.Test.YbulkdammSet
namespace Go.Proofs.Ybulkdamm
open Go.RowKit
set_option linter.unusedVariables false

theorem info84 : (Yba.prog.info? 84).map (fun i => (i.zero, i.size, i.bytes)) = some (some (.agg #[.int .i32 0, .int .i32 0]), 2, 8) := by kernel_rfl

theorem own_cap0 {w : World} {base : Nat} {e : TypeId} {size g n cap : Nat} {xs : List Value} (h : w.ownsRow base e size (.slice (some ⟨g, 0, none⟩) n cap) n xs) : n ≤ cap := by
  rcases h.2 with ⟨h', _⟩ | ⟨g', cap', cur, h', hb, hg, hnc, _⟩
  · simp at h'
  · simp only [Value.slice.injEq, Option.some.injEq, Addr.mk.injEq, and_true, true_and] at h'
    obtain ⟨rfl, rfl⟩ := h'
    exact hnc
theorem slice_hi74 (g n cap : Nat) (W : World) : Sem.run Yba.prog (Instr.sliceAt 74 (.slice (some ⟨g, 0, none⟩) n cap) none (some (.int .i64 0)) none) W = .ok (.slice (some ⟨g, 0, none⟩) 0 cap) W := by
  have ht : Yba.prog.underlying 74 = some (.slice (Yba.prog.elem 74)) := by kernel_rfl
  have hsz : (sizeOf (Yba.prog.elem 74)).run Yba.prog W = .ok 2 W := by kernel_rfl
  rw [run_sliceAt_slice _ _ _ _ _ _ ht, run_slice_h _ _ _ _ _ ht .i64 0 (by omega) (by omega), hsz]
  simp [sliced, Result.andThen, Addr.add]

theorem RunsAt.setHi {w : World} {R n : Nat} {lo hi : Nat → Int} (h : RunsAt w R n lo hi) (q : Nat) (x : Int) (hq : q < n) : RunsAt (w.setCell ⟨R, q * 2 + 1, none⟩ (.int .i32 x)) R n lo (upN hi q x) := fun j hj => by
  refine ⟨by rw [setCell_off _ _ _ _ _ (by omega)]; exact (h j hj).1, ?_⟩
  unfold upN
  by_cases e : j = q
  · subst e; rw [if_pos rfl]; exact setCell_self _ _ _ _ _ (h j hj).2
  · rw [if_neg e, setCell_off _ _ _ _ _ (by omega)]; exact (h j hj).2
theorem RunsAt.setLo {w : World} {R n : Nat} {lo hi : Nat → Int} (h : RunsAt w R n lo hi) (q : Nat) (x : Int) (hq : q < n) : RunsAt (w.setCell ⟨R, q * 2, none⟩ (.int .i32 x)) R n (upN lo q x) hi := fun j hj => by
  refine ⟨?_, by rw [setCell_off _ _ _ _ _ (by omega)]; exact (h j hj).2⟩
  unfold upN
  by_cases e : j = q
  · subst e; rw [if_pos rfl]; exact setCell_self _ _ _ _ _ (h j hj).1
  · rw [if_neg e, setCell_off _ _ _ _ _ (by omega)]; exact (h j hj).1
theorem flatR_cells {w : World} {R n m : Nat} {lo hi : Nat → Int} (h : RunsAt w R n lo hi) (hm : m ≤ n) : ∀ j u, (flatR lo hi m)[j]? = some u → w.cell? ⟨R, 0 + j, none⟩ = some u := by
  intro j u hu
  have hj : j < m * 2 := by
    have := (List.getElem?_eq_some_iff.1 hu).1
    rwa [flatR_length] at this
  obtain ⟨h1, h2⟩ := flatR_get lo hi m (j / 2) (by omega)
  obtain ⟨h3, h4⟩ := h (j / 2) (by omega)
  rw [Nat.zero_add]
  rcases Nat.mod_two_eq_zero_or_one j with e | e
  · have e2 : j = j / 2 * 2 := by omega
    rw [e2] at hu ⊢
    rw [h1] at hu
    rw [h3, ← hu]
  · have e2 : j = j / 2 * 2 + 1 := by omega
    rw [e2] at hu ⊢
    rw [h2] at hu
    rw [h4, ← hu]

theorem spare_runs {w : World} {R n m : Nat} {lo hi : Nat → Int} (h : RunsAt w R n lo hi) (hf : ∀ j, j < n * 2 → w.frozen? ⟨R, j, none⟩ = false) (hm : m < n) : ∀ j, j < 2 → (w.cell? ⟨R, 0 + m * 2 + j, none⟩).isSome = true ∧ w.frozen? ⟨R, 0 + m * 2 + j, none⟩ = false := by
  intro j hj
  obtain ⟨h1, h2⟩ := h m hm
  rw [Nat.zero_add]
  refine ⟨?_, hf _ (by omega)⟩
  have : j = 0 ∨ j = 1 := by omega
  rcases this with rfl | rfl
  · rw [Nat.add_zero, h1]; rfl
  · rw [h2]; rfl

set_option maxHeartbeats 6400000 in
set_option maxRecDepth 100000 in
theorem set_any (B Pb pc : Nat) (g : G) (w : World) (hPV : PV B w g) (hSh : Shape g) (hB : B ≤ w.heap.size) (hP : PiecesAt w Pb 0 g.nZ (fun i => i)) (h1 : 1 ≤ g.nZ) :
    Calls Yba.prog 13 #[.pointer (some ⟨g.p, 0, none⟩), .slice (some ⟨Pb, 0, none⟩) g.nZ pc] w fun e w' => ∃ S R n cap lo hi, e = .returned (.pointer (some ⟨S, 0, none⟩)) ∧ Below w.heap.size w w' ∧ SetAt w' S R n cap lo hi ∧ ∀ c, covN lo hi c n = covN g.lo g.hi c g.nZ := by
  obtain ⟨i1, hi1, hz10, hz11, hz12⟩ := info_parts info84
  have HI := hid (And.intro hi1 (And.intro hz10 (And.intro hz11 hz12)))
  have HPV := hid hPV
  have HSh := hid hSh
  have HP := hid hP
  have hbZ := hSh.bZ
  have HB := hid hB
  clear hi1 hz10 hz11 hz12 hPV hSh hP hB
  go_enter Yba.func13, Yba.ntmps13
  go_wp2_with fail
  obtain ⟨S, hS⟩ : ∃ S, S = w.heap.size := ⟨_, rfl⟩
  have b0 : Below S w (w.alloc (.cells #[.slice none 0 0, .slice none 0 0] 77)) := (Below.refl _ w).alloc (by omega) _
  have s0 : (w.alloc (.cells #[.slice none 0 0, .slice none 0 0] 77)).cell? ⟨S, 0, none⟩ = some (.slice none 0 0) := by rw [hS]; simp
  have s1 : (w.alloc (.cells #[.slice none 0 0, .slice none 0 0] 77)).cell? ⟨S, 1, none⟩ = some (.slice none 0 0) := by rw [hS]; simp
  have s2 : ∀ o, (w.alloc (.cells #[.slice none 0 0, .slice none 0 0] 77)).frozen? ⟨S, o, none⟩ = false := fun o => by rw [hS]; simp
  rw [← hS]
  have HS := hid hS
  clear hS
  go_loopw [19] (fun i wr => ∃ (k : Nat) (v : Value), k ≤ g.nZ ∧ i = .int .i64 k ∧ Below S w wr ∧ wr.cell? ⟨S, 0, none⟩ = some v ∧ wr.cell? ⟨S, 1, none⟩ = some (.slice none 0 0) ∧ (∀ o, wr.frozen? ⟨S, o, none⟩ = false) ∧ wr.ownsRow (S + 1) 84 2 v k (flatR g.lo g.hi k)) (fun i _ => g.nZ - (intOf i).toNat)
  case atStart => exact ⟨0, _, by omega, rfl, b0, s0, s1, s2, World.ownsRow_nil _ _ _ _⟩
  case round =>
    clear b0 s0 s1 s2
    obtain ⟨k, v, hk, rfl, hb, c0, c1, cf, hown⟩ := hrel
    have HBW := hid hb
    have HO := hid hown
    have HF := hid cf
    have hSl : S < wr.heap.size := block_lt_of_cell c0
    by_cases hlt : k < g.nZ
    · obtain ⟨_, b, c, p1, p2⟩ := HP.out k hlt
      have hPl : Pb < S := by rw [HS.out]; exact block_lt_of_cell p1
      have hbl : b < S := by rw [HS.out]; exact block_lt_of_cell p2
      rw [Nat.zero_add] at p1
      have p1' : wr.cell? ⟨Pb, k, none⟩ = some (.slice (some ⟨b, 0, none⟩) 1 c) := keepB hb p1 hPl
      have p2' : wr.cell? ⟨b, 0, none⟩ = some (.int .i32 (k : Int)) := keepB hb p2 hbl
      have pv := HPV.out.below (hb.mono (by rw [HS.out]; exact HB.out))
      have tm := pv.terms
      rw [(pv.term (by omega)).1] at tm
      obtain ⟨r1, r2, r3⟩ := pv.range k hlt
      have hTl : g.TB < S := by have := (pv.term (by omega)).2; have := HB.out; have := HS.out; omega
      have hpl : g.p < S := by have := pv.bp; have := HB.out; have := HS.out; omega
      have b1 : (k : Int) < (g.nZ : Int) := by omega
      have b2 : (k : Int) < (g.nZ : Int) + (g.nB : Int) := by omega
      have hlen := length_range g.TB (k * 5) wr r1
      have hfi := first_range g.TB (k * 5) (g.lo k) (g.hi k) wr.drew r1 r2 r3
      have HL := hid hlen
      have HFI := hid hfi
      have cf0 := cf 0
      clear hb hown cf p1 p2 pv hlen hfi
      go_wp2_with fail
      refine wp_loop_rounds 2 ?_
      rw [rounds_succ]
      go_wp2_with fail
      refine HL.out.mono ?_
      rintro r w1 ⟨rfl, rfl⟩
      go_wp2_with fail
      rw [rounds_succ]
      go_wp2_with fail
      obtain ⟨va, vc, rfl, hva⟩ := owns_form HO.out
      have HOA : Hid (∀ q, ((w1.alloc (.cells #[.int .i32 (g.lo k), .int .i32 (g.hi k)] 84)).drewN q).ownsRow (S + 1) 84 2 (.slice va k vc) k (flatR g.lo g.hi k)) := fun q => owns_same HO.out fun j hj => Below.heap_alloc w1 _ j (ownLt HO.out hj).2
      have HNW : Hid (∀ q, ∀ j u, [Value.int .i32 (g.lo k), .int .i32 (g.hi k)][j]? = some u → ((w1.alloc (.cells #[.int .i32 (g.lo k), .int .i32 (g.hi k)] 84)).drewN q).cell? ((⟨w1.heap.size, 0, none⟩ : Addr).add j) = some u) := fun q => World.news_of_block (t := 84) (fr := (0, 0)) (cs := #[.int .i32 (g.lo k), .int .i32 (g.hi k)]) (Deep.blk_alloc_new w1 _)
      have H1C : Hid (∀ u ∈ [Value.int .i32 (g.lo k), .int .i32 (g.hi k)], u.oneCell' = true) := fun u hu => by simp at hu; rcases hu with rfl | rfl <;> rfl
      have HNE : Hid (some S ≠ (Value.slice va k vc).ownBlock) := fun e => by have := (ownLt HO.out e.symm).1; omega
      clear HL
      go_region_law (first | (go_simp; go_at_call 20; refine HFI.out.mono ?_; rintro r w2 ⟨rfl, kq, rfl⟩) | (refine step_append_lies _ rfl (.tmp 46) (.tmp 55) 74 rfl (S + 1) 84 i1 _ 2 8 Yba.underlying74 HI.out.1 HI.out.2.1 HI.out.2.2.1 HI.out.2.2.2 rfl (by decide) (.slice va k vc) k (flatR g.lo g.hi k) (by simp [Act.eval]) (HOA.out _) ⟨w1.heap.size, 0, none⟩ 1 1 [Value.int .i32 (g.lo k), .int .i32 (g.hi k)] (by simp [Act.eval]) rfl (HNW.out _) H1C.out (by decide) (by unfold maxLen; omega) (by omega) (by simp; omega) _ rfl ?_; intro g2 cap2 w3 ho hg hat hlt3; have q0 := hg.cell_far ⟨S, 0, none⟩ (by simp; omega) HNE.out; have q1 := hg.frozen_far ⟨S, 0, none⟩ (by simp; omega) HNE.out; have HG3 := hid hg; have HO3 := hid ho; have HA3 := hid hat; clear hg ho hat))
      all_goals
        have hS3 : w3.cell? ⟨S, 0, none⟩ = some (.slice va k vc) := q0.trans ((World.cell?_alloc_past _ _ _ hSl).trans c0)
        have hg1 : g2 ≠ S := fun e => by
          have := (ownLt HO3.out (k := g2) rfl).1
          omega
        have P1 : Hid (∃ (k' : Nat) (v : Value), k' ≤ g.nZ ∧ Value.int .i64 ((k : Int) + 1) = .int .i64 k' ∧ Below S w (w3.setCell ⟨S, 0, none⟩ (.slice (some ⟨g2, 0, none⟩) (k + 1) cap2)) ∧ (w3.setCell ⟨S, 0, none⟩ (.slice (some ⟨g2, 0, none⟩) (k + 1) cap2)).cell? ⟨S, 0, none⟩ = some v ∧ (w3.setCell ⟨S, 0, none⟩ (.slice (some ⟨g2, 0, none⟩) (k + 1) cap2)).cell? ⟨S, 1, none⟩ = some (.slice none 0 0) ∧ (∀ o, (w3.setCell ⟨S, 0, none⟩ (.slice (some ⟨g2, 0, none⟩) (k + 1) cap2)).frozen? ⟨S, o, none⟩ = false) ∧ (w3.setCell ⟨S, 0, none⟩ (.slice (some ⟨g2, 0, none⟩) (k + 1) cap2)).ownsRow (S + 1) 84 2 v k' (flatR g.lo g.hi k') ∧ k' = k + 1) := by
          refine ⟨k + 1, _, by omega, by go_num, ?_, setCell_self _ _ _ _ _ hS3, ?_, fun o => ?_, owns_same HO3.out fun j hj => heap_same_setCell _ _ _ _ j ?_, rfl⟩
          · exact ((below_drewN (HBW.out.alloc (by omega) _) _).grown HG3.out (by simp; omega) (fun j hj => by have := (ownLt HO.out hj).1; omega)).setCell (p := ⟨S, 0, none⟩) (Nat.le_refl _) _
          · rw [setCell_off _ _ _ _ _ (by omega), HG3.out.cell_far ⟨S, 1, none⟩ (by simp; omega) HNE.out]
            exact (World.cell?_alloc_past _ _ _ hSl).trans c1
          · rw [setCell_frozen, HG3.out.frozen_far ⟨S, o, none⟩ (by simp; omega) HNE.out]
            exact (World.frozen?_alloc_past _ _ _ hSl).trans (HF.out o)
          · have := (ownLt HO3.out hj).1; omega
        clear hS3 q0 q1 HG3 HO3 HA3 HOA HNW H1C HFI
        go_wp2
        obtain ⟨k', v, e1, e2, e3, e4, e5, e6, e7, e8⟩ := P1.out
        refine ⟨⟨k', v, e1, e2, e3, e4, e5, e6, e7⟩, by simp [intOf]; omega⟩
    · have hkn : k = g.nZ := by omega
      subst hkn
      obtain ⟨Gb, cap, rfl, hGb, hGl⟩ := HO.out.form (by omega)
      have hcap := own_cap0 HO.out
      have hH := holds_runs HO.out
      have hsrt := Go.Proofs.Ybulkdamm.sort_any Gb cap (runsA g.lo g.hi g.nZ) wr hH hGl (by rw [runsA_size]; omega)
      rw [runsA_size] at hsrt
      have HSRT := hid hsrt
      have HHH := hid hH
      have cf0 := cf 0
      clear hb hown cf hsrt hH
      go_wp2_with fail
      refine HSRT.out.mono ?_
      rintro r w1 ⟨rfl, d', nn, os, hperm, hsd, rfl⟩
      obtain ⟨hd', hs1, hs2, hs3, hs4⟩ := sorted_ends g.lo g.hi g.nZ _ d' (runsA_size _ _ _) (fun i hi => runsA_get _ _ _ _ hi) hperm hsd (fun i hi => (HSh.out.rle i hi).2.1)
      obtain ⟨hr1, hr2⟩ := runs_sorted (nn := nn) (os := os) hGl HHH.out (runsA_size _ _ _) hd'
      have hgr := grown_sorted (w := wr) (Gb := Gb) (n := nn) (os := os) d'
      have hb1 : Below S w (sortWorldK encR 2 wr Gb 0 nn d' os) := HBW.out.grown hgr (by omega) (fun k hk => by simp at hk; omega)
      have d0 : (sortWorldK encR 2 wr Gb 0 nn d' os).cell? ⟨S, 0, none⟩ = some (.slice (some ⟨Gb, 0, none⟩) g.nZ cap) := (hgr.cell_far ⟨S, 0, none⟩ hSl (by simp; omega)).trans c0
      have d1 : (sortWorldK encR 2 wr Gb 0 nn d' os).cell? ⟨S, 1, none⟩ = some (.slice none 0 0) := (hgr.cell_far ⟨S, 1, none⟩ hSl (by simp; omega)).trans c1
      have df : ∀ o, (sortWorldK encR 2 wr Gb 0 nn d' os).frozen? ⟨S, o, none⟩ = false := fun o => (hgr.frozen_far ⟨S, o, none⟩ hSl (by simp; omega)).trans (HF.out o)
      have hlo0 : ∀ i : Nat, i < g.nZ → 0 ≤ d'[i]!.1 ∧ d'[i]!.1 ≤ 1000 := fun i hi => by
        obtain ⟨j, hj, e⟩ := hs3 i hi
        have := HSh.out.rle j hj
        rw [e]; simp only; omega
      generalize hlo : (fun i : Nat => d'[i]!.1) = lo1 at *
      generalize hhi : (fun i : Nat => d'[i]!.2) = hi1 at *
      have hlo' : ∀ i : Nat, d'[i]!.1 = lo1 i := fun i => by rw [← hlo]
      have hhi' : ∀ i : Nat, d'[i]!.2 = hi1 i := fun i => by rw [← hhi]
      simp only [hlo', hhi'] at hs1 hs2 hlo0
      clear hlo hhi hlo' hhi' hgr hperm hsd hs3 HSRT HHH HF HO HBW c0 c1 cf0 HPV HP
      generalize sortWorldK encR 2 wr Gb 0 nn d' os = W1 at *
      have hsl := slice_hi74 Gb g.nZ cap
      have HR1 := hid hr1
      have HR2 := hid hr2
      have HBW := hid hb1
      have HS1 := hid hs1
      have HS2 := hid hs2
      have HS4 := hid hs4
      have HLO := hid hlo0
      have HDF := hid df
      clear hr1 hr2 hb1 hs1 hs2 hs4 hlo0 df
      go_wp2_with fail
      clear hsl
      go_loopw [11, 90] (fun mv iv wr => ∃ (i m : Nat) (lo' hi' : Nat → Int), i ≤ g.nZ ∧ iv = .int .i64 i ∧ mv = .slice (some ⟨Gb, 0, none⟩) m cap ∧ MG lo1 hi1 g.nZ i m lo' hi' ∧ RunsAt wr Gb g.nZ lo' hi' ∧ (∀ j, j < g.nZ * 2 → wr.frozen? ⟨Gb, j, none⟩ = false) ∧ Below S w wr ∧ wr.cell? ⟨S, 0, none⟩ = some (.slice (some ⟨Gb, 0, none⟩) g.nZ cap) ∧ wr.cell? ⟨S, 1, none⟩ = some (.slice none 0 0) ∧ (∀ o, wr.frozen? ⟨S, o, none⟩ = false)) (fun _ i _ => g.nZ - (intOf i).toNat)
      case atStart => exact ⟨0, 0, lo1, hi1, by omega, rfl, rfl, MG.start _ _ _, HR1.out, HR2.out, HBW.out, d0, d1, HDF.out⟩
      case round =>
        clear d0 d1
        obtain ⟨i, m, lo', hi', hi, rfl, rfl, hmg, hruns, hfz, hbel, z0, z1, zf⟩ := hrel
        have hmi := hmg.mi
        by_cases hlt : i < g.nZ
        · obtain ⟨x1, x2⟩ := hruns i hlt
          rw [(hmg.rest i (by omega) hlt).1] at x1
          rw [(hmg.rest i (by omega) hlt).2] at x2
          have hGw : Gb < wr.heap.size := block_lt_of_cell x1
          have hl0 := HLO.out i hlt
          have b1 : (i : Int) < (g.nZ : Int) := by omega
          have HMG := hid hmg
          have HRU := hid hruns
          have HFZ := hid hfz
          have HBE := hid hbel
          have HZF := hid zf
          have hSl2 : S < wr.heap.size := block_lt_of_cell z0
          by_cases hj : 0 < m ∧ lo1 i - 1 ≤ hi' (m - 1)
          · obtain ⟨q, rfl⟩ : ∃ q, m = q + 1 := ⟨m - 1, by omega⟩
            have hj2 : decide (lo1 i - 1 ≤ hi' q) = true := by simpa using hj.2
            obtain ⟨y1, y2⟩ := hruns q (by omega)
            have yf := hfz (q * 2 + 1) (by omega)
            have HJ := hid hj
            have q0 : (0 : Int) ≤ (q : Int) := by omega
            clear hmg hruns hfz hbel zf hj y1
            go_wp2_with fail
            go_quiet (fail)
            go_wp2_with fail
            go_region
            all_goals
              go_wp2_with fail
              have hbk : ∀ k, Below wr.heap.size wr ((wr.alloc (.cells #[.int .i32 (lo1 i), .int .i32 (hi1 i)] 84)).drewN k) := fun k => below_drewN ((Below.refl _ wr).alloc (Nat.le_refl _) _) k
              have hSG : S ≠ Gb := by omega
              refine ⟨⟨i + 1, q + 1, lo', upN hi' q (max (hi' q) (hi1 i)), by omega, by go_num, rfl, by simpa using HMG.out.join hlt HJ.out.1 HJ.out.2, (HRU.out.below (hbk _)).setHi q _ (by omega), fun j hj => ?_, ?_, ?_, ?_, fun o => ?_⟩, by simp [intOf]; omega⟩
              · rw [setCell_frozen, frozenB (hbk _) hGw]; exact HFZ.out j hj
              · exact (HBE.out.trans ((hbk _).mono (by omega))).setCell (p := ⟨Gb, q * 2 + 1, none⟩) (by simp; omega) _
              · rw [cell_far _ _ _ _ _ (by simpa using hSG)]; exact keepW (hbk _) z0
              · rw [cell_far _ _ _ _ _ (by simpa using hSG)]; exact keepW (hbk _) z1
              · rw [setCell_frozen, frozenB (hbk _) hSl2]; exact HZF.out o
          · have HJ := hid hj
            have hbk : ∀ k, Below wr.heap.size wr ((wr.alloc (.cells #[.int .i32 (lo1 i), .int .i32 (hi1 i)] 84)).drewN k) := fun k => below_drewN ((Below.refl _ wr).alloc (Nat.le_refl _) _) k
            have hbk2 : ∀ k, Below wr.heap.size wr (((wr.alloc (.cells #[.int .i32 (lo1 i), .int .i32 (hi1 i)] 84)).drewN k).alloc (.cells #[.int .i32 (lo1 i), .int .i32 (hi1 i)] 84)) := fun k => (hbk k).alloc (by simp) _
            have HBK := hid hbk
            have HBK2 := hid hbk2
            have H1C : Hid (∀ u ∈ [Value.int .i32 (lo1 i), .int .i32 (hi1 i)], u.oneCell' = true) := fun u hu => by simp at hu; rcases hu with rfl | rfl <;> rfl
            have HNW : Hid (∀ q, ∀ j u, [Value.int .i32 (lo1 i), .int .i32 (hi1 i)][j]? = some u → (((wr.alloc (.cells #[.int .i32 (lo1 i), .int .i32 (hi1 i)] 84)).drewN q).alloc (.cells #[.int .i32 (lo1 i), .int .i32 (hi1 i)] 84)).cell? ((⟨wr.heap.size + 1, 0, none⟩ : Addr).add j) = some u) := fun q => World.news_of_block (t := 84) (fr := (0, 0)) (cs := #[.int .i32 (lo1 i), .int .i32 (hi1 i)]) (by have := Deep.blk_alloc_new ((wr.alloc (.cells #[.int .i32 (lo1 i), .int .i32 (hi1 i)] 84)).drewN q) (.cells #[.int .i32 (lo1 i), .int .i32 (hi1 i)] 84); simpa using this)
            have hpu : ∀ q, ∃ lo2 hi2, MG lo1 hi1 g.nZ (i + 1) (m + 1) lo2 hi2 ∧ RunsAt ((((wr.alloc (.cells #[.int .i32 (lo1 i), .int .i32 (hi1 i)] 84)).drewN q).alloc (.cells #[.int .i32 (lo1 i), .int .i32 (hi1 i)] 84)).setCells Gb (m * 2) [.int .i32 (lo1 i), .int .i32 (hi1 i)]) Gb g.nZ lo2 hi2 ∧ (∀ j, j < g.nZ * 2 → ((((wr.alloc (.cells #[.int .i32 (lo1 i), .int .i32 (hi1 i)] 84)).drewN q).alloc (.cells #[.int .i32 (lo1 i), .int .i32 (hi1 i)] 84)).setCells Gb (m * 2) [.int .i32 (lo1 i), .int .i32 (hi1 i)]).frozen? ⟨Gb, j, none⟩ = false) ∧
                Below S w ((((wr.alloc (.cells #[.int .i32 (lo1 i), .int .i32 (hi1 i)] 84)).drewN q).alloc (.cells #[.int .i32 (lo1 i), .int .i32 (hi1 i)] 84)).setCells Gb (m * 2) [.int .i32 (lo1 i), .int .i32 (hi1 i)]) ∧ ((((wr.alloc (.cells #[.int .i32 (lo1 i), .int .i32 (hi1 i)] 84)).drewN q).alloc (.cells #[.int .i32 (lo1 i), .int .i32 (hi1 i)] 84)).setCells Gb (m * 2) [.int .i32 (lo1 i), .int .i32 (hi1 i)]).cell? ⟨S, 0, none⟩ = some (.slice (some ⟨Gb, 0, none⟩) g.nZ cap) ∧
                ((((wr.alloc (.cells #[.int .i32 (lo1 i), .int .i32 (hi1 i)] 84)).drewN q).alloc (.cells #[.int .i32 (lo1 i), .int .i32 (hi1 i)] 84)).setCells Gb (m * 2) [.int .i32 (lo1 i), .int .i32 (hi1 i)]).cell? ⟨S, 1, none⟩ = some (.slice none 0 0) ∧ (∀ o, ((((wr.alloc (.cells #[.int .i32 (lo1 i), .int .i32 (hi1 i)] 84)).drewN q).alloc (.cells #[.int .i32 (lo1 i), .int .i32 (hi1 i)] 84)).setCells Gb (m * 2) [.int .i32 (lo1 i), .int .i32 (hi1 i)]).frozen? ⟨S, o, none⟩ = false) := fun q => by
              have hbW := hbk2 q
              generalize (((wr.alloc (.cells #[.int .i32 (lo1 i), .int .i32 (hi1 i)] 84)).drewN q).alloc (.cells #[.int .i32 (lo1 i), .int .i32 (hi1 i)] 84)) = W at hbW
              have e0 : W.setCells Gb (m * 2) [.int .i32 (lo1 i), .int .i32 (hi1 i)] = (W.setCell ⟨Gb, m * 2, none⟩ (.int .i32 (lo1 i))).setCell ⟨Gb, m * 2 + 1, none⟩ (.int .i32 (hi1 i)) := rfl
              rw [e0]
              have hSG : S ≠ Gb := by omega
              refine ⟨_, _, hmg.push hlt (fun h => ?_) (HS2.out i hlt) (fun j h1 h2 => HS1.out i j h1 h2), (((hruns.below hbW).setLo m _ (by omega)).setHi m _ (by omega)), fun j hj => ?_, ?_, ?_, ?_, fun o => ?_⟩
              · rcases Int.lt_or_le (hi' (m - 1)) (lo1 i - 1) with h' | h'
                · exact h'
                · exact absurd ⟨h, h'⟩ hj
              · rw [setCell_frozen, setCell_frozen, frozenB hbW hGw]; exact hfz j hj
              · exact ((hbel.trans (hbW.mono (by omega))).setCell (p := ⟨Gb, m * 2, none⟩) (by simp; omega) _).setCell (p := ⟨Gb, m * 2 + 1, none⟩) (by simp; omega) _
              · rw [cell_far _ _ _ _ _ (by simpa using hSG), cell_far _ _ _ _ _ (by simpa using hSG)]; exact keepW hbW z0
              · rw [cell_far _ _ _ _ _ (by simpa using hSG), cell_far _ _ _ _ _ (by simpa using hSG)]; exact keepW hbW z1
              · rw [setCell_frozen, setCell_frozen, frozenB hbW hSl2]; exact zf o
            have hsp : ∀ q, ∀ j, j < 2 → ((((wr.alloc (.cells #[.int .i32 (lo1 i), .int .i32 (hi1 i)] 84)).drewN q).alloc (.cells #[.int .i32 (lo1 i), .int .i32 (hi1 i)] 84)).cell? ⟨Gb, 0 + m * 2 + j, none⟩).isSome = true ∧ (((wr.alloc (.cells #[.int .i32 (lo1 i), .int .i32 (hi1 i)] 84)).drewN q).alloc (.cells #[.int .i32 (lo1 i), .int .i32 (hi1 i)] 84)).frozen? ⟨Gb, 0 + m * 2 + j, none⟩ = false := fun q => spare_runs (hruns.below (hbk2 q)) (fun j hj => by rw [frozenB (hbk2 q) hGw]; exact hfz j hj) (by omega)
            have HPU := hid hpu
            have HSP := hid hsp
            have key : (m = 0 ∧ 0 < g.nZ) ∨ ∃ q, m = q + 1 ∧ decide (lo1 i - 1 ≤ hi' q) = false ∧ wr.cell? ⟨Gb, q * 2 + 1, none⟩ = some (.int .i32 (hi' q)) := by
              rcases Nat.eq_zero_or_pos m with h | h
              · exact .inl ⟨h, by omega⟩
              · refine .inr ⟨m - 1, by omega, ?_, (hruns (m - 1) (by omega)).2⟩
                simp only [decide_eq_false_iff_not]
                exact fun e => hj ⟨h, e⟩
            clear hmg hruns hfz hbel zf hj hbk hbk2 hpu hsp
            rcases key with ⟨rfl, _⟩ | ⟨q, rfl, hq, y2⟩
            all_goals
              go_wp2_with fail
              go_quiet (fail)
            · go_wp2_with (first | (at_builtin; refine wpList_append_arg _ rfl (.tmp 122) (.tmp 124) 74 rfl 84 i1 _ 2 8 Yba.underlying74 HI.out.1 HI.out.2.1 HI.out.2.2.1 HI.out.2.2.2 rfl (by decide) Gb 0 0 cap (flatR lo' hi' (0)) ?c0 ?c1 ?c2 ⟨wr.heap.size + 1, 0, none⟩ 1 1 [.int .i32 (lo1 i), .int .i32 (hi1 i)] ?c3 ?c4 ?c5 H1C.out ?c7 ?c8 ?c9 (fun _ => ?_) (fun hh => absurd hh (by omega))))
              case c0 => rfl
              case c1 => exact flatR_length _ _ _
              case c2 => exact flatR_cells (HRU.out.below (HBK2.out _)) (by omega)
              case c3 => simp [Act.eval]
              case c4 => rfl
              case c5 => exact HNW.out _
              case c7 => exact fun _ => HSP.out _
              case c8 => unfold maxLen; omega
              case c9 => omega
              have hP := hid (HPU.out nq)
              clear HPU HSP HNW HBK HBK2 HRU HMG HFZ H1C
              generalize ((((wr.alloc (.cells #[.int .i32 (lo1 i), .int .i32 (hi1 i)] 84)).drewN nq).alloc (.cells #[.int .i32 (lo1 i), .int .i32 (hi1 i)] 84)).setCells Gb (0 + 0 * 2) [.int .i32 (lo1 i), .int .i32 (hi1 i)]) = W3 at hP ⊢
              go_wp2
              obtain ⟨lo2, hi2, e1, e2, e3, e4, e5, e6, e7⟩ := hP.out
              refine ⟨⟨i + 1, 0 + 1, lo2, hi2, by omega, by go_num, by simp, e1, e2, e3, e4, e5, e6, e7⟩, by simp [intOf]; omega⟩
            · go_wp2_with (first | (at_builtin; refine wpList_append_arg _ rfl (.tmp 122) (.tmp 124) 74 rfl 84 i1 _ 2 8 Yba.underlying74 HI.out.1 HI.out.2.1 HI.out.2.2.1 HI.out.2.2.2 rfl (by decide) Gb 0 (q + 1) cap (flatR lo' hi' ((q + 1))) ?c0 ?c1 ?c2 ⟨wr.heap.size + 1, 0, none⟩ 1 1 [.int .i32 (lo1 i), .int .i32 (hi1 i)] ?c3 ?c4 ?c5 H1C.out ?c7 ?c8 ?c9 (fun _ => ?_) (fun hh => absurd hh (by omega))))
              case c0 => rfl
              case c1 => exact flatR_length _ _ _
              case c2 => exact flatR_cells (HRU.out.below (HBK2.out _)) (by omega)
              case c3 => simp [Act.eval]
              case c4 => rfl
              case c5 => exact HNW.out _
              case c7 => exact fun _ => HSP.out _
              case c8 => unfold maxLen; omega
              case c9 => omega
              have hP := hid (HPU.out nq)
              clear HPU HSP HNW HBK HBK2 HRU HMG HFZ H1C
              generalize ((((wr.alloc (.cells #[.int .i32 (lo1 i), .int .i32 (hi1 i)] 84)).drewN nq).alloc (.cells #[.int .i32 (lo1 i), .int .i32 (hi1 i)] 84)).setCells Gb ((q + 1) * 2) [.int .i32 (lo1 i), .int .i32 (hi1 i)]) = W3 at hP ⊢
              go_wp2
              obtain ⟨lo2, hi2, e1, e2, e3, e4, e5, e6, e7⟩ := hP.out
              refine ⟨⟨i + 1, (q + 1) + 1, lo2, hi2, by omega, by go_num, by simp, e1, e2, e3, e4, e5, e6, e7⟩, by simp [intOf]; omega⟩
        · have hin : i = g.nZ := by omega
          subst hin
          have hm0 := hmg.pos (by omega)
          have zf0 := zf 0
          have hSG : S ≠ Gb := by omega
          have hSb : Below w.heap.size w (wr.setCell ⟨S, 0, none⟩ (.slice (some ⟨Gb, 0, none⟩) m cap)) := by rw [← HS.out]; exact hbel.setCell (p := ⟨S, 0, none⟩) (Nat.le_refl _) _
          have hset : SetAt (wr.setCell ⟨S, 0, none⟩ (.slice (some ⟨Gb, 0, none⟩) m cap)) S Gb m cap lo' hi' :=
            ⟨setCell_self _ _ _ _ _ z0, by rw [setCell_off _ _ _ _ _ (by omega)]; exact z1, fun j hj => by
              obtain ⟨a1, a2⟩ := hruns j (by omega)
              exact ⟨by rw [cell_far _ _ _ _ _ (by simpa using hSG.symm)]; exact a1, by rw [cell_far _ _ _ _ _ (by simpa using hSG.symm)]; exact a2⟩, by omega, hmg.sorted, hmg.le⟩
          have R1 := hid (And.intro hSb (And.intro hset (fun c => (hmg.cov c).trans (HS4.out c))))
          clear hmg hruns hfz hbel zf hSb hset
          go_wp2_with fail
          go_ret
          exact ⟨S, Gb, m, cap, lo', hi', rfl, R1.out.1, R1.out.2.1, R1.out.2.2⟩
end Go.Proofs.Ybulkdamm
