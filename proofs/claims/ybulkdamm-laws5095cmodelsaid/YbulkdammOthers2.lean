import Derived.Test.YbulkdammOthers
import Derived.Test.YbulkdammNot
namespace Go.Proofs.Ybulkdamm
open Go.RowKit
set_option linter.unusedVariables false

theorem make34 (W : World) : (Instr.makeSlice 34 (.int .i64 2) (.int .i64 2)).run Yba.prog W = .ok (.slice (some ⟨W.heap.size, 0, none⟩) 2 2) (W.alloc (.cells #[.bool false, .bool false] 4)) := by
  have := run_make34 2 (by omega) W
  rw [made34] at this
  exact this

set_option maxHeartbeats 12800000 in
set_option maxRecDepth 100000 in
theorem others_any (B Pb pc U q : Nat) (g : G) (w : World) (hPV : PV B w g) (hSh : Shape g) (hcs : g.nS ≤ g.sc) (hB : B ≤ w.heap.size) (hP : PiecesAt w Pb 0 g.nZ (fun i => i)) (h1 : 1 ≤ g.nZ)
    (ua : Nat → Option Addr) (ub un uc : Nat → Nat) (e : Nat → Nat → Nat) (hrow : ∀ v, v < 2 → w.cell? ⟨U, v, none⟩ = some (.slice (ua v) (un v) (uc v)))
    (hedge : ∀ v j, v < 2 → j < un v → ua v = some ⟨ub v, 0, none⟩ ∧ e v j < 2 ∧ w.cell? ⟨ub v, j, none⟩ = some (.int .i32 (e v j))) (hlen : ∀ v, v < 2 → un v ≤ 5000) (hub : ∀ v, v < 2 → ub v < w.heap.size)
    (hq : q < un 0) (hq1 : e 0 q = 1) (hq0 : ∀ j, j < un 0 → j ≠ q → e 0 j = 0) (he1 : ∀ j, j < un 1 → e 1 j = 1)
    (hnp : ∀ a, a < 2 → g.np a ≤ 2000) (hst : ∀ a k, a < 2 → k < g.np a → g.st a k ≤ g.en a k ∧ g.en a k ≤ g.st a k + 2 ∧ g.en a k < g.nS) (hnx : ∀ a k j, a < 2 → k < g.np a → j < g.en a k - g.st a k → -((g.nZ + g.nB : Nat) : Int) - 1 < g.nx (g.st a k + j)) :
    Calls Yba.prog 10 #[.pointer (some ⟨g.p, 0, none⟩), .slice (some ⟨Pb, 0, none⟩) g.nZ pc, .slice (some ⟨U, 0, none⟩) 2 2] w fun r w' => ∃ D b0 oth, r = .returned (.slice (some ⟨D, 0, none⟩) 2 2) ∧ Below w.heap.size w w' ∧
      w'.cell? ⟨D, 0, none⟩ = some (.bool b0) ∧ w'.cell? ⟨D, 1, none⟩ = some (.bool (hitP g oth 1 (g.np 1))) ∧ ∀ j, j < g.nB → oth (g.nZ + j) = dw g j := by
  have hset := set_any B Pb pc g w hPV hSh hB hP h1
  have hmk := run_make34 (g.nZ + g.nB) (by have := hSh.bZ; have := hSh.bB; omega)
  have hmk2 := make34
  have hmk3 := make66
  have HSET := hid hset
  have HPV := hid hPV
  have HSh := hid hSh
  have HB := hid hB
  have HST := hid hst
  have HNP := hid hnp
  have HNX := hid hnx
  have HE := hid (And.intro hrow (And.intro hedge (And.intro hlen (And.intro hub (And.intro hq (And.intro hq1 (And.intro hq0 he1)))))))
  have hbZ := hSh.bZ
  have hbB := hSh.bB
  have hbS := hSh.bS
  clear hset hPV hSh hB hP hrow hedge hlen hub hq hq1 hq0 he1 hst hnp hnx
  rw [Int.natCast_add] at hmk
  go_enter Yba.func10, Yba.ntmps10
  go_wp2_with fail
  refine HSET.out.mono ?_
  rintro r w1 ⟨S, R, n, cap, lo, hi, rfl, hb1, hS1, hcov⟩
  have pv1 := HPV.out.below (hb1.mono HB.out)
  have k6 := pv1.terms
  have hTA := (pv1.term (by omega)).1
  rw [hTA] at k6
  have hpl : g.p < w1.heap.size := by have := pv1.bp; have := HB.out; have := hb1.size; omega
  have HB1 := hid hb1
  have HS1 := hid hS1
  have HCV := hid hcov
  clear hb1 hS1 hcov pv1 HSET hTA
  go_wp2_with fail
  clear hmk k6
  obtain ⟨OT, hOT⟩ : ∃ OT, OT = w1.heap.size := ⟨_, rfl⟩
  rw [← hOT]
  have ol0 : OL w1 (w1.alloc (.cells (falses (g.nZ + g.nB)) 4)) OT OT (g.nZ + g.nB) 0 g (fun _ => false) :=
    ⟨(Below.refl _ w1).alloc (by omega) _, Nat.le_refl _, fun i hi => by rw [hOT]; exact falses_at w1 _ i hi, fun o => by rw [hOT]; exact frozen_of_row _ _ _ _ _ (Deep.blk_alloc_new w1 _), fun j _ h => by omega⟩
  have HOT := hid hOT
  clear hOT
  have hTl : g.TB < OT ∧ g.p < OT ∧ g.PB < OT ∧ g.EB < OT ∧ g.SB < OT := by
    have h1 := (HPV.out.term (by omega)).2
    have h2 := HPV.out.bp
    have h3 := HPV.out.bP
    have h4 := HPV.out.bE
    have h5 := HPV.out.bS
    have h6 := HB1.out.size
    have h7 := HB.out
    have h8 := HOT.out
    omega
  go_loopw [34] (fun i wr => ∃ (k : Nat) (oth : Nat → Bool), k ≤ g.nZ + g.nB ∧ i = .int .i64 k ∧ OL w1 wr OT OT (g.nZ + g.nB) k g oth) (fun i _ => (g.nZ + g.nB) - (intOf i).toNat)
  case atStart => exact ⟨0, _, by omega, rfl, ol0⟩
  case round =>
    clear ol0
    obtain ⟨k, oth, hk, rfl, hol⟩ := hrel
    have pv := HPV.out.below ((HB1.out.trans (hol.below.mono (by have := HOT.out; have := HB1.out.size; omega))).mono HB.out)
    by_cases hlt : k < g.nZ + g.nB
    · have k6 := pv.terms
      rw [(pv.term (by omega)).1] at k6
      have hSw := HS1.out.below (HOT.out ▸ hol.below)
      have b1 : (k : Int) < (g.nZ : Int) + (g.nB : Int) := by omega
      by_cases hkz : k < g.nZ
      · obtain ⟨r1, r2, r3⟩ := pv.range k hkz
        have hrun := runs_range (.pointer (some ⟨g.p, 0, none⟩)) g.TB (k * 5) S R n cap (g.lo k) (g.hi k) lo hi wr r1 r2 r3 hSw
        have HR := hid hrun
        have HOL := hid hol
        clear hrun hol pv hSw r1 r2 r3
        go_wp2_with fail
        refine HR.out.mono ?_
        rintro r w2 ⟨hb2, bb, rfl⟩
        have s1 := keepW hb2 (HOL.out.ot k hlt)
        have s2 : w2.frozen? ⟨OT, k, none⟩ = false := by rw [frozenB hb2 (block_lt_of_cell (HOL.out.ot k hlt))]; exact HOL.out.fr k
        have P1 := hid (HOL.out.put hb2 (!bb) hlt (fun j _ h => by omega))
        clear hb2 HR HOL
        go_wp2_with fail
        refine ⟨⟨k + 1, _, by omega, by go_num, P1.out⟩, by simp [intOf]; omega⟩
      · obtain ⟨j, rfl⟩ : ∃ j, k = g.nZ + j := ⟨k - g.nZ, by omega⟩
        obtain ⟨r1, r2, r3⟩ := pv.word j (by omega)
        have hw1 := HSh.out.wn1 j (by omega)
        have hrun := runs_word (.pointer (some ⟨g.p, 0, none⟩)) g.TB ((g.nZ + j) * 5) (g.wb j) 0 (g.wn j) (g.wc j) S R n cap (g.wf j) lo hi (g.wx j) wr hw1.1 hw1.2 r1 (fun i hi => by
          have h0 := HSh.out.wx0 j i (by omega) hi
          rw [Nat.zero_add]
          exact ⟨pv.wordx j i (by omega) hi, h0.1, by omega⟩) r2 hSw
        rw [alone_congr HCV.out] at hrun
        change Calls Yba.prog 14 _ wr (fun e w' => Below wr.heap.size wr w' ∧ e = .returned (.bool (!dw g j))) at hrun
        have HR := hid hrun
        have HOL := hid hol
        clear hrun hol pv hSw r1 r2 r3
        go_wp2_with fail
        refine HR.out.mono ?_
        rintro r w2 ⟨hb2, rfl⟩
        have s1 := keepW hb2 (HOL.out.ot (g.nZ + j) hlt)
        have s2 : w2.frozen? ⟨OT, g.nZ + j, none⟩ = false := by rw [frozenB hb2 (block_lt_of_cell (HOL.out.ot (g.nZ + j) hlt))]; exact HOL.out.fr (g.nZ + j)
        have P1 := hid (HOL.out.put hb2 (dw g j) hlt (fun j' _ h => by rw [show j' = j by omega]))
        clear hb2 HR HOL
        generalize hdw : dw g j = dj at *
        have HDW := hid hdw
        clear hdw
        go_wp2_with fail
        refine ⟨⟨g.nZ + j + 1, _, by omega, by go_num, P1.out⟩, by simp [intOf]; omega⟩
    · have hkn : k = g.nZ + g.nB := by omega
      have HKN := hid hkn
      clear hkn
      have HOL := hid hol
      have k1 := pv.prods
      have hOTl : OT < wr.heap.size := block_lt_of_cell (hol.ot 0 (by omega))
      have hpw : g.p < wr.heap.size := by omega
      clear hol pv
      go_wp2_with fail
      clear hmk3 k1
      obtain ⟨OW, hOW⟩ : ∃ OW, OW = wr.heap.size := ⟨_, rfl⟩
      rw [← hOW]
      have os0 : OS w1 (wr.alloc (.cells #[.slice none 0 0, .slice none 0 0] 68)) OT OT OW (g.nZ + g.nB) 0 oth (fun _ => 0) (fun _ => false) := by
        have hbk := Deep.blk_alloc_new wr (.cells #[.slice none 0 0, .slice none 0 0] 68)
        rw [← hOW] at hbk
        have hq : Below wr.heap.size wr (wr.alloc (.cells #[.slice none 0 0, .slice none 0 0] 68)) := (Below.refl _ wr).alloc (Nat.le_refl _) _
        exact ⟨HOL.out.below.trans (hq.mono (by omega)), ⟨Nat.le_refl _, by omega⟩, fun i hi => keepW hq (HOL.out.ot i hi), two ⟨_, cell_of_row _ _ _ _ _ _ hbk⟩ ⟨_, cell_of_row _ _ _ _ _ _ hbk⟩, fun o => frozen_of_row _ _ _ _ _ hbk, fun b h => by omega, fun b c h => by omega⟩
      have HSAID : Hid (∀ j, j < g.nB → oth (g.nZ + j) = dw g j) := fun j hj => HOL.out.said j hj (by have := HKN.out; omega)
      clear HOL hOW hOTl hpw
      go_loopw [62] (fun i wr => ∃ (a : Nat) (obs : Nat → Nat) (xs : Nat → Bool), a ≤ 2 ∧ i = .int .i64 a ∧ OS w1 wr OT OT OW (g.nZ + g.nB) a oth obs xs ∧ ∀ b, b < a → b < 2 → xs b = hitP g oth b (g.np b)) (fun i _ => 2 - (intOf i).toNat)
      case atStart => exact ⟨0, _, _, by omega, rfl, os0, fun b h => by omega⟩
      case round =>
        clear os0
        obtain ⟨a, obs, xs, ha, rfl, hos, hxs⟩ := hrel
        have pv := HPV.out.below ((HB1.out.trans (hos.below.mono (by have := HOT.out; have := HB1.out.size; omega))).mono HB.out)
        by_cases ha2 : a < 2
        · have r1 := pv.rowP a ha2
          obtain ⟨A, hA⟩ : ∃ A, A = g.pA a := ⟨_, rfl⟩
          rw [← hA] at r1
          have HAA := hid hA
          have b1 : (a : Int) < 2 := by omega
          have hos2 := hos.new ha2
          obtain ⟨ov, hov⟩ := hos.ow a ha2
          have hovf := hos.owf a
          have hOWl := hos.lt
          rw [show (wr.alloc (.cells #[.int .u64 0] 61)).setCell ⟨OW, a, none⟩ (.slice (some ⟨wr.heap.size, 0, none⟩) 1 1) = (wr.setCell ⟨OW, a, none⟩ (.slice (some ⟨wr.heap.size, 0, none⟩) 1 1)).alloc (.cells #[.int .u64 0] 61) from World.setCell_alloc_past _ _ _ _ hOWl] at hos2
          have HOS := hid hos2
          have HXS := hid hxs
          clear hos hxs pv hA hos2
          go_wp2_with fail
          refine (newBit wr).mono ?_
          rintro r w2 ⟨rfl, rfl⟩
          go_wp2_with fail
          clear r1 hov hovf
          generalize (wr.setCell ⟨OW, a, none⟩ (.slice (some ⟨wr.heap.size, 0, none⟩) 1 1)).alloc (.cells #[.int .u64 0] 61) = W3 at HOS ⊢
          generalize upN obs a wr.heap.size = obs2 at HOS ⊢
          go_loopw [73] (fun i wr => ∃ (k : Nat) (xs : Nat → Bool), k ≤ g.np a ∧ i = .int .i64 k ∧ OS w1 wr OT OT OW (g.nZ + g.nB) (a + 1) oth obs2 xs ∧ xs a = hitP g oth a k ∧ ∀ b, b < a → b < 2 → xs b = hitP g oth b (g.np b)) (fun i _ => g.np a - (intOf i).toNat)
          case atStart => exact ⟨0, _, by omega, rfl, HOS.out, by simp [upN, hitP], fun b hb hb2 => by rw [← HXS.out b hb hb2]; unfold upN; rw [if_neg (by omega)]⟩
          case round =>
            clear HOS HXS
            obtain ⟨k, xs, hk, rfl, hos, hxa, hxs⟩ := hrel
            have pv := HPV.out.below ((HB1.out.trans (hos.below.mono (by have := HOT.out; have := HB1.out.size; omega))).mono HB.out)
            have HOS := hid hos
            have HXS := hid hxs
            have HXA := hid hxa
            have hnpa := HNP.out a ha2
            by_cases hlt : k < g.np a
            · obtain ⟨e1, _, e3⟩ := pv.atP a k ha2 hlt
              obtain ⟨f1, _, f3⟩ := pv.atE a k ha2 hlt
              have rE := pv.rowE a ha2
              rw [f1] at rE
              have e1' := HAA.out.trans e1
              subst e1'
              have b2 : (k : Int) < (g.np a : Int) := by omega
              have pS := pv.slots
              have pE := pv.ends
              obtain ⟨s1, s2, s3⟩ := HST.out a k ha2 hlt
              have hsl := slice_36 g.SB g.nS g.sc (g.st a k) (g.en a k) s1 (by omega) (by omega)
              obtain ⟨d, hd⟩ : ∃ d, d = g.en a k - g.st a k := ⟨_, rfl⟩
              rw [← hd] at hsl
              have HD := hid hd
              have hd2 : d ≤ 2 := by omega
              have hsd : g.st a k + d < g.nS := by omega
              clear hos hxs hxa pv e1 f1 hd
              go_wp2_with fail
              go_quiet (fail)
              go_wp2_with fail
              clear hsl rE pE pS e3 f3
              go_loopw [95] (fun i wr => ∃ (j : Nat) (xs : Nat → Bool), j ≤ d ∧ i = .int .i64 j ∧ OS w1 wr OT OT OW (g.nZ + g.nB) (a + 1) oth obs2 xs ∧ xs a = (hitP g oth a k || hitS g oth a k j) ∧ ∀ b, b < a → b < 2 → xs b = hitP g oth b (g.np b)) (fun i _ => d - (intOf i).toNat)
              case atStart => exact ⟨0, _, by omega, rfl, HOS.out.quiet (below_drewN (Below.refl _ _) _), by rw [HXA.out]; simp [hitS], HXS.out⟩
              case round =>
                clear HOS HXS HXA
                obtain ⟨j, xs, hj, rfl, hos, hxa, hxs⟩ := hrel
                have pv := HPV.out.below ((HB1.out.trans (hos.below.mono (by have := HOT.out; have := HB1.out.size; omega))).mono HB.out)
                have HOS := hid hos
                have HXS := hid hxs
                have HXA := hid hxa
                have hOWl := hos.lt
                have hOTW := hos.hb.2
                have hOTl : OT < wr.heap.size := by omega
                by_cases hjd : j < d
                · obtain ⟨c1, c2, c3⟩ := pv.slot (g.st a k + j) (by omega)
                  rw [show (g.st a k + j) * 3 = g.st a k * 3 + j * 3 by omega] at c1 c2 c3
                  have b3 : (j : Int) < (d : Int) := by omega
                  by_cases hnx : g.nx (g.st a k + j) < 0
                  · obtain ⟨t, ht⟩ : ∃ t : Nat, g.nx (g.st a k + j) = -(t : Int) - 1 := ⟨(-(g.nx (g.st a k + j)) - 1).toNat, by omega⟩
                    have htN : t < g.nZ + g.nB := by have := HNX.out a k j ha2 hlt (by have := HD.out; omega); omega
                    have htI : (t : Int) < (g.nZ : Int) + (g.nB : Int) := by omega
                    have hot := hos.ot t htN
                    have hhit : hitS g oth a k (j + 1) = (hitS g oth a k j || oth t) := by
                      rw [hitS, decide_eq_true hnx, ht, show (-(-(t : Int) - 1) - 1).toNat = t by omega, Bool.true_and]
                    rw [ht] at c1
                    have hneg : decide (-(t : Int) - 1 < 0) = true := by simp; omega
                    obtain ⟨o1, o2, o3, o4⟩ := hos.own a (by omega) ha2
                    have hobl : obs2 a < wr.heap.size := block_lt_of_cell o2
                    have hb4 : Below wr.heap.size wr (wr.alloc (.cells #[.int .i32 (-(t : Int) - 1), .int .i32 (g.lhs (g.st a k + j)), .int .i32 (g.alt (g.st a k + j))] 42)) := (Below.refl _ wr).alloc (Nat.le_refl _) _
                    have HB4 := hid hb4
                    have HHIT := hid hhit
                    have o2' := keepW hb4 o2
                    have o3' : (wr.alloc (.cells #[.int .i32 (-(t : Int) - 1), .int .i32 (g.lhs (g.st a k + j)), .int .i32 (g.alt (g.st a k + j))] 42)).frozen? ⟨obs2 a, 0, none⟩ = false := by rw [frozenB hb4 hobl]; exact o3
                    have hadd := add_zero (obs2 a) 1 (bv (xs a)) _ o2' o3'
                    rw [bv_or] at hadd
                    have HADD := hid hadd
                    have hback := i32_back t (by omega)
                    cases hoth : oth t with
                    | true =>
                      rw [hoth] at hot
                      have hos5 := fun q => ((hos.quiet hb4).hit a ha2 (by omega)).quiet (below_drewN (Below.refl _ _) q)
                      have P1 : Hid (∀ q, OS w1 (((wr.alloc (.cells #[.int .i32 (-(t : Int) - 1), .int .i32 (g.lhs (g.st a k + j)), .int .i32 (g.alt (g.st a k + j))] 42)).setCell ⟨obs2 a, 0, none⟩ (.int .u64 (bv true))).drewN q) OT OT OW (g.nZ + g.nB) (a + 1) oth obs2 (upN xs a true) ∧ upN xs a true a = (hitP g oth a k || hitS g oth a k (j + 1)) ∧ ∀ b, b < a → b < 2 → upN xs a true b = hitP g oth b (g.np b)) := fun q => by
                        refine ⟨hos5 q, ?_, fun b hb hb2 => ?_⟩
                        · unfold upN; rw [if_pos rfl, hhit, hoth]; simp
                        · unfold upN; rw [if_neg (by omega)]; exact hxs b hb hb2
                      clear hos hxa hxs pv hb4 hhit o2' o3' hadd hoth ht hnx hos5
                      generalize g.lhs (g.st a k + j) = Y at *
                      generalize g.alt (g.st a k + j) = Z at *
                      go_wp2_with fail
                      refine HADD.out.mono ?_
                      rintro r w4 ⟨rfl, kq, rfl⟩
                      have P2 := hid (P1.out kq)
                      clear HADD P1 o1 o2 o3 hot c1 c2 c3 HB4 HHIT HOS HXS HXA
                      generalize ((wr.alloc (.cells #[.int .i32 (-(t : Int) - 1), .int .i32 Y, .int .i32 Z] 42)).setCell ⟨obs2 a, 0, none⟩ (.int .u64 (bv true))).drewN kq = W5 at P2 ⊢
                      go_wp2_with fail
                      refine ⟨⟨j + 1, _, by omega, by go_num, P2.out.1, P2.out.2.1, P2.out.2.2⟩, by simp [intOf]; omega⟩
                    | false =>
                      rw [hoth] at hot
                      have P2 := hid (And.intro (hos.quiet hb4) (show xs a = (hitP g oth a k || hitS g oth a k (j + 1)) by rw [hhit, hoth, Bool.or_false]; exact hxa))
                      clear hos hxa hxs pv hb4 hhit o2' o3' hadd hoth ht hnx HADD o1 o2 o3 HB4 HHIT HOS HXA
                      generalize g.lhs (g.st a k + j) = Y at *
                      generalize g.alt (g.st a k + j) = Z at *
                      go_wp2_with fail
                      refine ⟨⟨j + 1, _, by omega, by go_num, P2.out.1, P2.out.2, HXS.out⟩, by simp [intOf]; omega⟩
                  · have hneg : decide (g.nx (g.st a k + j) < 0) = false := by simpa using hnx
                    have hb4 : Below wr.heap.size wr (wr.alloc (.cells #[.int .i32 (g.nx (g.st a k + j)), .int .i32 (g.lhs (g.st a k + j)), .int .i32 (g.alt (g.st a k + j))] 42)) := (Below.refl _ wr).alloc (Nat.le_refl _) _
                    have P2 := hid (And.intro (hos.quiet hb4) (show xs a = (hitP g oth a k || hitS g oth a k (j + 1)) by rw [hitS, hneg, Bool.false_and, Bool.or_false]; exact hxa))
                    clear hos hxa hxs pv hb4 hnx HOS HXA
                    generalize g.nx (g.st a k + j) = X at *
                    generalize g.lhs (g.st a k + j) = Y at *
                    generalize g.alt (g.st a k + j) = Z at *
                    go_wp2_with fail
                    refine ⟨⟨j + 1, _, by omega, by go_num, P2.out.1, P2.out.2, HXS.out⟩, by simp [intOf]; omega⟩
                · have hjd' : j = d := by omega
                  subst hjd'
                  clear hos hxa hxs pv
                  go_wp2_with fail
                  refine ⟨⟨k + 1, xs, by omega, by go_num, HOS.out, by rw [HXA.out, hitP, HD.out], HXS.out⟩, by simp [intOf]; omega⟩
            · have hka : k = g.np a := by omega
              subst hka
              clear hos hxa hxs pv
              go_wp2_with fail
              refine ⟨⟨a + 1, obs2, xs, by omega, by go_num, HOS.out, fun b hb hb2 => ?_⟩, by simp [intOf]; omega⟩
              by_cases e : b = a
              · subst e; exact HXA.out
              · exact HXS.out b (by omega) hb2
        · have ha' : a = 2 := by omega
          subst ha'
          have k1 := pv.prods
          have hpw : g.p < wr.heap.size := by have := hos.lt; have := hos.hb; omega
          have hq : Below wr.heap.size wr (wr.alloc (.cells #[.bool false, .bool false] 4)) := (Below.refl _ wr).alloc (Nat.le_refl _) _
          have hos2 := hos.quiet hq
          have hbw : Below w.heap.size w wr := HB1.out.trans (hos.below.mono (by have := HOT.out; have := HB1.out.size; omega))
          obtain ⟨hrow, hedge, hlen, hub, hqq, hq1, hq0, he1⟩ := HE.out
          have hDw0 : w.heap.size ≤ wr.heap.size := hbw.size
          have hbw2 := hbw.trans (hq.mono hbw.size)
          have hGR : GR (wr.alloc (.cells #[.bool false, .bool false] 4)) U OW ua ub un uc e obs (fun b => bv (xs b)) :=
            ⟨fun v hv => keepW hbw2 (hrow v hv), fun v j hv hj => by obtain ⟨a1, a2, a3⟩ := hedge v j hv hj; exact ⟨a1, a2, keepW hbw2 a3⟩, fun v hv => by
              obtain ⟨a1, a2, a3, a4⟩ := hos2.own v hv hv
              refine ⟨a1, a2, ?_, ?_⟩ <;> (cases xs v <;> decide), hlen⟩
          have hrc := reach_any U OW q ua ub un uc e obs (fun b => bv (xs b)) _ hGR (fun v hv => Nat.lt_of_lt_of_le (hub v hv) hbw2.size) hqq hq1 hq0 he1
          have HRC := hid hrc
          have HBW2 := hid hbw2
          have hx1 := hxs 1 (by omega) (by omega)
          have HX1 := hid hx1
          have d0 : (wr.alloc (.cells #[.bool false, .bool false] 4)).cell? ⟨wr.heap.size, 0, none⟩ = some (.bool false) := by simp
          have d1 : (wr.alloc (.cells #[.bool false, .bool false] 4)).cell? ⟨wr.heap.size, 1, none⟩ = some (.bool false) := by simp
          have df : ∀ o, (wr.alloc (.cells #[.bool false, .bool false] 4)).frozen? ⟨wr.heap.size, o, none⟩ = false := fun o => by simp
          have HD := hid (And.intro d0 (And.intro d1 df))
          have hszz : (wr.alloc (.cells #[.bool false, .bool false] 4)).heap.size = wr.heap.size + 1 := by simp
          clear hos hxs pv hos2 hq hbw hGR hrc hbw2 hx1 d0 d1 df hrow hedge hlen hub hqq hq1 hq0 he1
          go_wp2_with fail
          clear k1 hmk2
          obtain ⟨D, hDD⟩ : ∃ D, D = wr.heap.size := ⟨_, rfl⟩
          rw [← hDD] at HD hszz ⊢
          refine HRC.out.mono ?_
          rintro r w4 ⟨T, D0, D1, x0, rfl, hb4, z0, z1, z2, z3⟩
          have d0 := keepW hb4 HD.out.1
          have d1 := keepW hb4 HD.out.2.1
          have df0 : w4.frozen? ⟨D, 0, none⟩ = false := by rw [frozenB hb4 (block_lt_of_cell HD.out.1)]; exact HD.out.2.2 0
          have df1 : w4.frozen? ⟨D, 1, none⟩ = false := by rw [frozenB hb4 (block_lt_of_cell HD.out.2.1)]; exact HD.out.2.2 1
          have HB4 := hid (HBW2.out.trans (hb4.mono HBW2.out.size))
          have hDw : w.heap.size ≤ D := by omega
          have n1 : T ≠ D := fun e => by subst e; rw [z2] at d1; simp at d1
          have n2 : D0 ≠ D := fun e => by subst e; rw [z1] at d0; simp at d0
          have n3 : D1 ≠ D := fun e => by subst e; rw [z3] at d0; simp at d0
          clear hb4 HRC HD HBW2 hszz hDD hDw0 hpw
          generalize xs 1 = x1 at *
          cases x1 with
          | true =>
            have z3' : w4.cell? ⟨D1, 0, none⟩ = some (.int .u64 1) := z3
            clear z3
            go_wp2_with fail
            refine wp_loop_rounds 3 ?_
            rw [rounds_succ]
            go_wp2_with fail
            rw [rounds_succ]
            go_wp2_with fail
            rw [rounds_succ]
            go_wp2_with fail
            go_ret
            refine ⟨D, x0 != 0, oth, rfl, (HB4.out.setCell (p := ⟨D, 0, none⟩) hDw _).setCell (p := ⟨D, 1, none⟩) hDw _, ?_, ?_, HSAID.out⟩
            · rw [setCell_off _ _ _ _ _ (by omega)]; exact setCell_self _ _ _ _ _ d0
            · rw [← HX1.out]; exact setCell_self _ _ _ _ (.bool false) (by rw [setCell_off _ _ _ _ _ (by omega)]; exact d1)
          | false =>
            have z3' : w4.cell? ⟨D1, 0, none⟩ = some (.int .u64 0) := z3
            clear z3
            go_wp2_with fail
            refine wp_loop_rounds 3 ?_
            rw [rounds_succ]
            go_wp2_with fail
            rw [rounds_succ]
            go_wp2_with fail
            rw [rounds_succ]
            go_wp2_with fail
            go_ret
            refine ⟨D, x0 != 0, oth, rfl, (HB4.out.setCell (p := ⟨D, 0, none⟩) hDw _).setCell (p := ⟨D, 1, none⟩) hDw _, ?_, ?_, HSAID.out⟩
            · rw [setCell_off _ _ _ _ _ (by omega)]; exact setCell_self _ _ _ _ _ d0
            · rw [← HX1.out]; exact setCell_self _ _ _ _ (.bool false) (by rw [setCell_off _ _ _ _ _ (by omega)]; exact d1)
end Go.Proofs.Ybulkdamm
