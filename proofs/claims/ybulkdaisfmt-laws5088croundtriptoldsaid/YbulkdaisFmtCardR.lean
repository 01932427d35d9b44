/-
  Seat b5088aF: the told and tied card of LawS5088CRoundTrip.
-/
import Derived.Test.YbulkdaisFmtOpen
import Derived.Test.YbulkdaisFmtLawR
namespace Go.Proofs.YbulkdaisFmt
open Go.ChangeShapes Go.WideShapes Go.ChangeAt Go.RowKit
open Go.Extern.Stop Go.Stop Go.Extern
set_option linter.unusedVariables false

theorem round_all (da sa ta : Option Addr) (n dc sn sc tn tc : Nat) (ds ss ts : List Nat) (aU aE : Addr) (w : World) (hn : n ≤ maxLen) (hs : sn ≤ maxLen) (ht : tn ≤ maxLen) (hd : ∀ j, ds.getD j 0 < 65536) (hq : ∀ j, ss.getD j 0 < 4294967296)
    (hq0 : ∀ j, sn ≤ j → ss.getD j 0 = 0) (hcd : Came w .u16 da n ds) (hcs : Came w .u32 sa sn ss) (htl : tn = ts.length) (htnil : ta = none → tn = 0 ∧ tc = 0) (hT : ∀ ad, ta = some ad → ∀ j u, (ts.map bv)[j]? = some u → w.cell? (ad.add j) = some u)
    (gU : w.cell? ⟨0, 0, none⟩ = some (.iface 62 (.pointer (some aU)))) (gE : w.cell? ⟨2, 0, none⟩ = some (.iface 62 (.pointer (some aE)))) :
    Calls Ybaf.prog 3 #[.slice da n dc, .slice sa sn sc, .slice ta tn tc] w fun e w' => e = .returned (.bool true) ∧ Below w.heap.size w w' := by
  by_cases h : 1024 < n ∨ 1024 < sn ∨ 1024 < tn
  · exact round_long da sa ta n dc sn sc tn tc w hn hs ht h
  · exact round_any da sa ta n dc sn sc tn tc ds ss ts aU aE w (by omega) (by omega) (by omega) hd hq hq0 hcd hcs htl htnil hT gU gE

/-- The tail that came in, as append wants it. -/
theorem view_tail {H : Type} {enc : TypeId × Value → H} {W : World} {fuel : Nat} {a0 : Option Addr} {n c : Nat} {x : DataW H × List MemPlace}
    (h : DataW.trod enc Ybaf.prog W 0 (fun _ => true) true fuel 24 [.slice a0 n c] = some x) :
    ∃ ts : List Nat, n = ts.length ∧ n ≤ maxLen ∧ (a0 = none → n = 0 ∧ c = 0) ∧ ∀ ad, a0 = some ad → ∀ j u, (ts.map bv)[j]? = some u → W.cell? (ad.add j) = some u := by
  rcases open_ints Ybaf.underlying24 Ybaf.underlying5 cells5 h with ⟨hcs, _⟩ | ⟨a, len, cap, zs, hcs, _, hl, hm, hz, _, hcell, hwz⟩
  · simp at hcs
    obtain ⟨rfl, rfl, rfl⟩ := hcs
    exact ⟨[], rfl, by simp [maxLen], fun _ => ⟨rfl, rfl⟩, by simp⟩
  · simp at hcs
    obtain ⟨rfl, rfl, rfl⟩ := hcs
    simp only [if_true] at hz
    refine ⟨(zs.take n).map Int.toNat, by simp; omega, by omega, by simp, ?_⟩
    intro ad had j u hu
    obtain rfl := Option.some.inj had
    have hj : j < n := by
      rcases Nat.lt_or_ge j n with h1 | h1
      · exact h1
      · rw [List.getElem?_eq_none (by simp; omega)] at hu; cases hu
    have hmem : zs[j]'(by omega) ∈ zs := List.getElem_mem _
    have hw := wf_u8 _ (hwz _ hmem)
    rw [hcell j (by omega)]
    rw [← hu]
    simp [hj, show j < zs.length from by omega, bv]
    omega

set_option maxRecDepth 100000 in
set_option maxHeartbeats 1600000 in
theorem liftedR (os : Os) (started : os.Started) (H : Type) (enc : TypeId × Value → H) :
    ReturnsInTold none {} Ybaf.checked os 3 .any Input.okWide ((OpenSpec.ofChange Rows.lawS5088CRoundTripSpec).preRow enc Ybaf.prog Ybaf.f3 [] false laid3) (fun F => ((OpenSpec.ofChange Rows.lawS5088CRoundTripSpec).at F).post enc Ybaf.prog Ybaf.f3 false true false false) (aloneAtReturn Ybaf.prog) nothingAlways := by
  refine returnsInTold_of_row (C := Ybaf.checked) (s := OpenSpec.ofChange Rows.lawS5088CRoundTripSpec) (by kernel_rfl) own started (by kernel_rfl) Ybaf.func3
    (OpenSpec.witness_stopped_atRef (enc := enc) (C := Ybaf.checked) false (World.doorLaid Ybaf.prog 66 os) #[.slice none 0 0, .slice none 0 0, .slice none 0 0] rfl (by kernel_rfl) (by kernel_rfl) (by kernel_rfl)
      (OpenSpec.preRow_of_B rfl 8 (by kernel_rfl) (by kernel_rfl) (door_met os _))) ?_
  intro F W base0 args ds gs before _ hF hval0 hW _ _ _ hL _
  have hval : ∀ (j : Nat) t v, Ybaf.f3.params[j]? = some t → args[j]? = some v → Value.okWide Ybaf.prog W .any base0 t v := hval0
  have hW' := hW
  obtain ⟨p, q, hA0, hV0, rfl, hfz, hnd⟩ := hW
  have hA : DataW.TrodAll enc Ybaf.prog W 0 (fun _ => true) true Ybaf.f3.params.toList args.toList ds p := hA0
  have hV : DataW.TrodVars enc Ybaf.prog W (fun _ => true) [nI] gs q := hV0
  rw [Ybaf.params3] at hA hval
  obtain ⟨v0, v1, v2, d0, d1, d2, p0, p1, p2, rfl, rfl, rfl, h0, h1, h2⟩ := trodAll_three hA
  obtain ⟨a0, n0, c0, rfl⟩ := okWide_slice Ybaf.underlying22 (hval 0 22 v0 rfl rfl)
  obtain ⟨a1, n1, c1, rfl⟩ := okWide_slice Ybaf.underlying23 (hval 1 23 v1 rfl rfl)
  obtain ⟨a2, n2, c2, rfl⟩ := okWide_slice Ybaf.underlying24 (hval 2 24 v2 rfl rfl)
  obtain ⟨aU, aE, x1, cu, tu, hgU, hgE, _, _, hvI, hsz⟩ := of_laid hL
  obtain ⟨rfl, rfl⟩ := hV.unique (vars_read1 enc gI tI Ybaf.underlying34 hvI trivial _)
  have k0 := h0
  have k1 := h1
  obtain ⟨f0, hf0⟩ := k0
  obtain ⟨f1, hf1⟩ := k1
  obtain ⟨xs0, hcame0, hm0, _, hb0, _⟩ := view Ybaf.underlying22 Ybaf.underlying45 cells45 hf0 65536 wf_u16
  obtain ⟨xs1, hcame1, hm1, _, hb1, hz1⟩ := view Ybaf.underlying23 Ybaf.underlying42 cells42 hf1 4294967296 wf_u32
  have k2 := h2
  obtain ⟨f2, hf2⟩ := k2
  obtain ⟨xs2, hl2, hm2, hnil2, hc2⟩ := view_tail hf2
  clear hA0 hV0 hval0
  refine (round_all a0 a1 a2 n0 c0 n1 c1 n2 c2 xs0 xs1 xs2 aU aE W hm0 hm1 hm2 (fun j => by have := hb0 (by omega) j; omega) (fun j => by have := hb1 (by omega) j; omega) hz1 hcame0 hcame1 hl2 hnil2 hc2 hgU hgE).mono fun e W' ⟨he, hB⟩ => ?_
  subst he
  refine ⟨_, rfl, _, _, _, [], p0 ++ (p1 ++ p2), [.cell 1 0], hW', ?_, ?_, ?_, hB.frame _, fun h => by cases h⟩
  · exact trodAll_mk1 (shut_bool Ybaf.underlying4 _)
  · have l0 : ∀ x ∈ p0, x.block < W.heap.size := fun x hx => by simpa using hW'.lt x (by simp [hx])
    have l1 : ∀ x ∈ p1, x.block < W.heap.size := fun x hx => by simpa using hW'.lt x (by simp [hx])
    have l2 : ∀ x ∈ p2, x.block < W.heap.size := fun x hx => by simpa using hW'.lt x (by simp [hx])
    exact trodAll_mk3 (Below.trod laidOut (by kernel_rfl) (of_decide_eq_true (by kernel_rfl)) h0 hB l0) (Below.trod laidOut (by kernel_rfl) (of_decide_eq_true (by kernel_rfl)) h1 hB l1) (Below.trod laidOut (by kernel_rfl) (of_decide_eq_true (by kernel_rfl)) h2 hB l2)
  · exact vars_read1 enc gI tI Ybaf.underlying34 (var?_below hB gI (by omega) hvI) trivial _

theorem roundTrip_proved : Rows.LawS5088CRoundTripToldSaid :=
  Claim7.holds_of_told_tied_any_at .later 3 Ybaf.f3 "fmt.errorf" [] [] _ _ _ _ _ (by kernel_rfl) rfl rfl rfl laidOut (by kernel_rfl) rfl ⟨rfl, rfl, rfl, rfl, rfl, rfl, rfl⟩ rfl rfl (by kernel_rfl) (by kernel_rfl) Ybaf.func3 (by kernel_rfl)
    (of_decide_eq_true (by kernel_rfl)) (of_decide_eq_true (by kernel_rfl)) stops.symm rfl stopKnobs.symm (by kernel_rfl)
    (by kernel_rfl) (by kernel_rfl) (by kernel_rfl) (by kernel_rfl) (by kernel_rfl) (by kernel_rfl) (by kernel_rfl) (by kernel_rfl) (by kernel_rfl) rfl (by kernel_rfl) rfl rfl
    rfl rfl
    rfl (by kernel_rfl) (by kernel_rfl) (by kernel_rfl) (by decide) (by kernel_rfl) lawS5088CRoundTrip_row_tie
    (OpenClaim.moreEntering_of (by kernel_rfl) (by kernel_rfl) (by kernel_rfl) (by kernel_rfl) (by kernel_rfl) (by kernel_rfl) (by kernel_rfl) (by kernel_rfl) (by kernel_rfl) (by kernel_rfl))
    ⟨_, WideRow.started_initial, quiet _⟩
    (fun os started _ H enc _ => liftedR os started H enc)
#print axioms roundTrip_proved
end Go.Proofs.YbulkdaisFmt
