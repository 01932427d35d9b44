/-
  Seat b5088aF: the told and tied card of LawS5088CTruncated.
-/
import Derived.Test.YbulkdaisFmtOpen
import Derived.Test.YbulkdaisFmtLawT
namespace Go.Proofs.YbulkdaisFmt
open Go.ChangeShapes Go.WideShapes Go.ChangeAt Go.RowKit
open Go.Extern.Stop Go.Stop Go.Extern
set_option linter.unusedVariables false

theorem trunc_all (da sa : Option Addr) (n dc sn sc : Nat) (ds ss : List Nat) (cut : Nat) (aU aE : Addr) (w : World) (hn : n ≤ maxLen) (hs : sn ≤ maxLen) (hc : cut < 18446744073709551616) (hd : ∀ j, ds.getD j 0 < 65536) (hq : ∀ j, ss.getD j 0 < 4294967296)
    (hq0 : ∀ j, sn ≤ j → ss.getD j 0 = 0) (hcd : Came w .u16 da n ds) (hcs : Came w .u32 sa sn ss)
    (gU : w.cell? ⟨0, 0, none⟩ = some (.iface 62 (.pointer (some aU)))) (gE : w.cell? ⟨2, 0, none⟩ = some (.iface 62 (.pointer (some aE)))) :
    Calls Ybaf.prog 4 #[.slice da n dc, .slice sa sn sc, .int .u64 cut] w fun e w' => e = .returned (.bool true) ∧ Below w.heap.size w w' := by
  by_cases h : 1024 < n ∨ 1024 < sn
  · exact trunc_long da sa n dc sn sc cut w hn hs h
  · exact trunc_any da sa n dc sn sc ds ss cut aU aE w (by omega) (by omega) hc hd hq hq0 hcd hcs gU gE

set_option maxRecDepth 100000 in
set_option maxHeartbeats 1600000 in
theorem liftedT (os : Os) (started : os.Started) (H : Type) (enc : TypeId × Value → H) :
    ReturnsInTold none {} Ybaf.checked os 4 .any Input.okWide ((OpenSpec.ofChange Rows.lawS5088CTruncatedSpec).preRow enc Ybaf.prog Ybaf.f4 [] false laid3) (fun F => ((OpenSpec.ofChange Rows.lawS5088CTruncatedSpec).at F).post enc Ybaf.prog Ybaf.f4 false true false false) (aloneAtReturn Ybaf.prog) nothingAlways := by
  refine returnsInTold_of_row (C := Ybaf.checked) (s := OpenSpec.ofChange Rows.lawS5088CTruncatedSpec) (by kernel_rfl) own started (by kernel_rfl) Ybaf.func4
    (OpenSpec.witness_stopped_atRef (enc := enc) (C := Ybaf.checked) false (World.doorLaid Ybaf.prog 66 os) #[.slice none 0 0, .slice none 0 0, .int .u64 0] rfl (by kernel_rfl) (by kernel_rfl) (by kernel_rfl)
      (OpenSpec.preRow_of_B rfl 8 (by kernel_rfl) (by kernel_rfl) (door_met os _))) ?_
  intro F W base0 args ds gs before _ hF hval0 hW _ _ _ hL _
  have hval : ∀ (j : Nat) t v, Ybaf.f4.params[j]? = some t → args[j]? = some v → Value.okWide Ybaf.prog W .any base0 t v := hval0
  have hW' := hW
  obtain ⟨p, q, hA0, hV0, rfl, hfz, hnd⟩ := hW
  have hA : DataW.TrodAll enc Ybaf.prog W 0 (fun _ => true) true Ybaf.f4.params.toList args.toList ds p := hA0
  have hV : DataW.TrodVars enc Ybaf.prog W (fun _ => true) [nI] gs q := hV0
  rw [Ybaf.params4] at hA hval
  obtain ⟨v0, v1, v2, d0, d1, d2, p0, p1, p2, rfl, rfl, rfl, h0, h1, h2⟩ := trodAll_three hA
  obtain ⟨a0, n0, c0, rfl⟩ := okWide_slice Ybaf.underlying22 (hval 0 22 v0 rfl rfl)
  obtain ⟨a1, n1, c1, rfl⟩ := okWide_slice Ybaf.underlying23 (hval 1 23 v1 rfl rfl)
  obtain ⟨cut, rfl, rfl, rfl, wc⟩ := open_int Ybaf.underlying40 (hval 2 40 v2 rfl rfl) h2
  obtain ⟨aU, aE, x1, cu, tu, hgU, hgE, _, _, hvI, hsz⟩ := of_laid hL
  obtain ⟨rfl, rfl⟩ := hV.unique (vars_read1 enc gI tI Ybaf.underlying34 hvI trivial _)
  have k0 := h0
  have k1 := h1
  obtain ⟨f0, hf0⟩ := k0
  obtain ⟨f1, hf1⟩ := k1
  obtain ⟨xs0, hcame0, hm0, _, hb0, _⟩ := view Ybaf.underlying22 Ybaf.underlying45 cells45 hf0 65536 wf_u16
  obtain ⟨xs1, hcame1, hm1, _, hb1, hz1⟩ := view Ybaf.underlying23 Ybaf.underlying42 cells42 hf1 4294967296 wf_u32
  have hcb := wf_u64 cut wc
  obtain ⟨cn, rfl⟩ := Int.eq_ofNat_of_zero_le hcb.1
  clear hA0 hV0 hval0
  refine (trunc_all a0 a1 n0 c0 n1 c1 xs0 xs1 cn aU aE W hm0 hm1 (by omega) (fun j => by have := hb0 (by omega) j; omega) (fun j => by have := hb1 (by omega) j; omega) hz1 hcame0 hcame1 hgU hgE).mono fun e W' ⟨he, hB⟩ => ?_
  subst he
  refine ⟨_, rfl, _, _, _, [], p0 ++ (p1 ++ []), [.cell 1 0], hW', ?_, ?_, ?_, hB.frame _, fun h => by cases h⟩
  · exact trodAll_mk1 (shut_bool Ybaf.underlying4 _)
  · have l0 : ∀ x ∈ p0, x.block < W.heap.size := fun x hx => by simpa using hW'.lt x (by simp [hx])
    have l1 : ∀ x ∈ p1, x.block < W.heap.size := fun x hx => by simpa using hW'.lt x (by simp [hx])
    exact trodAll_mk3 (Below.trod laidOut (by kernel_rfl) (of_decide_eq_true (by kernel_rfl)) h0 hB l0) (Below.trod laidOut (by kernel_rfl) (of_decide_eq_true (by kernel_rfl)) h1 hB l1) (shut_int Ybaf.underlying40 wc)
  · exact vars_read1 enc gI tI Ybaf.underlying34 (var?_below hB gI (by omega) hvI) trivial _

theorem truncated_proved : Rows.LawS5088CTruncatedToldSaid :=
  Claim7.holds_of_told_tied_any_at .later 4 Ybaf.f4 "fmt.errorf" [] [] _ _ _ _ _ (by kernel_rfl) rfl rfl rfl laidOut (by kernel_rfl) rfl ⟨rfl, rfl, rfl, rfl, rfl, rfl, rfl⟩ rfl rfl (by kernel_rfl) (by kernel_rfl) Ybaf.func4 (by kernel_rfl)
    (of_decide_eq_true (by kernel_rfl)) (of_decide_eq_true (by kernel_rfl)) stops.symm rfl stopKnobs.symm (by kernel_rfl)
    (by kernel_rfl) (by kernel_rfl) (by kernel_rfl) (by kernel_rfl) (by kernel_rfl) (by kernel_rfl) (by kernel_rfl) (by kernel_rfl) (by kernel_rfl) rfl (by kernel_rfl) rfl rfl
    rfl rfl
    rfl (by kernel_rfl) (by kernel_rfl) (by kernel_rfl) (by decide) (by kernel_rfl) lawS5088CTruncated_row_tie
    (OpenClaim.moreEntering_of (by kernel_rfl) (by kernel_rfl) (by kernel_rfl) (by kernel_rfl) (by kernel_rfl) (by kernel_rfl) (by kernel_rfl) (by kernel_rfl) (by kernel_rfl) (by kernel_rfl))
    ⟨_, WideRow.started_initial, quiet _⟩
    (fun os started _ H enc _ => liftedT os started H enc)
#print axioms truncated_proved
end Go.Proofs.YbulkdaisFmt
