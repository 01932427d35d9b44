/-
  Seat b5088aF: the told and tied card of LawS5088COutOfOrder.
-/
import Derived.Test.YbulkdaisFmtOpen
import Derived.Test.YbulkdaisFmtLawO
namespace Go.Proofs.YbulkdaisFmt
open Go.ChangeShapes Go.WideShapes Go.ChangeAt Go.RowKit
open Go.Extern.Stop Go.Stop Go.Extern
set_option linter.unusedVariables false

theorem ooo_all (da sa : Option Addr) (n dc sn sc : Nat) (ds ss : List Nat) (K Drop : Nat) (aU aE : Addr) (cu : Array Value) (tu : TypeId) (w : World) (hn : n ≤ maxLen) (hs : sn ≤ maxLen) (hK : K < 18446744073709551616) (hDr : Drop < 4294967296) (hd : ∀ j, ds.getD j 0 < 65536) (hq : ∀ j, ss.getD j 0 < 4294967296)
    (hq0 : ∀ j, sn ≤ j → ss.getD j 0 = 0) (hcd : Came w .u16 da n ds) (hcs : Came w .u32 sa sn ss)
    (gU : w.cell? ⟨0, 0, none⟩ = some (.iface 62 (.pointer (some aU)))) (gE : w.cell? ⟨2, 0, none⟩ = some (.iface 62 (.pointer (some aE)))) (hbU : w.heap[aU.block]? = some (.cells cu tu (0, 0))) :
    Calls Ybaf.prog 5 #[.slice da n dc, .slice sa sn sc, .int .u64 K, .int .u32 Drop] w fun e w' => e = .returned (.bool true) ∧ Below w.heap.size w w' := by
  by_cases h : 1024 < n ∨ 1024 < sn ∨ n < 2
  · exact ooo_long da sa n dc sn sc K Drop w hn hs h
  · exact ooo_any da sa n dc sn sc ds ss K Drop aU aE cu tu w (by omega) (by omega) (by omega) hK hDr hd hq hq0 hcd hcs gU gE hbU

set_option maxRecDepth 100000 in
set_option maxHeartbeats 1600000 in
theorem liftedO (os : Os) (started : os.Started) (H : Type) (enc : TypeId × Value → H) :
    ReturnsInTold none {} Ybaf.checked os 5 .any Input.okWide ((OpenSpec.ofChange Rows.lawS5088COutOfOrderSpec).preRow enc Ybaf.prog Ybaf.f5 [] false laid3) (fun F => ((OpenSpec.ofChange Rows.lawS5088COutOfOrderSpec).at F).post enc Ybaf.prog Ybaf.f5 false true false false) (aloneAtReturn Ybaf.prog) nothingAlways := by
  refine returnsInTold_of_row (C := Ybaf.checked) (s := OpenSpec.ofChange Rows.lawS5088COutOfOrderSpec) (by kernel_rfl) own started (by kernel_rfl) Ybaf.func5
    (OpenSpec.witness_stopped_atRef (enc := enc) (C := Ybaf.checked) false (World.doorLaid Ybaf.prog 66 os) #[.slice none 0 0, .slice none 0 0, .int .u64 0, .int .u32 0] rfl (by kernel_rfl) (by kernel_rfl) (by kernel_rfl)
      (OpenSpec.preRow_of_B rfl 8 (by kernel_rfl) (by kernel_rfl) (door_met os _))) ?_
  intro F W base0 args ds gs before _ hF hval0 hW _ _ _ hL _
  have hval : ∀ (j : Nat) t v, Ybaf.f5.params[j]? = some t → args[j]? = some v → Value.okWide Ybaf.prog W .any base0 t v := hval0
  have hW' := hW
  obtain ⟨p, q, hA0, hV0, rfl, hfz, hnd⟩ := hW
  have hA : DataW.TrodAll enc Ybaf.prog W 0 (fun _ => true) true Ybaf.f5.params.toList args.toList ds p := hA0
  have hV : DataW.TrodVars enc Ybaf.prog W (fun _ => true) [nI] gs q := hV0
  rw [Ybaf.params5] at hA hval
  obtain ⟨v0, v1, v2, v3, d0, d1, d2, d3, p0, p1, p2, p3, rfl, rfl, rfl, h0, h1, h2, h3⟩ := trodAll_four hA
  obtain ⟨a0, n0, c0, rfl⟩ := okWide_slice Ybaf.underlying22 (hval 0 22 v0 rfl rfl)
  obtain ⟨a1, n1, c1, rfl⟩ := okWide_slice Ybaf.underlying23 (hval 1 23 v1 rfl rfl)
  obtain ⟨cut, rfl, rfl, rfl, wc⟩ := open_int Ybaf.underlying40 (hval 2 40 v2 rfl rfl) h2
  obtain ⟨drop, rfl, rfl, rfl, wd⟩ := open_int Ybaf.underlying42 (hval 3 42 v3 rfl rfl) h3
  obtain ⟨aU, aE, x1, cu, tu, hgU, hgE, hbU, _, hvI, hsz⟩ := of_laid hL
  obtain ⟨rfl, rfl⟩ := hV.unique (vars_read1 enc gI tI Ybaf.underlying34 hvI trivial _)
  have k0 := h0
  have k1 := h1
  obtain ⟨f0, hf0⟩ := k0
  obtain ⟨f1, hf1⟩ := k1
  obtain ⟨xs0, hcame0, hm0, _, hb0, _⟩ := view Ybaf.underlying22 Ybaf.underlying45 cells45 hf0 65536 wf_u16
  obtain ⟨xs1, hcame1, hm1, _, hb1, hz1⟩ := view Ybaf.underlying23 Ybaf.underlying42 cells42 hf1 4294967296 wf_u32
  have hcb := wf_u64 cut wc
  obtain ⟨cn, rfl⟩ := Int.eq_ofNat_of_zero_le hcb.1
  have hdb := wf_u32 drop wd
  obtain ⟨dn, rfl⟩ := Int.eq_ofNat_of_zero_le hdb.1
  clear hA0 hV0 hval0
  refine (ooo_all a0 a1 n0 c0 n1 c1 xs0 xs1 cn dn aU aE cu tu W hm0 hm1 (by omega) (by omega) (fun j => by have := hb0 (by omega) j; omega) (fun j => by have := hb1 (by omega) j; omega) hz1 hcame0 hcame1 hgU hgE hbU).mono fun e W' ⟨he, hB⟩ => ?_
  subst he
  refine ⟨_, rfl, _, _, _, [], p0 ++ (p1 ++ []), [.cell 1 0], hW', ?_, ?_, ?_, hB.frame _, fun h => by cases h⟩
  · exact trodAll_mk1 (shut_bool Ybaf.underlying4 _)
  · have l0 : ∀ x ∈ p0, x.block < W.heap.size := fun x hx => by simpa using hW'.lt x (by simp [hx])
    have l1 : ∀ x ∈ p1, x.block < W.heap.size := fun x hx => by simpa using hW'.lt x (by simp [hx])
    exact trodAll_mk4 (Below.trod laidOut (by kernel_rfl) (of_decide_eq_true (by kernel_rfl)) h0 hB l0) (Below.trod laidOut (by kernel_rfl) (of_decide_eq_true (by kernel_rfl)) h1 hB l1) (shut_int Ybaf.underlying40 wc) (shut_int Ybaf.underlying42 wd)
  · exact vars_read1 enc gI tI Ybaf.underlying34 (var?_below hB gI (by omega) hvI) trivial _

theorem outOfOrder_proved : Rows.LawS5088COutOfOrderToldSaid :=
  Claim7.holds_of_told_tied_any_at .later 5 Ybaf.f5 "fmt.errorf" [] [] _ _ _ _ _ (by kernel_rfl) rfl rfl rfl laidOut (by kernel_rfl) rfl ⟨rfl, rfl, rfl, rfl, rfl, rfl, rfl⟩ rfl rfl (by kernel_rfl) (by kernel_rfl) Ybaf.func5 (by kernel_rfl)
    (of_decide_eq_true (by kernel_rfl)) (of_decide_eq_true (by kernel_rfl)) stops.symm rfl stopKnobs.symm (by kernel_rfl)
    (by kernel_rfl) (by kernel_rfl) (by kernel_rfl) (by kernel_rfl) (by kernel_rfl) (by kernel_rfl) (by kernel_rfl) (by kernel_rfl) (by kernel_rfl) rfl (by kernel_rfl) rfl rfl
    rfl rfl
    rfl (by kernel_rfl) (by kernel_rfl) (by kernel_rfl) (by decide) (by kernel_rfl) lawS5088COutOfOrder_row_tie
    (OpenClaim.moreEntering_of (by kernel_rfl) (by kernel_rfl) (by kernel_rfl) (by kernel_rfl) (by kernel_rfl) (by kernel_rfl) (by kernel_rfl) (by kernel_rfl) (by kernel_rfl) (by kernel_rfl))
    ⟨_, WideRow.started_initial, quiet _⟩
    (fun os started _ H enc _ => liftedO os started H enc)
#print axioms outOfOrder_proved
end Go.Proofs.YbulkdaisFmt
