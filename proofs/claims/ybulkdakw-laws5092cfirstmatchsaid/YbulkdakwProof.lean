/-
  Seat b5092a: LawS5092CFirstMatch: the row.
-/
import Derived.Test.YbulkdakwLawA
import Derived.Test.YbulkdakwLawB
import Derived.Test.YbulkdakwLawC
import Derived.ProofKit
import Derived.OpenShut
import Derived.ChangeOld
import Derived.Deep.Matrix
import Derived.Deep.Grids
namespace Go.Proofs.Ybulkdakw
open Go.ChangeShapes Go.WideShapes Go.ChangeAt Go.RowKit Go.Deep
set_option linter.unusedVariables false

theorem own : ownKnob Yba.prog.godebug = none := by kernel_rfl
theorem laidOut : laidOutB Yba.prog = true := by kernel_rfl
theorem cells3 : Yba.prog.cellsOf 3 = 1 := by kernel_rfl
theorem cells24 : Yba.prog.cellsOf 24 = 1 := by kernel_rfl
theorem cells4 : Yba.prog.cellsOf 4 = 1 := by kernel_rfl

theorem law_all (ia ca qa : Option Addr) (n ic cn cc qn qc : Nat) (L : List (List Int)) (cs : List Bool) (qs : List Int) (pick : Bool) (sel : Nat) (w : World) (hn : n ≤ maxLen) (hq : qn ≤ maxLen) (hcn : cn ≤ maxLen) (hsel : sel < 256)
    (hlm : ∀ i, (L.getD i []).length ≤ maxLen) (hI : CameL w.heap.size w ia n L) (hC : CameB w ca cn cs) (hQ : Sl w.heap.size w (.slice qa qn qc) qs) :
    Calls Yba.prog 3 #[.slice ia n ic, .slice ca cn cc, .slice qa qn qc, .bool pick, .int .u8 sel] w fun e w' => e = .returned (.bool true) ∧ Below w.heap.size w w' := by
  by_cases h : 1024 < n ∨ 1024 < qn
  · exact law_long ia ca qa n ic cn cc qn qc pick sel w hn hq h
  · cases pick with
    | false => exact law_A ia ca qa n ic cn cc qn qc L cs qs sel w (by omega) (by omega) hcn hsel hlm hI hC hQ
    | true =>
      by_cases h0 : 0 < n
      · exact law_B ia ca qa n ic cn cc qn qc L cs qs sel w (by omega) (by omega) hcn hsel h0 hlm hI hC hQ
      · have : n = 0 := by omega
        subst this
        exact law_C ia ca qa ic cn cc qn qc qs sel w (by omega) hcn hsel hQ

/-- Cells from a row of numbers to 'Sl'. -/
theorem sl_of {W : World} {a : Option Addr} {n c : Nat} {zs : List Int} (hl : n ≤ c) (hz : zs.length = c) (hnone : a = none → c = 0)
    (hc : ∀ x, a = some x → ∀ i, i < c → W.cell? (x.add i) = some (.int .i64 (zs.getD i 0))) : Sl W.heap.size W (.slice a n c) (zs.take n) := by
  refine ⟨a, n, c, rfl, by simp; omega, fun h => ⟨by have := hnone h; omega, hnone h⟩, ?_⟩
  by_cases h0 : n = 0
  · exact Or.inl h0
  · right
    cases a with
    | none => have := hnone rfl; omega
    | some x =>
      obtain ⟨b, off, rfl, hcc⟩ := ints_at (w := W) (a := x) (k := .i64) (zs := zs) (fun i hi => hc x rfl i (by omega)) (by omega)
      have hb := block_lt_of_cell (hcc 0 (by omega))
      refine ⟨b, off, rfl, by simp at hb; omega, fun j hj => ?_⟩
      rw [hcc j (by omega)]
      simp [hj]

theorem view_ints {H : Type} {enc : TypeId × Value → H} {W : World} {fuel : Nat} {a0 : Option Addr} {n c : Nat} {x : DataW H × List MemPlace}
    (h : DataW.trod enc Yba.prog W 0 (fun _ => true) true fuel 24 [.slice a0 n c] = some x) : ∃ xs, Sl W.heap.size W (.slice a0 n c) xs ∧ n ≤ maxLen := by
  rcases open_ints Yba.underlying24 Yba.underlying3 cells3 h with ⟨hcs, _⟩ | ⟨a, len, cap, zs, hcs, _, hl, hm, hz, _, hcell, hwz⟩
  · simp at hcs
    obtain ⟨rfl, rfl, rfl⟩ := hcs
    exact ⟨[], ⟨none, 0, 0, rfl, rfl, fun _ => ⟨rfl, rfl⟩, Or.inl rfl⟩, by simp [maxLen]⟩
  · simp at hcs
    obtain ⟨rfl, rfl, rfl⟩ := hcs
    simp only [if_true] at hz
    refine ⟨zs.take n, sl_of hl hz (by simp) ?_, by omega⟩
    intro x hx i hi
    obtain rfl := Option.some.inj hx
    exact hcell i (by omega)

theorem view_rows {H : Type} {enc : TypeId × Value → H} {W : World} {fuel : Nat} {a0 : Option Addr} {n c : Nat} {x : DataW H × List MemPlace}
    (h : DataW.trod enc Yba.prog W 0 (fun _ => true) true fuel 22 [.slice a0 n c] = some x) : ∃ L, CameL W.heap.size W a0 n L ∧ (∀ i, (L.getD i []).length ≤ maxLen) ∧ n ≤ maxLen := by
  rcases open_int_rows Yba.underlying22 Yba.underlying24 Yba.underlying3 cells24 cells3 h with ⟨hcs, _⟩ | ⟨a, len, cap, A, Ln, C, Z, hcs, _, hl, hm, _, hr⟩
  · simp at hcs
    obtain ⟨rfl, rfl, rfl⟩ := hcs
    exact ⟨[], Or.inl rfl, by simp [maxLen], by simp [maxLen]⟩
  · simp at hcs
    obtain ⟨rfl, rfl, rfl⟩ := hcs
    have hget : ∀ i, i < n → ((List.range n).map fun r => (Z r).take (Ln r)).getD i [] = (Z i).take (Ln i) := by
      intro i hi
      simp [hi]
    refine ⟨(List.range n).map fun r => (Z r).take (Ln r), ?_, fun i => ?_, by omega⟩
    · by_cases h0 : n = 0
      · exact Or.inl h0
      · right
        obtain ⟨b, off, spot⟩ := a
        have hspot : spot = none := by simpa [Addr.add] using World.cell?_spot (hr 0 (by omega)).1
        subst hspot
        have hb := block_lt_of_cell (hr 0 (by omega)).1
        refine ⟨b, off, rfl, by simpa [Addr.add_lit] using hb, fun i hi => ?_⟩
        obtain ⟨h1, h2, h3, h4, h5, h6, h7⟩ := hr i (by omega)
        rw [Addr.add_lit] at h1
        refine ⟨_, h1, ?_⟩
        rw [hget i hi]
        exact sl_of h2 h4 h6 (fun x hx i hi => (h7 x hx).2 i hi)
    · by_cases hi : i < n
      · rw [hget i hi]
        obtain ⟨h1, h2, h3, h4, h5, h6, h7⟩ := hr i (by omega)
        simp
        omega
      · simp [hi, maxLen]

theorem view_bools {H : Type} {enc : TypeId × Value → H} {W : World} {fuel : Nat} {a0 : Option Addr} {n c : Nat} {x : DataW H × List MemPlace}
    (h : DataW.trod enc Yba.prog W 0 (fun _ => true) true fuel 23 [.slice a0 n c] = some x) : ∃ cs, CameB W a0 n cs ∧ n ≤ maxLen := by
  rcases open_bools Yba.underlying23 Yba.underlying4 cells4 h with ⟨hcs, _⟩ | ⟨a, len, cap, B, hcs, _, hl, hm, _, hr⟩
  · simp at hcs
    obtain ⟨rfl, rfl, rfl⟩ := hcs
    exact ⟨[], Or.inl rfl, by simp [maxLen]⟩
  · simp at hcs
    obtain ⟨rfl, rfl, rfl⟩ := hcs
    refine ⟨(List.range n).map B, ?_, by omega⟩
    by_cases h0 : n = 0
    · exact Or.inl h0
    · right
      obtain ⟨b, off, spot⟩ := a
      have hspot : spot = none := by simpa [Addr.add] using World.cell?_spot (hr 0 (by omega))
      subst hspot
      have hb := block_lt_of_cell (hr 0 (by omega))
      refine ⟨b, off, rfl, by simpa [Addr.add_lit] using hb, fun i hi => ?_⟩
      have h1 := hr i (by omega)
      rw [Addr.add_lit] at h1
      rw [h1]
      simp [hi]

set_option maxRecDepth 100000 in
set_option maxHeartbeats 800000 in
theorem lifted (os : Os) (started : os.Started) (H : Type) (enc : TypeId × Value → H) :
    ReturnsInHanded {} Yba.checked os 3 .any (Rows.lawS5092CFirstMatchSpec.pre6 enc Yba.prog Yba.f3 Rows.lawS5092CFirstMatchRow.domain false) (Rows.lawS5092CFirstMatchSpec.post enc Yba.prog Yba.f3 false true false false) := by
  refine returnsInHanded_of_change (C := Yba.checked) own started (by kernel_rfl) Yba.func3
    (ChangeSpec.witness6 (enc := enc) (C := Yba.checked) false ⟨#[], #[.slice none 0 0, .slice none 0 0, .slice none 0 0, .bool false, .int .u8 0], []⟩ 8 (by kernel_rfl) (by kernel_rfl) (by kernel_rfl) (by kernel_rfl)) ?_
  intro W base args ds gs before hval0 hW hcnd _
  have hval : ∀ (j : Nat) t v, Yba.f3.params[j]? = some t → args[j]? = some v → Value.okWide Yba.prog W .any base t v := hval0
  have hW' := hW
  obtain ⟨p, q, hA0, hV, rfl, hfz, hnd⟩ := hW
  have hA : DataW.TrodAll enc Yba.prog W 0 (fun _ => true) true Yba.f3.params.toList args.toList ds p := hA0
  rw [Yba.params3] at hA hval
  obtain ⟨v0, vs0, d0, ds0, p0, q0, hargs, rfl, rfl, h0, r0⟩ := trodAll_cons hA
  obtain ⟨v1, vs1, d1, ds1, p1, q1, rfl, rfl, rfl, h1, r1⟩ := trodAll_cons r0
  obtain ⟨v2, vs2, d2, ds2, p2, q2, rfl, rfl, rfl, h2, r2⟩ := trodAll_cons r1
  obtain ⟨v3, vs3, d3, ds3, p3, q3, rfl, rfl, rfl, h3, r3⟩ := trodAll_cons r2
  obtain ⟨v4, vs4, d4, ds4, p4, q4, rfl, rfl, rfl, h4, r4⟩ := trodAll_cons r3
  obtain ⟨rfl, rfl, rfl⟩ := trodAll_nil r4
  obtain rfl : args = #[v0, v1, v2, v3, v4] := by cases args; simp_all
  obtain ⟨rfl, rfl⟩ := trodVars_none hV
  obtain ⟨a0, n0, c0, rfl⟩ := okWide_slice Yba.underlying22 (hval 0 22 v0 rfl rfl)
  obtain ⟨a1, n1, c1, rfl⟩ := okWide_slice Yba.underlying23 (hval 1 23 v1 rfl rfl)
  obtain ⟨a2, n2, c2, rfl⟩ := okWide_slice Yba.underlying24 (hval 2 24 v2 rfl rfl)
  have lt0 : ∀ x ∈ p0, x.block < W.heap.size := by obtain ⟨m, hm⟩ := h0; exact DataW.trod_lt m _ _ _ hm
  have lt1 : ∀ x ∈ p1, x.block < W.heap.size := by obtain ⟨m, hm⟩ := h1; exact DataW.trod_lt m _ _ _ hm
  have lt2 : ∀ x ∈ p2, x.block < W.heap.size := by obtain ⟨m, hm⟩ := h2; exact DataW.trod_lt m _ _ _ hm
  obtain ⟨pick, rfl, rfl, rfl⟩ := open_bool Yba.underlying4 (hval 3 4 v3 rfl rfl) h3
  obtain ⟨sel, rfl, rfl, rfl, ws⟩ := open_int Yba.underlying5 (hval 4 5 v4 rfl rfl) h4
  have hsb : 0 ≤ sel ∧ sel < 256 := by
    have := ws
    simp [Lit.wf, IntKind.min, IntKind.max, IntKind.signed, IntKind.bits] at this; omega
  obtain ⟨sn, rfl⟩ := Int.eq_ofNat_of_zero_le hsb.1
  have k0 := h0
  have k1 := h1
  have k2 := h2
  obtain ⟨fu0, hf0⟩ := k0
  obtain ⟨fu1, hf1⟩ := k1
  obtain ⟨fu2, hf2⟩ := k2
  obtain ⟨L, hI, hlm, hn⟩ := view_rows hf0
  obtain ⟨cs, hC, hcn⟩ := view_bools hf1
  obtain ⟨qs, hQ, hq⟩ := view_ints hf2
  clear hA0 hval0
  refine (law_all a0 a1 a2 n0 c0 n1 c1 n2 c2 L cs qs pick sn W hn hq hcn (by omega) hlm hI hC hQ).mono fun e W' ⟨he, bel⟩ => ?_
  subst he
  exact ⟨_, rfl, _, _, _, [], _, [], hW', trodAll_mk1 (shut_bool Yba.underlying4 _), (trodAll_cons_mk (Below.trod laidOut (by kernel_rfl) (of_decide_eq_true (by kernel_rfl)) h0 bel lt0) (trodAll_cons_mk (Below.trod laidOut (by kernel_rfl) (of_decide_eq_true (by kernel_rfl)) h1 bel lt1) (trodAll_cons_mk (Below.trod laidOut (by kernel_rfl) (of_decide_eq_true (by kernel_rfl)) h2 bel lt2) (trodAll_cons_mk (shut_bool Yba.underlying4 _) (trodAll_cons_mk (shut_int Yba.underlying5 ws) trodAll_mk0))))), rfl, bel.frame _, fun h => by cases h⟩

theorem firstMatch_proved : Rows.LawS5092CFirstMatchSaid :=
  OpenClaim.holds_of_wide 3 Yba.f3 rfl rfl rfl rfl rfl rfl rfl ⟨rfl, rfl, rfl, rfl, rfl⟩ rfl rfl rfl rfl rfl (by kernel_rfl) Yba.func3 (by kernel_rfl)
    (of_decide_eq_true (by kernel_rfl)) (by unfold Func.isWrapper; first | (rw [if_pos (by decide +kernel)]; kernel_rfl) | (rw [if_neg (by decide +kernel)]; exact ⟨rfl, rfl⟩))
    (fun os started H enc _ => lifted os started H enc)
#print axioms firstMatch_proved
end Go.Proofs.Ybulkdakw
