import Derived.Test.YbulkdammDoorCore
namespace Go.Proofs.YbulkdammDoor
open Go.RowKit
set_option linter.unusedVariables false

/-- The hash of the pair of the union of 32 and h. -/
def pk (h : Nat) : Int := bits .or .u64 18446743936270598144 h
def psL : List Nat := [55, 30, 6, 46, 21, 61, 36, 12, 51, 27, 2, 42, 18, 57, 33, 8]
def ps (h : Nat) : Nat := psL.getD (h - 32) 0
theorem fact_ps : ∀ k : Fin 16, startI (pk (32 + k.1)) = (ps (32 + k.1) : Int) ∧ ps (32 + k.1) < 64 := by decide +kernel
theorem pair_start (h : Nat) (h1 : 32 ≤ h) (h2 : h ≤ 47) : startI (pk h) = (ps h : Int) ∧ ps h < 64 := by
  have := fact_ps ⟨h - 32, by omega⟩
  simp only at this
  rwa [show 32 + (h - 32) = h from by omega] at this

/-- Behind the pair. -/
structure Pst (base M h U uc B mc T : Nat) (w : World) (f : Nat → Value) : Prop where
  core : Core base M 30 U uc 32 B mc w f
  u31 : ∀ r, r < 6 → w.cell? ⟨U, 186 + r, none⟩ = (uni (-32) h 0 0)[r]?
  e11 : f 11 = .slice (some ⟨T, 0, none⟩) 64 64
  e12 : f 12 = .int .u32 1
  e13 : f 13 = .int .i64 58
  e14 : f 14 = .int .i64 1
  tb : TBF w T (updI (fun _ => 0) (ps h) (pk h)) (updI (fun _ => 0) (ps h) 1) (updI (fun _ => 0) (ps h) (-33))
  MT : M ≠ T
theorem Pst.step {base M h U uc B mc T : Nat} {w w' : World} {f f' : Nat → Value} (p : Pst base M h U uc B mc T w f) (hc : Ch base [M] w w') (hmb : MB w' M f') (he : ∀ i, i < 16 → f' i = f i) : Pst base M h U uc B mc T w' f' := by
  refine ⟨p.core.step hc hmb he, fun r hr => ?_, by rw [he 11 (by omega)]; exact p.e11, by rw [he 12 (by omega)]; exact p.e12, by rw [he 13 (by omega)]; exact p.e13, by rw [he 14 (by omega)]; exact p.e14, p.tb.ch hc (by simpa using Ne.symm p.MT), p.MT⟩
  have := p.u31 r hr
  rw [hc.cell (p := ⟨U, 186 + r, none⟩) ?_ (by simpa using p.core.UM)]
  · exact this
  · have h6 : (uni (-32) h 0 0).length = 6 := rfl
    rw [List.getElem?_eq_getElem (by rw [h6]; exact hr)] at this
    exact block_lt_of_cell this
theorem Pst.ch {base M h U uc B mc T : Nat} {w w' : World} {f : Nat → Value} (p : Pst base M h U uc B mc T w f) (hc : Ch base [] w w') : Pst base M h U uc B mc T w' f :=
  p.step (hc.mono (by simp)) (p.core.mb.ch hc (by simp)) (fun _ _ => rfl)
theorem Pst.setM {base M h U uc B mc T : Nat} {w : World} {f : Nat → Value} (p : Pst base M h U uc B mc T w f) (k : Nat) (v : Value) (hk : k = 16 ∨ k = 17) : Pst base M h U uc B mc T (w.setCell ⟨M, k, none⟩ v) (upd f k v) :=
  p.step ((Ch.refl base [M] w).setCell M k v p.core.hbM (by simp)) (p.core.mb.set k v (by omega)) (fun i hi => by unfold upd; rw [if_neg (by omega)])

theorem made_pair (base M C h : Nat) (f : Nat → Value) (w : World) (hS : St base M C 32 w f) (hh : 32 ≤ h) (hh2 : h ≤ 47) :
    Calls Ybad.prog 12 #[.pointer (some ⟨M, 0, none⟩), .pointer (some ⟨M, 11, none⟩), .int .u64 (pk h), .agg #[.int .i32 (-32), .int .i32 h, .int .i32 0, .int .i32 0, .int .i32 0, .int .i32 0]] w
      fun e w' => e = .returned (.int .i32 (-33)) ∧ (∃ f' U uc B mc T, Pst base M h U uc B mc T w' f') ∧ Below base w w' := by
  have hS : Stx base M C 31 31 31 w f := hS
  obtain ⟨U0, uc0, hv, hbU, hUlt0⟩ := hS.un.form (by omega)
  obtain ⟨B, mc, hvB, hbB, hBlt⟩ := hS.me.form (by decide +kernel)
  have hme := hS.me
  rw [hvB] at hme
  have hcap : fs 31 ≤ mc := by
    rcases hme.2 with ⟨h0, _⟩ | ⟨g, cap, cur, h1, _, _, h4, _⟩
    · cases h0
    · cases h1; exact h4
  obtain ⟨p1, p2⟩ := pair_start h hh hh2
  have kb : 0 ≤ pk h ∧ pk h < 18446744073709551616 := bits_u64 _ _ _
  have hM1 := hS.hbM
  have hM2 := hS.hb1
  have hb5 : ∀ x, (f 5).ownBlock = some x → base ≤ x := fun x hx => (hS.un.lt x hx).1
  have o6 : (f 6).ownBlock = some B := by rw [hvB]; rfl
  have BM : B ≠ M := fun e => hS.d6 (by rw [o6, e])
  have B5 : (f 5).ownBlock ≠ some B := fun e => (hS.d56 B e).1 o6
  have hbr := made_any base M 11 31 f (unis 31) (pk h) (-32) h 0 0 w hS.hbM hS.hbw hS.mb hS.un hS.d5 (by omega) _ _ hv (fun w' => (∃ f' U uc B mc T, Pst base M h U uc B mc T w' f') ∧ Below base w w') ?_
  · exact hbr
  intro w1 U cap hown hmb hch hU hUlt
  have UM : U ≠ M := by
    rintro rfl
    rcases hU with hU | hU
    · exact hS.d5 hU
    · have := hS.mb.lt; omega
  have hglob : w1.cell? ⟨1, 63, none⟩ = some (.int .u8 6) := by
    rw [hch.cell (p := ⟨1, 63, none⟩) (block_lt_of_cell hS.glob) (fun hm => by
      rcases List.mem_cons.1 hm with hm | hm
      · have : (1 : Nat) = M := hm
        omega
      · have := hb5 1 (by simpa using hm); omega)]
    exact hS.glob
  refine (entry_first base M 11 _ (pk h) (-2 - (31 : Nat)) (ps h) w1 kb.1 kb.2 hglob hM1 hM2 hmb (by omega) (by simpa [upd] using hS.pairs.1) (by simpa [upd] using hS.pairs.2.1) (by simpa [upd] using hS.pairs.2.2.1) (by simpa [upd] using hS.pairs.2.2.2) p1 p2).mono ?_
  rintro e w2 ⟨he, T, hT, hc2, hmb2, htb⟩
  have hcc : Ch base (M :: (f 5).ownBlock.toList) w w2 := hch.trans (hc2.mono (by simp))
  have hsz := hch.size
  have hml := hS.mb.lt
  have own2 := owns_ch hown hc2 (owned_ne UM)
  refine ⟨he, ⟨_, U, cap, B, mc, T, ⟨⟨hM1, hmb2, by simp [upd], by simpa [upd] using hvB, fun r hr => ?_, by omega, by omega, hcap, UM, BM, fun j hj => ?_, by omega⟩, fun r hr => ?_, by simp [upd], by simp [upd], by simp [upd], by simp [upd], htb, by omega⟩⟩, hcc.below⟩
  · rw [own2.cellAt (30 * 6 + r) (by omega), List.getElem?_append_left (by rw [unis_length]; omega)]
    exact unis_last 30 r hr
  · rw [hcc.cell (p := ⟨B, fs 30 + j, none⟩) hBlt (fun hm => by
      rcases List.mem_cons.1 hm with hm | hm
      · exact BM hm
      · exact B5 (by simpa using hm))]
    rw [hme.cellAt (fs 30 + j) (by have : fs 31 = fs 30 + 32 := rfl
                                   omega)]
    exact mems_last 30 j hj
  · rw [own2.cellAt (186 + r) (by omega), List.getElem?_append_right (by rw [unis_length]; omega), unis_length]
    rw [show 186 + r - 31 * 6 = r from by omega]

set_option maxHeartbeats 3200000 in
set_option maxRecDepth 100000 in
theorem unite_full (base M C h : Nat) (f : Nat → Value) (w : World) (hS : St base M C 32 w f) (hh : 32 ≤ h) (hh2 : h ≤ 47) (hC : C = 31) :
    Calls Ybad.prog 4 #[.pointer (some ⟨M, 0, none⟩), .int .i32 (-32), .int .i32 h] w fun e w' => e = .returned (.tuple #[.int .i32 0, .bool false]) ∧ (∃ f', St base M C 32 w' f') ∧ Below base w w' := by
  have hne : ((-32 : Int) == (h : Int)) = false := beq_eq_false_iff_ne.2 (by omega)
  have hnil := neq_nil_yes
  have hug : ug 32 = -32 := rfl
  have HS := hid hS
  clear hS
  have hmin : min (-32 : Int) (h : Int) = -32 := by omega
  have hmax : max (-32 : Int) (h : Int) = h := by omega
  go_enter Ybad.func4, Ybad.ntmps4
  go_wp2_with fail
  refine (within_step base M C 32 h f w HS.out (by omega) (by omega) (by omega) (by omega)).mono ?_
  rintro e w1 ⟨rfl, ⟨f1, s1⟩, c1⟩
  have S1 := hid s1
  have C1 := hid c1.below
  clear s1 c1
  go_wp2_with fail
  refine (within_plain M (-32) h w1 (by omega)).mono ?_
  rintro e w2 ⟨rfl, h21⟩
  cases h21
  go_wp2_with fail
  refine (mem_step base M C 32 0 f1 w1 S1.out (by omega) (by omega) (by omega)).mono ?_
  rintro e w3 ⟨c3, f3, B, off, cap, s3, sr3, rfl, hB⟩
  have S3 := hid s3
  have C3 := hid (C1.out.trans c3.below)
  clear s3 sr3 c3
  go_wp2_with fail
  refine (mem_plain M 1 h f3 w3 S3.out.mb (by omega) (by omega)).mono ?_
  rintro e w4 ⟨rfl, h4⟩
  have s4 : St base M C 32 w4 (upd f3 17 (.int .i32 h)) := by rw [h4]; exact S3.out.setM 17 _ (by omega)
  have c4 : Below base w w4 := by rw [h4]; exact C3.out.setCell (p := ⟨M, 17, none⟩) S3.out.hbM _
  generalize upd f3 17 (.int .i32 (h : Int)) = f4 at s4
  have S4 := hid s4
  have C4 := hid c4
  clear s4 c4 h4 S1 S3 C1 C3 hB
  go_wp2_with fail
  have q14 := S4.out.mb.cell 14 (by omega)
  rw [S4.out.pairs.2.2.2] at q14
  refine (lookup_empty M 11 (bits .or .u64 18446743936270598144 h) w4 q14).mono ?_
  rintro e w5 ⟨rfl, h5⟩
  cases h5
  obtain ⟨uv, uc, hv5⟩ : ∃ uv uc, f4 5 = .slice uv 31 uc := by
    rcases S4.out.un.2 with ⟨h0, h1⟩ | ⟨b, cap, cur, h0, _⟩
    · exact absurd h1 (by decide)
    · exact ⟨_, _, h0⟩
  obtain ⟨ca, cc, hv0⟩ := S4.out.same
  have q0 := S4.out.mb.cell 0 (by omega)
  have q5 := S4.out.mb.cell 5 (by omega)
  rw [hv0] at q0
  rw [hv5] at q5
  have hcn : (C : Int) ≤ 31 := by omega
  go_wp2_with fail
  go_quiet (fail)
  go_wp2
  go_ret2
  exact ⟨by simp, ⟨f4, S4.out.ch ((Ch.refl base [] w4).drewN _)⟩, below_drewN C4.out _⟩

set_option maxHeartbeats 3200000 in
set_option maxRecDepth 100000 in
theorem unite_pair (base M C h : Nat) (f : Nat → Value) (w : World) (hS : St base M C 32 w f) (hh : 32 ≤ h) (hh2 : h ≤ 47) (hC : 32 ≤ C) :
    Calls Ybad.prog 4 #[.pointer (some ⟨M, 0, none⟩), .int .i32 (-32), .int .i32 h] w fun e w' => e = .returned (.tuple #[.int .i32 (-33), .bool true]) ∧ (∃ f' U uc B mc T, Pst base M h U uc B mc T w' f') ∧ Below base w w' := by
  have hne : ((-32 : Int) == (h : Int)) = false := beq_eq_false_iff_ne.2 (by omega)
  have hnil := neq_nil_yes
  have hug : ug 32 = -32 := rfl
  have HS := hid hS
  clear hS
  have hmin : min (-32 : Int) (h : Int) = -32 := by omega
  have hmax : max (-32 : Int) (h : Int) = h := by omega
  go_enter Ybad.func4, Ybad.ntmps4
  go_wp2_with fail
  refine (within_step base M C 32 h f w HS.out (by omega) (by omega) (by omega) (by omega)).mono ?_
  rintro e w1 ⟨rfl, ⟨f1, s1⟩, c1⟩
  have S1 := hid s1
  have C1 := hid c1.below
  clear s1 c1
  go_wp2_with fail
  refine (within_plain M (-32) h w1 (by omega)).mono ?_
  rintro e w2 ⟨rfl, h21⟩
  cases h21
  go_wp2_with fail
  refine (mem_step base M C 32 0 f1 w1 S1.out (by omega) (by omega) (by omega)).mono ?_
  rintro e w3 ⟨c3, f3, B, off, cap, s3, sr3, rfl, hB⟩
  have S3 := hid s3
  have C3 := hid (C1.out.trans c3.below)
  clear s3 sr3 c3
  go_wp2_with fail
  refine (mem_plain M 1 h f3 w3 S3.out.mb (by omega) (by omega)).mono ?_
  rintro e w4 ⟨rfl, h4⟩
  have s4 : St base M C 32 w4 (upd f3 17 (.int .i32 h)) := by rw [h4]; exact S3.out.setM 17 _ (by omega)
  have c4 : Below base w w4 := by rw [h4]; exact C3.out.setCell (p := ⟨M, 17, none⟩) S3.out.hbM _
  generalize upd f3 17 (.int .i32 (h : Int)) = f4 at s4
  have S4 := hid s4
  have C4 := hid c4
  clear s4 c4 h4 S1 S3 C1 C3 hB
  go_wp2_with fail
  have q14 := S4.out.mb.cell 14 (by omega)
  rw [S4.out.pairs.2.2.2] at q14
  refine (lookup_empty M 11 (bits .or .u64 18446743936270598144 h) w4 q14).mono ?_
  rintro e w5 ⟨rfl, h5⟩
  cases h5
  obtain ⟨uv, uc, hv5⟩ : ∃ uv uc, f4 5 = .slice uv 31 uc := by
    rcases S4.out.un.2 with ⟨h0, h1⟩ | ⟨b, cap, cur, h0, _⟩
    · exact absurd h1 (by decide)
    · exact ⟨_, _, h0⟩
  obtain ⟨ca, cc, hv0⟩ := S4.out.same
  have q0 := S4.out.mb.cell 0 (by omega)
  have q5 := S4.out.mb.cell 5 (by omega)
  rw [hv0] at q0
  rw [hv5] at q5
  have hcn : ¬ (C : Int) ≤ 31 := by omega
  have hcn2 : decide (C ≤ 31) = false := by simp; omega
  have hcn3 : decide ((C : Int) ≤ 31) = false := by simp; omega
  go_wp2_with fail
  go_quiet (fail)
  go_wp2_with fail
  refine (made_pair base M C h f4 (w4.drewN nq) (S4.out.ch ((Ch.refl base [] w4).drewN _)) hh hh2).mono ?_
  rintro e w6 ⟨rfl, hp, c6⟩
  go_wp2
  go_ret2
  exact ⟨by simp, hp, (below_drewN C4.out _).trans c6⟩
end Go.Proofs.YbulkdammDoor
