import Derived.Test.YbulkdammDoorPair
namespace Go.Proofs.YbulkdammDoor
open Go.RowKit
set_option linter.unusedVariables false

set_option maxHeartbeats 3200000 in
set_option maxRecDepth 100000 in
theorem unite_again (base M h U uc B mc T : Nat) (f : Nat → Value) (w : World) (hS : Pst base M h U uc B mc T w f) (hh : 32 ≤ h) (hh2 : h ≤ 47) :
    Calls Ybad.prog 4 #[.pointer (some ⟨M, 0, none⟩), .int .i32 h, .int .i32 (-32)] w fun e w' => e = .returned (.tuple #[.int .i32 (-33), .bool true]) ∧ (∃ f', Pst base M h U uc B mc T w' f') ∧ Below base w w' := by
  have hne : ((h : Int) == (-32 : Int)) = false := beq_eq_false_iff_ne.2 (by omega)
  have hnil := neq_nil_yes
  have HS := hid hS
  clear hS
  have hmin : min (h : Int) (-32 : Int) = -32 := by omega
  have hmax : max (h : Int) (-32 : Int) = h := by omega
  obtain ⟨p1, p2⟩ := pair_start h hh hh2
  have kb : 0 ≤ pk h ∧ pk h < 18446744073709551616 := bits_u64 _ _ _
  go_enter Ybad.func4, Ybad.ntmps4
  go_wp2_with fail
  refine (within_plain M (-32) h w (by omega)).mono ?_
  rintro e w2 ⟨rfl, h21⟩
  cases h21
  go_wp2_with fail
  refine (within_core base M 30 U uc 32 B mc h (-32) f w (by omega) HS.out.core (by omega) (by omega)).mono ?_
  rintro e w1 ⟨rfl, m1, c1⟩
  have s1 := HS.out.step c1 m1 (fun i hi => by unfold upd; rw [if_neg (by omega)])
  generalize upd f 16 (.int .i32 (h : Int)) = f1 at s1 m1
  have S1 := hid s1
  have C1 := hid c1.below
  clear s1 c1 m1
  go_wp2_with fail
  refine (mem_plain M 0 h f1 w1 S1.out.core.mb (by omega) (by omega)).mono ?_
  rintro e w3 ⟨rfl, h3⟩
  have s3 : Pst base M h U uc B mc T w3 (upd f1 16 (.int .i32 h)) := by rw [h3]; exact S1.out.setM 16 _ (by omega)
  have c3 : Below base w w3 := by rw [h3]; exact C1.out.setCell (p := ⟨M, 16, none⟩) S1.out.core.hbM _
  generalize upd f1 16 (.int .i32 (h : Int)) = f3 at s3
  have S3 := hid s3
  have C3 := hid c3
  clear s3 c3 h3
  go_wp2_with fail
  refine (mem_core base M 30 U uc 32 B mc 1 (-32) f3 w3 (by omega) S3.out.core (by omega)).mono ?_
  rintro e w4 ⟨c4, cap, rfl⟩
  have S4 := hid (S3.out.ch c4)
  have C4 := hid (C3.out.trans c4.below)
  clear c4
  go_wp2_with fail
  have q11 := S4.out.core.mb.cell 11 (by omega)
  have q12 := S4.out.core.mb.cell 12 (by omega)
  have q13 := S4.out.core.mb.cell 13 (by omega)
  have q14 := S4.out.core.mb.cell 14 (by omega)
  rw [S4.out.e11] at q11
  rw [S4.out.e12] at q12
  rw [S4.out.e13] at q13
  rw [S4.out.e14] at q14
  refine (lookup_hit M 11 T 64 _ _ _ (pk h) (ps h) 1 w4 kb.1 kb.2 q11 q12 q13 q14 (by omega) S4.out.tb.tb p1 p2 (by simp [updI]) (by simp [updI])).mono ?_
  rintro e w5 ⟨rfl, k5, rfl⟩
  have hV : updI (fun _ => 0) (ps h) (-33) (ps h) = -33 := by simp [updI]
  rw [hV]
  go_wp2
  go_ret2
  exact ⟨by simp, ⟨f3, S4.out.ch ((Ch.refl base [] w4).drewN _)⟩, below_drewN C4.out _⟩

set_option maxHeartbeats 3200000 in
set_option maxRecDepth 100000 in
theorem within_pair (base M h U uc B mc T : Nat) (f : Nat → Value) (w : World) (hS : Pst base M h U uc B mc T w f) (hh : 32 ≤ h) (hh2 : h ≤ 47) :
    Calls Ybad.prog 5 #[.pointer (some ⟨M, 0, none⟩), .int .i32 (-32), .int .i32 (-33)] w fun e w' => e = .returned (.bool true) ∧ Ch base [] w w' := by
  have k5 := hS.core.mb.cell 5 (by omega)
  rw [hS.core.e5] at k5
  have u0 := hS.u31 0 (by omega)
  have u1 := hS.u31 1 (by omega)
  have u2 := hS.u31 2 (by omega)
  have u3 := hS.u31 3 (by omega)
  have u4 := hS.u31 4 (by omega)
  have u5 := hS.u31 5 (by omega)
  simp only [uni, List.getElem?_cons_zero, List.getElem?_cons_succ, Nat.add_zero, Nat.reduceAdd] at u0 u1 u2 u3 u4 u5
  have HS := hid hS
  clear hS
  go_enter Ybad.func5, Ybad.ntmps5
  go_wp2
  go_ret
  exact ⟨by simp, (Ch.refl _ _ _).alloc HS.out.core.hbw _⟩

set_option maxHeartbeats 3200000 in
set_option maxRecDepth 100000 in
theorem unite_last (base M h U uc B mc T : Nat) (f : Nat → Value) (w : World) (hS : Pst base M h U uc B mc T w f) (hh : 32 ≤ h) (hh2 : h ≤ 47) :
    Calls Ybad.prog 4 #[.pointer (some ⟨M, 0, none⟩), .int .i32 (-33), .int .i32 (-32)] w fun e w' => e = .returned (.tuple #[.int .i32 (-33), .bool true]) ∧ (∃ f', Pst base M h U uc B mc T w' f') ∧ Below base w w' := by
  have HS := hid hS
  clear hS
  go_enter Ybad.func4, Ybad.ntmps4
  go_wp2_with fail
  refine (within_pair base M h U uc B mc T f w HS.out hh hh2).mono ?_
  rintro e w1 ⟨rfl, c1⟩
  go_wp2
  go_ret2
  exact ⟨by simp, ⟨f, HS.out.ch c1⟩, c1.below⟩
end Go.Proofs.YbulkdammDoor
