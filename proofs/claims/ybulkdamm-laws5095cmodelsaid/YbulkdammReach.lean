import Derived.Test.YbulkdammEach2
namespace Go.Proofs.Ybulkdamm
open Go.RowKit
set_option linter.unusedVariables false

theorem info68 : (Yba.prog.info? 68).map (fun i => (i.zero, i.size, i.bytes)) = some (some (.slice none 0 0), 1, 24) := by kernel_rfl
theorem run_make66 (n : Nat) (hn : n ≤ 1000000) (w : World) : (Instr.makeSlice 66 (.int .i64 n) (.int .i64 n)).run Yba.prog w = .ok (.slice (some ⟨w.heap.size, 0, none⟩) n n) (w.alloc (.cells (madeCells #[.slice none 0 0] n) 68)) := by
  obtain ⟨i0, hi, hz0, hz1, hz2⟩ := info_parts info68
  have := run_make (P := Yba.prog) w 66 68 i0 _ Yba.underlying66 hi hz0 .i64 .i64 n n (by omega) (by omega) (by rw [hz2]; omega) (by omega)
  rw [hz1, Int.toNat_natCast, Nat.mul_one] at this
  exact this
theorem made66 : madeCells #[.slice none 0 0] 2 = #[.slice none 0 0, .slice none 0 0] := by kernel_rfl
theorem make66 (W : World) : (Instr.makeSlice 66 (.int .i64 2) (.int .i64 2)).run Yba.prog W = .ok (.slice (some ⟨W.heap.size, 0, none⟩) 2 2) (W.alloc (.cells #[.slice none 0 0, .slice none 0 0] 68)) := by
  have := run_make66 2 (by omega) W
  rw [made66] at this
  exact this

def W4 (w : World) (R U O : Nat) : World := (((w.alloc (.cells #[.slice (some ⟨U, 0, none⟩) 2 2] 33)).alloc (.cells #[.slice (some ⟨O, 0, none⟩) 2 2] 66)).alloc (.cells #[.slice none 0 0, .slice none 0 0] 68)).alloc (.cells #[.slice (some ⟨R + 2, 0, none⟩) 2 2] 66)
theorem w4_cells (w : World) (R U O : Nat) (hR : R = w.heap.size) : (W4 w R U O).cell? ⟨R, 0, none⟩ = some (.slice (some ⟨U, 0, none⟩) 2 2) ∧ (W4 w R U O).cell? ⟨R + 1, 0, none⟩ = some (.slice (some ⟨O, 0, none⟩) 2 2) ∧ (W4 w R U O).cell? ⟨R + 3, 0, none⟩ = some (.slice (some ⟨R + 2, 0, none⟩) 2 2) ∧
    (∀ a, a < 2 → (W4 w R U O).cell? ⟨R + 2, a, none⟩ = some nilS) ∧ (∀ o, (W4 w R U O).frozen? ⟨R + 2, o, none⟩ = false) ∧ Below R w (W4 w R U O) := by
  subst hR
  have h0 : (W4 w w.heap.size U O).heap[w.heap.size]? = some (.cells #[.slice (some ⟨U, 0, none⟩) 2 2] 33) := by unfold W4; (repeat (first | (apply blk_new; simp; done) | apply blk_past))
  have h1 : (W4 w w.heap.size U O).heap[w.heap.size + 1]? = some (.cells #[.slice (some ⟨O, 0, none⟩) 2 2] 66) := by unfold W4; (repeat (first | (apply blk_new; simp; done) | apply blk_past))
  have h2 : (W4 w w.heap.size U O).heap[w.heap.size + 2]? = some (.cells #[.slice none 0 0, .slice none 0 0] 68) := by unfold W4; (repeat (first | (apply blk_new; simp; done) | apply blk_past))
  have h3 : (W4 w w.heap.size U O).heap[w.heap.size + 3]? = some (.cells #[.slice (some ⟨w.heap.size + 2, 0, none⟩) 2 2] 66) := by unfold W4; (repeat (first | (apply blk_new; simp; done) | apply blk_past))
  have hb : Below w.heap.size w (W4 w w.heap.size U O) := by
    unfold W4
    exact ((((Below.refl _ w).alloc (Nat.le_refl _) _).alloc (by simp) _).alloc (by simp; omega) _).alloc (by simp; omega) _
  exact ⟨cell_of_row _ _ _ _ _ _ h0, cell_of_row _ _ _ _ _ _ h1, cell_of_row _ _ _ _ _ _ h3, two (cell_of_row _ _ _ _ _ _ h2) (cell_of_row _ _ _ _ _ _ h2), fun o => frozen_of_row _ _ _ _ _ h2, hb⟩

set_option maxHeartbeats 3200000 in
set_option maxRecDepth 100000 in
theorem reach_any (U O q : Nat) (ua : Nat → Option Addr) (ub un uc : Nat → Nat) (e : Nat → Nat → Nat) (ob : Nat → Nat) (ow : Nat → Int) (w : World) (hG : GR w U O ua ub un uc e ob ow) (hub : ∀ v, v < 2 → ub v < w.heap.size)
    (hq : q < un 0) (hq1 : e 0 q = 1) (hq0 : ∀ j, j < un 0 → j ≠ q → e 0 j = 0) (he1 : ∀ j, j < un 1 → e 1 j = 1) :
    Calls Yba.prog 17 #[.slice (some ⟨U, 0, none⟩) 2 2, .slice (some ⟨O, 0, none⟩) 2 2] w fun r w' => ∃ T D0 D1 x0, r = .returned (.slice (some ⟨T, 0, none⟩) 2 2) ∧ Below w.heap.size w w' ∧
      w'.cell? ⟨T, 0, none⟩ = some (.slice (some ⟨D0, 0, none⟩) 1 1) ∧ w'.cell? ⟨D0, 0, none⟩ = some (.int .u64 x0) ∧ w'.cell? ⟨T, 1, none⟩ = some (.slice (some ⟨D1, 0, none⟩) 1 1) ∧ w'.cell? ⟨D1, 0, none⟩ = some (.int .u64 (ow 1)) := by
  have hmk := make66
  have HG := hid hG
  obtain ⟨R, hR⟩ : ∃ R, R = w.heap.size := ⟨_, rfl⟩
  obtain ⟨c0, c1, c3, c2, f2, hb⟩ := w4_cells w R U O hR
  have hGR : ∀ v, v < 2 → U ≠ R + 2 ∧ O ≠ R + 2 ∧ ub v ≠ R + 2 ∧ ob v ≠ R + 2 := fun v hv => by
    have a1 := block_lt_of_cell (hG.row v hv)
    have a2 := block_lt_of_cell (hG.own v hv).1
    have a3 := block_lt_of_cell (hG.own v hv).2.1
    have a4 := hub v hv
    simp at a1 a2 a3
    omega
  have hE := each_any R U O q ua ub un uc e ob ow (W4 w R U O) c0 c1 c3 c2 f2 (hG.keep (hR ▸ hb)) hGR hq hq1 hq0 he1
  have HE := hid hE
  have HBB := hid hb
  have HC3 := hid c3
  have HR := hid hR
  have hb2 : R + 3 < (W4 w R U O).heap.size := block_lt_of_cell c3
  clear hG hub hq hq1 hq0 he1 hE c0 c1 c3 c2 f2 hb hGR
  go_enter Yba.func17, Yba.ntmps17
  go_wp2_with fail
  rw [← HR.out]
  simp only [Nat.add_assoc, Nat.reduceAdd]
  have hWd : W4 w R U O = W4 w R U O := rfl
  conv at hWd => rhs; unfold W4
  rw [← hWd]
  clear hWd hR
  refine HE.out.mono ?_
  rintro r w1 ⟨rfl, D0, D1, x0, hch, z0, z1, z2, z3⟩
  have z4 := hch.keep HC3.out (by simp)
  have R1 := hid (And.intro (HBB.out.trans hch.below) (And.intro z0 (And.intro z1 (And.intro z2 z3))))
  clear hch z0 z1 z2 z3 HE HBB HC3 hmk
  go_wp2
  go_ret
  exact ⟨R + 2, D0, D1, x0, rfl, HR.out ▸ R1.out.1, R1.out.2⟩
end Go.Proofs.Ybulkdamm
