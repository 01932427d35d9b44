import Derived.Test.YbulkdammRunsOf
import Derived.Deep.RegionWith
namespace Go.Proofs.Ybulkdamm
open Go.RowKit
set_option linter.unusedVariables false

set_option maxHeartbeats 1600000 in
set_option maxRecDepth 100000 in
theorem runs_range (p : Value) (T o S R n cap : Nat) (a b : Int) (lo hi : Nat → Int) (w : World)
    (ht : w.cell? ⟨T, o, none⟩ = some (.slice none 0 0)) (hl : w.cell? ⟨T, o + 2, none⟩ = some (.int .i32 a)) (hh : w.cell? ⟨T, o + 3, none⟩ = some (.int .i32 b)) (hS : SetAt w S R n cap lo hi) :
    Calls Yba.prog 14 #[p, .pointer (some ⟨T, o, none⟩), .pointer (some ⟨S, 0, none⟩)] w fun e w' => Below w.heap.size w w' ∧ ∃ bb : Bool, e = .returned (.bool bb) := by
  have hnil := eq_nil_yes
  have hTl : T < w.heap.size := block_lt_of_cell ht
  have hSl : S < w.heap.size := block_lt_of_cell hS.one
  have k1 := hS.one
  have hb1 : Below w.heap.size w (w.alloc (.cells #[.pointer (some ⟨S, 0, none⟩)] 62)).drew := ((Below.refl _ w).alloc (Nat.le_refl _) _).drew
  have hs2 := hS.below hb1
  have hcov := covered_any R n cap lo hi a b _ hs2.hn hs2.runs hs2.sorted hs2.le
  have HC := hid hcov
  have HB := hid hb1
  clear hcov hs2 hb1 hS
  go_enter Yba.func14, Yba.ntmps14
  go_wp2_with fail
  go_region_with (first | (go_at_call 24; refine HC.out.mono ?_; rintro e w1 ⟨h1, bb, rfl, _⟩))
  all_goals
    go_wp2_with fail
    go_ret
    exact ⟨HB.out.trans (h1.mono HB.out.size), bb, rfl⟩

theorem info61 : (Yba.prog.info? 61).map (fun i => (i.zero, i.size, i.bytes)) = some (some (.int .u64 0), 1, 8) := by kernel_rfl
theorem run_make68 (n : Nat) (hn : n ≤ 1000000) (w : World) : (Instr.makeSlice 68 (.int .i64 n) (.int .i64 n)).run Yba.prog w = .ok (.slice (some ⟨w.heap.size, 0, none⟩) n n) (w.alloc (.cells (madeCells #[.int .u64 0] n) 61)) := by
  obtain ⟨i0, hi, hz0, hz1, hz2⟩ := info_parts info61
  have := run_make (P := Yba.prog) w 68 61 i0 _ Yba.underlying68 hi hz0 .i64 .i64 n n (by omega) (by omega) (by rw [hz2]; omega) (by omega)
  rw [hz1, Int.toNat_natCast, Nat.mul_one] at this
  exact this
theorem made_one : madeCells #[.int .u64 0] 1 = #[.int .u64 0] := by kernel_rfl

set_option maxHeartbeats 800000 in
set_option maxRecDepth 100000 in
theorem newBit (w : World) : Calls Yba.prog 15 #[.int .i64 1] w fun e w' => e = .returned (.slice (some ⟨w.heap.size, 0, none⟩) 1 1) ∧ w' = w.alloc (.cells #[.int .u64 0] 61) := by
  have hmk : ∀ W : World, (Instr.makeSlice 68 (.int .i64 1) (.int .i64 1)).run Yba.prog W = .ok (.slice (some ⟨W.heap.size, 0, none⟩) 1 1) (W.alloc (.cells #[.int .u64 0] 61)) := fun W => by
    have := run_make68 1 (by omega) W
    rw [made_one] at this
    exact this
  go_enter Yba.func15, Yba.ntmps15
  go_wp2
  go_ret
  exact ⟨by simp, rfl⟩

set_option maxHeartbeats 800000 in
set_option maxRecDepth 100000 in
theorem add_zero (B c : Nat) (v : Int) (w : World) (hv : w.cell? ⟨B, 0, none⟩ = some (.int .u64 v)) (hf : w.frozen? ⟨B, 0, none⟩ = false) :
    Calls Yba.prog 16 #[.slice (some ⟨B, 0, none⟩) 1 c, .int .i32 0] w fun e w' => e = .returned (.tuple #[]) ∧ ∃ k, w' = (w.setCell ⟨B, 0, none⟩ (.int .u64 (bits .or .u64 v 1))).drewN k := by
  go_enter Yba.func16, Yba.ntmps16
  go_wp2_with fail
  go_region
  all_goals
    go_wp2
    go_end0
    exact ⟨rfl, 1, rfl⟩

set_option maxHeartbeats 800000 in
set_option maxRecDepth 100000 in
theorem addAll_nil (s : Value) (w : World) : Calls Yba.prog 32 #[s, .slice none 0 0] w fun e w' => e = .returned (.tuple #[]) ∧ w' = w := by
  go_enter Yba.func32, Yba.ntmps32
  go_wp2
  refine wp_loop_rounds 1 ?_
  rw [rounds_succ]
  go_wp2
  go_end0
  exact ⟨rfl, rfl⟩

set_option maxHeartbeats 800000 in
set_option maxRecDepth 100000 in
theorem addAll_one (B D c d : Nat) (v u : Int) (w : World) (hv : w.cell? ⟨B, 0, none⟩ = some (.int .u64 v)) (hf : w.frozen? ⟨B, 0, none⟩ = false) (hu : w.cell? ⟨D, 0, none⟩ = some (.int .u64 u)) :
    Calls Yba.prog 32 #[.slice (some ⟨B, 0, none⟩) 1 c, .slice (some ⟨D, 0, none⟩) 1 d] w fun e w' => e = .returned (.tuple #[]) ∧ w' = w.setCell ⟨B, 0, none⟩ (.int .u64 (bits .or .u64 v u)) := by
  go_enter Yba.func32, Yba.ntmps32
  go_wp2
  refine wp_loop_rounds 2 ?_
  rw [rounds_succ]
  go_wp2
  rw [rounds_succ]
  go_wp2
  go_end0
  exact ⟨rfl, rfl⟩
end Go.Proofs.Ybulkdamm
