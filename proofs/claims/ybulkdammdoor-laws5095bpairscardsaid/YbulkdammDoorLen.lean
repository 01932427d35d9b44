import Derived.Test.YbulkdammDoorLeaf
import Derived.KernelRfl
namespace Go.Proofs.YbulkdammDoor
open Go.RowKit
set_option linter.unusedVariables false

set_option maxHeartbeats 4000000 in
set_option maxRecDepth 10000000 in
theorem len64_2 (w : World) : Calls Ybad.prog 29 #[.int .u64 2] w fun e w' => e = .returned (.int .i64 2) ∧ w' = w := by
  go_enter Ybad.func29, Ybad.ntmps29
  go_wp2
  go_ret
  exact ⟨by kernel_rfl, rfl⟩

set_option maxHeartbeats 4000000 in
set_option maxRecDepth 10000000 in
theorem len64_3 (w : World) : Calls Ybad.prog 29 #[.int .u64 3] w fun e w' => e = .returned (.int .i64 2) ∧ w' = w := by
  go_enter Ybad.func29, Ybad.ntmps29
  go_wp2
  go_ret
  exact ⟨by kernel_rfl, rfl⟩

set_option maxHeartbeats 4000000 in
set_option maxRecDepth 10000000 in
theorem len64_4 (w : World) : Calls Ybad.prog 29 #[.int .u64 4] w fun e w' => e = .returned (.int .i64 3) ∧ w' = w := by
  go_enter Ybad.func29, Ybad.ntmps29
  go_wp2
  go_ret
  exact ⟨by kernel_rfl, rfl⟩

set_option maxHeartbeats 4000000 in
set_option maxRecDepth 10000000 in
theorem len64_5 (w : World) : Calls Ybad.prog 29 #[.int .u64 5] w fun e w' => e = .returned (.int .i64 3) ∧ w' = w := by
  go_enter Ybad.func29, Ybad.ntmps29
  go_wp2
  go_ret
  exact ⟨by kernel_rfl, rfl⟩

set_option maxHeartbeats 4000000 in
set_option maxRecDepth 10000000 in
theorem len64_6 (w : World) : Calls Ybad.prog 29 #[.int .u64 6] w fun e w' => e = .returned (.int .i64 3) ∧ w' = w := by
  go_enter Ybad.func29, Ybad.ntmps29
  go_wp2
  go_ret
  exact ⟨by kernel_rfl, rfl⟩

set_option maxHeartbeats 4000000 in
set_option maxRecDepth 10000000 in
theorem len64_7 (w : World) : Calls Ybad.prog 29 #[.int .u64 7] w fun e w' => e = .returned (.int .i64 3) ∧ w' = w := by
  go_enter Ybad.func29, Ybad.ntmps29
  go_wp2
  go_ret
  exact ⟨by kernel_rfl, rfl⟩

set_option maxHeartbeats 4000000 in
set_option maxRecDepth 10000000 in
theorem len64_8 (w : World) : Calls Ybad.prog 29 #[.int .u64 8] w fun e w' => e = .returned (.int .i64 4) ∧ w' = w := by
  go_enter Ybad.func29, Ybad.ntmps29
  go_wp2
  go_ret
  exact ⟨by kernel_rfl, rfl⟩

set_option maxHeartbeats 4000000 in
set_option maxRecDepth 10000000 in
theorem len64_9 (w : World) : Calls Ybad.prog 29 #[.int .u64 9] w fun e w' => e = .returned (.int .i64 4) ∧ w' = w := by
  go_enter Ybad.func29, Ybad.ntmps29
  go_wp2
  go_ret
  exact ⟨by kernel_rfl, rfl⟩

set_option maxHeartbeats 4000000 in
set_option maxRecDepth 10000000 in
theorem len64_10 (w : World) : Calls Ybad.prog 29 #[.int .u64 10] w fun e w' => e = .returned (.int .i64 4) ∧ w' = w := by
  go_enter Ybad.func29, Ybad.ntmps29
  go_wp2
  go_ret
  exact ⟨by kernel_rfl, rfl⟩

set_option maxHeartbeats 4000000 in
set_option maxRecDepth 10000000 in
theorem len64_11 (w : World) : Calls Ybad.prog 29 #[.int .u64 11] w fun e w' => e = .returned (.int .i64 4) ∧ w' = w := by
  go_enter Ybad.func29, Ybad.ntmps29
  go_wp2
  go_ret
  exact ⟨by kernel_rfl, rfl⟩

set_option maxHeartbeats 4000000 in
set_option maxRecDepth 10000000 in
theorem len64_12 (w : World) : Calls Ybad.prog 29 #[.int .u64 12] w fun e w' => e = .returned (.int .i64 4) ∧ w' = w := by
  go_enter Ybad.func29, Ybad.ntmps29
  go_wp2
  go_ret
  exact ⟨by kernel_rfl, rfl⟩

set_option maxHeartbeats 4000000 in
set_option maxRecDepth 10000000 in
theorem len64_13 (w : World) : Calls Ybad.prog 29 #[.int .u64 13] w fun e w' => e = .returned (.int .i64 4) ∧ w' = w := by
  go_enter Ybad.func29, Ybad.ntmps29
  go_wp2
  go_ret
  exact ⟨by kernel_rfl, rfl⟩

set_option maxHeartbeats 4000000 in
set_option maxRecDepth 10000000 in
theorem len64_14 (w : World) : Calls Ybad.prog 29 #[.int .u64 14] w fun e w' => e = .returned (.int .i64 4) ∧ w' = w := by
  go_enter Ybad.func29, Ybad.ntmps29
  go_wp2
  go_ret
  exact ⟨by kernel_rfl, rfl⟩

set_option maxHeartbeats 4000000 in
set_option maxRecDepth 10000000 in
theorem len64_15 (w : World) : Calls Ybad.prog 29 #[.int .u64 15] w fun e w' => e = .returned (.int .i64 4) ∧ w' = w := by
  go_enter Ybad.func29, Ybad.ntmps29
  go_wp2
  go_ret
  exact ⟨by kernel_rfl, rfl⟩

set_option maxHeartbeats 4000000 in
set_option maxRecDepth 10000000 in
theorem len64_16 (w : World) : Calls Ybad.prog 29 #[.int .u64 16] w fun e w' => e = .returned (.int .i64 5) ∧ w' = w := by
  go_enter Ybad.func29, Ybad.ntmps29
  go_wp2
  go_ret
  exact ⟨by kernel_rfl, rfl⟩

set_option maxHeartbeats 4000000 in
set_option maxRecDepth 10000000 in
theorem len64_17 (w : World) : Calls Ybad.prog 29 #[.int .u64 17] w fun e w' => e = .returned (.int .i64 5) ∧ w' = w := by
  go_enter Ybad.func29, Ybad.ntmps29
  go_wp2
  go_ret
  exact ⟨by kernel_rfl, rfl⟩

set_option maxHeartbeats 4000000 in
set_option maxRecDepth 10000000 in
theorem len64_18 (w : World) : Calls Ybad.prog 29 #[.int .u64 18] w fun e w' => e = .returned (.int .i64 5) ∧ w' = w := by
  go_enter Ybad.func29, Ybad.ntmps29
  go_wp2
  go_ret
  exact ⟨by kernel_rfl, rfl⟩

set_option maxHeartbeats 4000000 in
set_option maxRecDepth 10000000 in
theorem len64_19 (w : World) : Calls Ybad.prog 29 #[.int .u64 19] w fun e w' => e = .returned (.int .i64 5) ∧ w' = w := by
  go_enter Ybad.func29, Ybad.ntmps29
  go_wp2
  go_ret
  exact ⟨by kernel_rfl, rfl⟩

set_option maxHeartbeats 4000000 in
set_option maxRecDepth 10000000 in
theorem len64_20 (w : World) : Calls Ybad.prog 29 #[.int .u64 20] w fun e w' => e = .returned (.int .i64 5) ∧ w' = w := by
  go_enter Ybad.func29, Ybad.ntmps29
  go_wp2
  go_ret
  exact ⟨by kernel_rfl, rfl⟩

set_option maxHeartbeats 4000000 in
set_option maxRecDepth 10000000 in
theorem len64_21 (w : World) : Calls Ybad.prog 29 #[.int .u64 21] w fun e w' => e = .returned (.int .i64 5) ∧ w' = w := by
  go_enter Ybad.func29, Ybad.ntmps29
  go_wp2
  go_ret
  exact ⟨by kernel_rfl, rfl⟩

set_option maxHeartbeats 4000000 in
set_option maxRecDepth 10000000 in
theorem len64_22 (w : World) : Calls Ybad.prog 29 #[.int .u64 22] w fun e w' => e = .returned (.int .i64 5) ∧ w' = w := by
  go_enter Ybad.func29, Ybad.ntmps29
  go_wp2
  go_ret
  exact ⟨by kernel_rfl, rfl⟩

set_option maxHeartbeats 4000000 in
set_option maxRecDepth 10000000 in
theorem len64_23 (w : World) : Calls Ybad.prog 29 #[.int .u64 23] w fun e w' => e = .returned (.int .i64 5) ∧ w' = w := by
  go_enter Ybad.func29, Ybad.ntmps29
  go_wp2
  go_ret
  exact ⟨by kernel_rfl, rfl⟩

set_option maxHeartbeats 4000000 in
set_option maxRecDepth 10000000 in
theorem len64_24 (w : World) : Calls Ybad.prog 29 #[.int .u64 24] w fun e w' => e = .returned (.int .i64 5) ∧ w' = w := by
  go_enter Ybad.func29, Ybad.ntmps29
  go_wp2
  go_ret
  exact ⟨by kernel_rfl, rfl⟩

set_option maxHeartbeats 4000000 in
set_option maxRecDepth 10000000 in
theorem len64_25 (w : World) : Calls Ybad.prog 29 #[.int .u64 25] w fun e w' => e = .returned (.int .i64 5) ∧ w' = w := by
  go_enter Ybad.func29, Ybad.ntmps29
  go_wp2
  go_ret
  exact ⟨by kernel_rfl, rfl⟩

set_option maxHeartbeats 4000000 in
set_option maxRecDepth 10000000 in
theorem len64_26 (w : World) : Calls Ybad.prog 29 #[.int .u64 26] w fun e w' => e = .returned (.int .i64 5) ∧ w' = w := by
  go_enter Ybad.func29, Ybad.ntmps29
  go_wp2
  go_ret
  exact ⟨by kernel_rfl, rfl⟩

set_option maxHeartbeats 4000000 in
set_option maxRecDepth 10000000 in
theorem len64_27 (w : World) : Calls Ybad.prog 29 #[.int .u64 27] w fun e w' => e = .returned (.int .i64 5) ∧ w' = w := by
  go_enter Ybad.func29, Ybad.ntmps29
  go_wp2
  go_ret
  exact ⟨by kernel_rfl, rfl⟩

set_option maxHeartbeats 4000000 in
set_option maxRecDepth 10000000 in
theorem len64_28 (w : World) : Calls Ybad.prog 29 #[.int .u64 28] w fun e w' => e = .returned (.int .i64 5) ∧ w' = w := by
  go_enter Ybad.func29, Ybad.ntmps29
  go_wp2
  go_ret
  exact ⟨by kernel_rfl, rfl⟩

set_option maxHeartbeats 4000000 in
set_option maxRecDepth 10000000 in
theorem len64_29 (w : World) : Calls Ybad.prog 29 #[.int .u64 29] w fun e w' => e = .returned (.int .i64 5) ∧ w' = w := by
  go_enter Ybad.func29, Ybad.ntmps29
  go_wp2
  go_ret
  exact ⟨by kernel_rfl, rfl⟩

set_option maxHeartbeats 4000000 in
set_option maxRecDepth 10000000 in
theorem len64_30 (w : World) : Calls Ybad.prog 29 #[.int .u64 30] w fun e w' => e = .returned (.int .i64 5) ∧ w' = w := by
  go_enter Ybad.func29, Ybad.ntmps29
  go_wp2
  go_ret
  exact ⟨by kernel_rfl, rfl⟩

set_option maxHeartbeats 4000000 in
set_option maxRecDepth 10000000 in
theorem len64_31 (w : World) : Calls Ybad.prog 29 #[.int .u64 31] w fun e w' => e = .returned (.int .i64 5) ∧ w' = w := by
  go_enter Ybad.func29, Ybad.ntmps29
  go_wp2
  go_ret
  exact ⟨by kernel_rfl, rfl⟩

set_option maxHeartbeats 4000000 in
set_option maxRecDepth 10000000 in
theorem len64_32 (w : World) : Calls Ybad.prog 29 #[.int .u64 32] w fun e w' => e = .returned (.int .i64 6) ∧ w' = w := by
  go_enter Ybad.func29, Ybad.ntmps29
  go_wp2
  go_ret
  exact ⟨by kernel_rfl, rfl⟩

theorem len64_pos (n : Nat) (w : World) (hn8 : 2 ≤ n) (hn : n ≤ 32) :
    Calls Ybad.prog 29 #[.int .u64 n] w fun e w' => (∃ q : Int, 0 < q ∧ q ≤ 64 ∧ e = .returned (.int .i64 q)) ∧ w' = w := by
  have h : n = 2 ∨ n = 3 ∨ n = 4 ∨ n = 5 ∨ n = 6 ∨ n = 7 ∨ n = 8 ∨ n = 9 ∨ n = 10 ∨ n = 11 ∨ n = 12 ∨ n = 13 ∨ n = 14 ∨ n = 15 ∨ n = 16 ∨ n = 17 ∨ n = 18 ∨ n = 19 ∨ n = 20 ∨ n = 21 ∨ n = 22 ∨ n = 23 ∨ n = 24 ∨ n = 25 ∨ n = 26 ∨ n = 27 ∨ n = 28 ∨ n = 29 ∨ n = 30 ∨ n = 31 ∨ n = 32 := by omega
  rcases h with rfl | rfl | rfl | rfl | rfl | rfl | rfl | rfl | rfl | rfl | rfl | rfl | rfl | rfl | rfl | rfl | rfl | rfl | rfl | rfl | rfl | rfl | rfl | rfl | rfl | rfl | rfl | rfl | rfl | rfl | rfl
  · exact (len64_2 w).mono fun e w' h => ⟨⟨2, by decide, by decide, h.1⟩, h.2⟩
  · exact (len64_3 w).mono fun e w' h => ⟨⟨2, by decide, by decide, h.1⟩, h.2⟩
  · exact (len64_4 w).mono fun e w' h => ⟨⟨3, by decide, by decide, h.1⟩, h.2⟩
  · exact (len64_5 w).mono fun e w' h => ⟨⟨3, by decide, by decide, h.1⟩, h.2⟩
  · exact (len64_6 w).mono fun e w' h => ⟨⟨3, by decide, by decide, h.1⟩, h.2⟩
  · exact (len64_7 w).mono fun e w' h => ⟨⟨3, by decide, by decide, h.1⟩, h.2⟩
  · exact (len64_8 w).mono fun e w' h => ⟨⟨4, by decide, by decide, h.1⟩, h.2⟩
  · exact (len64_9 w).mono fun e w' h => ⟨⟨4, by decide, by decide, h.1⟩, h.2⟩
  · exact (len64_10 w).mono fun e w' h => ⟨⟨4, by decide, by decide, h.1⟩, h.2⟩
  · exact (len64_11 w).mono fun e w' h => ⟨⟨4, by decide, by decide, h.1⟩, h.2⟩
  · exact (len64_12 w).mono fun e w' h => ⟨⟨4, by decide, by decide, h.1⟩, h.2⟩
  · exact (len64_13 w).mono fun e w' h => ⟨⟨4, by decide, by decide, h.1⟩, h.2⟩
  · exact (len64_14 w).mono fun e w' h => ⟨⟨4, by decide, by decide, h.1⟩, h.2⟩
  · exact (len64_15 w).mono fun e w' h => ⟨⟨4, by decide, by decide, h.1⟩, h.2⟩
  · exact (len64_16 w).mono fun e w' h => ⟨⟨5, by decide, by decide, h.1⟩, h.2⟩
  · exact (len64_17 w).mono fun e w' h => ⟨⟨5, by decide, by decide, h.1⟩, h.2⟩
  · exact (len64_18 w).mono fun e w' h => ⟨⟨5, by decide, by decide, h.1⟩, h.2⟩
  · exact (len64_19 w).mono fun e w' h => ⟨⟨5, by decide, by decide, h.1⟩, h.2⟩
  · exact (len64_20 w).mono fun e w' h => ⟨⟨5, by decide, by decide, h.1⟩, h.2⟩
  · exact (len64_21 w).mono fun e w' h => ⟨⟨5, by decide, by decide, h.1⟩, h.2⟩
  · exact (len64_22 w).mono fun e w' h => ⟨⟨5, by decide, by decide, h.1⟩, h.2⟩
  · exact (len64_23 w).mono fun e w' h => ⟨⟨5, by decide, by decide, h.1⟩, h.2⟩
  · exact (len64_24 w).mono fun e w' h => ⟨⟨5, by decide, by decide, h.1⟩, h.2⟩
  · exact (len64_25 w).mono fun e w' h => ⟨⟨5, by decide, by decide, h.1⟩, h.2⟩
  · exact (len64_26 w).mono fun e w' h => ⟨⟨5, by decide, by decide, h.1⟩, h.2⟩
  · exact (len64_27 w).mono fun e w' h => ⟨⟨5, by decide, by decide, h.1⟩, h.2⟩
  · exact (len64_28 w).mono fun e w' h => ⟨⟨5, by decide, by decide, h.1⟩, h.2⟩
  · exact (len64_29 w).mono fun e w' h => ⟨⟨5, by decide, by decide, h.1⟩, h.2⟩
  · exact (len64_30 w).mono fun e w' h => ⟨⟨5, by decide, by decide, h.1⟩, h.2⟩
  · exact (len64_31 w).mono fun e w' h => ⟨⟨5, by decide, by decide, h.1⟩, h.2⟩
  · exact (len64_32 w).mono fun e w' h => ⟨⟨6, by decide, by decide, h.1⟩, h.2⟩

set_option maxHeartbeats 800000 in
set_option maxRecDepth 100000 in
theorem len_pos (n : Nat) (w : World) (hn8 : 2 ≤ n) (hn : n ≤ 32) :
    Calls Ybad.prog 16 #[.int .u64 n] w fun e w' => (∃ q : Int, 0 < q ∧ q ≤ 64 ∧ e = .returned (.int .i64 q)) ∧ w' = w := by
  go_enter Ybad.func16, Ybad.ntmps16
  go_wp2_with fail
  refine (len64_pos n w hn8 hn).mono ?_
  rintro e w1 ⟨⟨q, h0, h1, rfl⟩, rfl⟩
  go_wp2
  go_ret
  exact ⟨⟨q, h0, h1, rfl⟩, rfl⟩

set_option maxHeartbeats 1600000 in
set_option maxRecDepth 100000 in
theorem pdq_sorted (b off n c : Nat) (L : Int) (w : World) (hn1 : 1 ≤ n) (hn : n ≤ 32) (hL : 13 ≤ n → 0 < L) (hL64 : L ≤ 64) (hs : SR w b off n) :
    Calls Ybad.prog 15 #[.slice (some ⟨b, off, none⟩) n c, .int .i64 0, .int .i64 n, .int .i64 L] w fun e w' => e = .returned (.tuple #[]) ∧ Below w.heap.size w w' := by
  have HS := hid hs
  clear hs
  go_enter Ybad.func15, Ybad.ntmps15
  go_wp2
  refine wp_loop_rounds 1 ?_
  rw [rounds_succ]
  by_cases h12 : n ≤ 12
  · go_wp2_with fail
    refine (insertion_sorted b off n c w hn1 (by omega) HS.out).mono ?_
    rintro e w1 ⟨rfl, k, rfl⟩
    go_wp2
    refine bodyPost_ret (v := .tuple #[]) (by simp [results, Ybad.results15]) rfl ⟨rfl, below_drewN (Below.refl _ _) _⟩
  · have hL0 : 0 < L := hL (by omega)
    go_wp2_with fail
    refine (pivot_sorted b off n c w (by omega) (by omega) HS.out).mono ?_
    rintro e w1 ⟨⟨p, rfl⟩, k, rfl⟩
    go_wp2_with fail
    refine (nearly_sorted b off n c _ (by omega) (by omega) ((HS.out.below ((Below.refl _ w).alloc (Nat.le_refl _) _)).drewN _)).mono ?_
    rintro e w1 ⟨rfl, k, rfl⟩
    go_wp2
    refine bodyPost_ret (v := .tuple #[]) (by simp [results, Ybad.results15]) rfl ⟨rfl, below_drewN ((Below.refl _ w).alloc (Nat.le_refl _) _) _⟩

set_option maxHeartbeats 1600000 in
set_option maxRecDepth 100000 in
theorem sort_sorted (b off n c : Nat) (w : World) (hn1 : 2 ≤ n) (hn : n ≤ 32) (hs : SR w b off n) :
    Calls Ybad.prog 7 #[.slice (some ⟨b, off, none⟩) n c] w fun e w' => e = .returned (.tuple #[]) ∧ Below w.heap.size w w' := by
  have HS := hid hs
  clear hs
  go_enter Ybad.func7, Ybad.ntmps7
  go_wp2_with fail
  refine (len_pos n w hn1 hn).mono ?_
  rintro e w1 ⟨⟨q, h0, h1, rfl⟩, rfl⟩
  go_wp2_with fail
  refine (pdq_sorted b off n c q _ (by omega) hn (fun _ => h0) h1 HS.out).mono ?_
  rintro e w1 ⟨rfl, hb⟩
  go_wp2
  go_end0
  exact ⟨rfl, hb⟩
end Go.Proofs.YbulkdammDoor
