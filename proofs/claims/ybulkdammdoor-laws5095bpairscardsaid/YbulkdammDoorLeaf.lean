import Derived.Test.YbulkdammDoorRows
import Derived.WalkKit
import Derived.WalkLawsBesides
import Derived.WalkSpells
import Derived.Deep.AppendLies
import Derived.Outline
import Derived.Deep.QuietTactic
import Derived.BigQuiet
import Derived.RegionTactic
namespace Go.Proofs.YbulkdammDoor
open Go.RowKit
set_option linter.unusedVariables false

theorem hid {p : Prop} (h : p) : Hid p := h
theorem below_drewN {B : Nat} {a w : World} (h : Below B a w) (k : Nat) : Below B a (w.drewN k) := ⟨h.os, h.tape, h.output, h.size, h.block⟩

/-- The row 0, 1, .., n - 1 in block b, from off on. -/
def SR (w : World) (b off n : Nat) : Prop := ∀ j, j < n → w.cell? ⟨b, off + j, none⟩ = some (.int .i32 j)

/-- A contract met in the middle of a region that draws. -/
theorem quiet_add {f : FuncId} {args : Array Value} {W : World} {q x : Nat} {v : Value} (h : Calls Ybad.prog f args (W.drewN (q + x)) fun e w' => e = .returned v ∧ w' = W.drewN (q + x)) :
    Calls Ybad.prog f args (W.drewN (q + x)) fun e w'' => e = .returned v ∧ ∃ n, w'' = W.drewN (q + n) :=
  h.mono fun _ _ ⟨he, hm⟩ => ⟨he, x, hm⟩

set_option maxHeartbeats 400000 in
theorem less_no (x y : Int) (w : World) (h : ¬ x < y) : Calls Ybad.prog 18 #[.int .i32 x, .int .i32 y] w fun e w' => e = .returned (.bool false) ∧ w' = w := by
  go_enter Ybad.func18, Ybad.ntmps18
  go_wp2
  go_ret
  exact ⟨by simp, rfl⟩

set_option maxHeartbeats 400000 in
theorem less_yes (x y : Int) (w : World) (h : x < y) : Calls Ybad.prog 18 #[.int .i32 x, .int .i32 y] w fun e w' => e = .returned (.bool true) ∧ w' = w := by
  go_enter Ybad.func18, Ybad.ntmps18
  go_wp2
  go_ret
  exact ⟨by simp, rfl⟩

set_option maxHeartbeats 800000 in
set_option maxRecDepth 100000 in
theorem insertion_sorted (b off n c : Nat) (w : World) (hn1 : 1 ≤ n) (hn : n ≤ 1000) (hs : SR w b off n) :
    Calls Ybad.prog 20 #[.slice (some ⟨b, off, none⟩) n c, .int .i64 0, .int .i64 n] w fun e w' => e = .returned (.tuple #[]) ∧ ∃ k, w' = w.drewN k := by
  have HS := hid hs
  clear hs
  go_enter Ybad.func20, Ybad.ntmps20
  go_wp2
  go_loopw [6] (fun i wr => ∃ k q : Nat, 1 ≤ k ∧ k ≤ n ∧ i = .int .i64 k ∧ wr = w.drewN q) (fun i _ => n - (intOf i).toNat)
  case atStart => exact ⟨1, 0, by omega, by omega, rfl, rfl⟩
  case round =>
    obtain ⟨k, q, hk1, hk, rfl, rfl⟩ := hrel
    by_cases hlt : k < n
    · obtain ⟨m, rfl⟩ : ∃ m, k = m + 1 := ⟨k - 1, by omega⟩
      have c1 := HS.out (m + 1) hlt
      have c0 := HS.out m (by omega)
      have b0 : (0 : Int) ≤ (m : Int) := by omega
      have b1 : (m : Int) + 1 < (n : Int) := by omega
      have b2 : (m : Int) < (n : Int) := by omega
      go_wp2
      refine wp_loop_rounds 1 ?_
      rw [rounds_succ]
      go_wp2
      go_quiet (first | (go_at_call 18; exact quiet_add (less_no _ _ _ (by omega))))
      go_wp2
      exact ⟨⟨m + 2, _, by omega, by omega, by go_num, rfl⟩, by simp [intOf]; omega⟩
    · go_wp2
      go_end0
      exact ⟨rfl, _, rfl⟩

set_option maxHeartbeats 800000 in
set_option maxRecDepth 100000 in
theorem nearly_sorted (b off n c : Nat) (w : World) (hn1 : 1 ≤ n) (hn : n ≤ 1000) (hs : SR w b off n) :
    Calls Ybad.prog 25 #[.slice (some ⟨b, off, none⟩) n c, .int .i64 0, .int .i64 n] w fun e w' => e = .returned (.bool true) ∧ ∃ k, w' = w.drewN k := by
  have HS := hid hs
  clear hs
  go_enter Ybad.func25, Ybad.ntmps25
  go_wp2
  refine wp_loop_rounds 1 ?_
  rw [rounds_succ]
  go_wp2
  go_loopw [7] (fun i wr => ∃ k q : Nat, 1 ≤ k ∧ k ≤ n ∧ i = .int .i64 k ∧ wr = w.drewN q) (fun i _ => n - (intOf i).toNat)
  case atStart => exact ⟨1, 0, by omega, by omega, rfl, rfl⟩
  case round =>
    obtain ⟨k, q, hk1, hk, rfl, rfl⟩ := hrel
    by_cases hlt : k < n
    · obtain ⟨m, rfl⟩ : ∃ m, k = m + 1 := ⟨k - 1, by omega⟩
      have c1 := HS.out (m + 1) hlt
      have c0 := HS.out m (by omega)
      have b0 : (0 : Int) ≤ (m : Int) := by omega
      have b1 : (m : Int) + 1 < (n : Int) := by omega
      have b2 : (m : Int) < (n : Int) := by omega
      go_wp2
      go_quiet (first | (go_at_call 18; exact quiet_add (less_no _ _ _ (by omega))))
      go_wp2
      exact ⟨⟨m + 2, _, by omega, by omega, by go_num, rfl⟩, by simp [intOf]; omega⟩
    · have hkn : k = n := by omega
      subst hkn
      have hd : decide ((k : Int) < (k : Int)) = false := by simp
      go_wp2
      go_quiet (fail)
      go_wp2
      go_ret
      exact ⟨rfl, _, rfl⟩

set_option maxHeartbeats 800000 in
set_option maxRecDepth 100000 in
theorem order2_sorted (b off n c : Nat) (i j : Int) (sp : Value) (w : World) (h0 : 0 ≤ i) (hij : i < j) (hjn : j < n) (hn : n ≤ 1000) (hs : SR w b off n) :
    Calls Ybad.prog 38 #[.slice (some ⟨b, off, none⟩) n c, .int .i64 i, .int .i64 j, sp] w fun e w' => e = .returned (.tuple #[.int .i64 i, .int .i64 j]) ∧ ∃ k, w' = w.drewN k := by
  have c0 := hs i.toNat (by omega)
  have c1 := hs j.toNat (by omega)
  rw [Int.toNat_of_nonneg h0] at c0
  rw [Int.toNat_of_nonneg (by omega)] at c1
  have hin : i < n := by omega
  have hj0 : 0 ≤ j := by omega
  clear hs
  go_enter Ybad.func38, Ybad.ntmps38
  go_wp2
  go_quiet (first | (go_at_call 18; exact Calls.quiet_of_same (less_no _ _ _ (by omega))))
  go_wp2
  go_ret2
  exact ⟨rfl, _, rfl⟩

theorem SR.drewN {w : World} {b off n : Nat} (h : SR w b off n) (k : Nat) : SR (w.drewN k) b off n := h
theorem SR.below {w w' : World} {b off n : Nat} (h : SR w b off n) (hb : Below w.heap.size w w') : SR w' b off n := fun j hj => by
  have := h j hj
  rw [hb.cell (block_lt_of_cell this)]; exact this

set_option maxHeartbeats 800000 in
set_option maxRecDepth 100000 in
theorem median_sorted (b off n c : Nat) (i j k : Int) (sp : Value) (w : World) (h0 : 0 ≤ i) (hij : i < j) (hjk : j < k) (hkn : k < n) (hn : n ≤ 1000) (hs : SR w b off n) :
    Calls Ybad.prog 36 #[.slice (some ⟨b, off, none⟩) n c, .int .i64 i, .int .i64 j, .int .i64 k, sp] w fun e w' => e = .returned (.int .i64 j) ∧ ∃ k, w' = w.drewN k := by
  have HS := hid hs
  clear hs
  go_enter Ybad.func36, Ybad.ntmps36
  go_wp2_with fail
  refine (order2_sorted b off n c i j sp w h0 hij (by omega) hn HS.out).mono ?_
  rintro e w1 ⟨rfl, k1, rfl⟩
  go_wp2_with fail
  refine (order2_sorted b off n c j k sp _ (by omega) hjk hkn hn (HS.out.drewN _)).mono ?_
  rintro e w1 ⟨rfl, k2, rfl⟩
  go_wp2_with fail
  refine (order2_sorted b off n c i j sp _ h0 hij (by omega) hn (HS.out.drewN _)).mono ?_
  rintro e w1 ⟨rfl, k3, rfl⟩
  go_wp2
  go_ret
  exact ⟨rfl, _, rfl⟩

set_option maxHeartbeats 800000 in
set_option maxRecDepth 100000 in
theorem pivot_sorted (b off n c : Nat) (w : World) (hn8 : 13 ≤ n) (hn : n ≤ 49) (hs : SR w b off n) :
    Calls Ybad.prog 23 #[.slice (some ⟨b, off, none⟩) n c, .int .i64 0, .int .i64 n] w fun e w' => (∃ p, e = .returned (.tuple #[.int .i64 p, .int .i64 1])) ∧ ∃ k, w' = (w.alloc (.cells #[.int .i64 0] 3)).drewN k := by
  have hs2 : SR (w.alloc (.cells #[.int .i64 0] 3)) b off n := hs.below ((Below.refl _ w).alloc (Nat.le_refl _) _)
  have HS := hid hs2
  obtain ⟨m, hm⟩ : ∃ m : Nat, (n : Int) / 4 = (m : Int) := ⟨n / 4, by omega⟩
  have hm3 : 3 ≤ m := by omega
  have hm4 : 4 * m ≤ n := by omega
  clear hs hs2
  go_enter Ybad.func23, Ybad.ntmps23
  go_wp2_with fail
  refine (median_sorted b off n c _ _ _ _ _ (by omega) (by omega) (by omega) (by omega) (by omega) HS.out).mono ?_
  rintro e w1 ⟨rfl, k1, rfl⟩
  go_wp2
  go_ret2
  exact ⟨⟨_, rfl⟩, _, rfl⟩
end Go.Proofs.YbulkdammDoor
