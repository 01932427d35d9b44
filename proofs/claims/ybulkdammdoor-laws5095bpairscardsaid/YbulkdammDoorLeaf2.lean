import Derived.Test.YbulkdammDoorLeaf
namespace Go.Proofs.YbulkdammDoor
open Go.RowKit
set_option linter.unusedVariables false

set_option maxHeartbeats 1600000 in
set_option maxRecDepth 100000 in
theorem compact_sorted (b off n c : Nat) (w : World) (hn : n ≤ 1000) (hs : SR w b off n) :
    Calls Ybad.prog 8 #[.slice (some ⟨b, off, none⟩) n c] w fun e w' => e = .returned (.slice (some ⟨b, off, none⟩) n c) ∧ ∃ k, w' = w.drewN k := by
  have HS := hid hs
  clear hs
  by_cases h2 : n < 2
  · go_enter Ybad.func8, Ybad.ntmps8
    go_wp2
    go_ret
    exact ⟨rfl, 0, rfl⟩
  · go_enter Ybad.func8, Ybad.ntmps8
    go_wp2
    go_loopw [3] (fun i wr => ∃ k q : Nat, 1 ≤ k ∧ k ≤ n ∧ i = .int .i64 k ∧ wr = w.drewN q) (fun i _ => n - (intOf i).toNat)
    case atStart => exact ⟨1, 0, by omega, by omega, rfl, rfl⟩
    case round =>
      obtain ⟨k, q, hk1, hk, rfl, rfl⟩ := hrel
      by_cases hlt : k < n
      · obtain ⟨m, rfl⟩ : ∃ m, k = m + 1 := ⟨k - 1, by omega⟩
        have c1 := HS.out (m + 1) hlt
        have c0 := HS.out m (by omega)
        have b0 : (0 : Int) ≤ (m : Int) := by omega
        have b1 : (m : Int) + 1 < (n : Int) := by omega
        have b2 : (m : Int) < (n : Int) := by omega
        go_wp2
        go_quiet (fail)
        go_wp2
        exact ⟨⟨m + 2, _, by omega, by omega, by go_num, rfl⟩, by simp [intOf]; omega⟩
      · go_wp2
        go_ret
        exact ⟨rfl, _, rfl⟩

set_option maxHeartbeats 1600000 in
set_option maxRecDepth 100000 in
theorem binsearch_no (b off n c : Nat) (x : Int) (w : World) (hn : n ≤ 1000) (hs : SR w b off n) (hx : (n : Int) ≤ x) (hx2 : x ≤ 1000) :
    Calls Ybad.prog 14 #[.slice (some ⟨b, off, none⟩) n c, .int .i32 x] w fun e w' => e = .returned (.tuple #[.int .i64 n, .bool false]) ∧ w' = w := by
  have HS := hid hs
  clear hs
  go_enter Ybad.func14, Ybad.ntmps14
  go_wp2
  go_loopw [7, 8] (fun i j wr => ∃ k : Nat, k ≤ n ∧ i = .int .i64 k ∧ j = .int .i64 n ∧ wr = w) (fun i _ _ => n - (intOf i).toNat)
  case atStart => exact ⟨0, by omega, rfl, rfl, rfl⟩
  case round =>
    obtain ⟨k, hk, rfl, rfl, rfl⟩ := hrel
    by_cases hlt : k < n
    · obtain ⟨m, hm⟩ : ∃ m : Nat, (k + n) / 2 = m := ⟨_, rfl⟩
      have c1 := HS.out m (by omega)
      have b2 : (m : Int) < (n : Int) := by omega
      go_wp2_with fail
      refine (less_yes _ _ _ (by omega)).mono ?_
      rintro e w1 ⟨rfl, rfl⟩
      go_wp2
      exact ⟨⟨(k + n) / 2 + 1, by omega, by go_num, by simp⟩, by simp [intOf]; omega⟩
    · have hkn : k = n := by omega
      subst hkn
      go_wp2
      go_ret2
      exact ⟨by simp, rfl⟩
end Go.Proofs.YbulkdammDoor
