import Derived.Test.YbulkdakwClone
namespace Go.Proofs.Ybulkdakw
open Go.RowKit
set_option linter.unusedVariables false

set_option maxHeartbeats 800000 in
set_option maxRecDepth 100000 in
theorem find_any (E Cb n c : Nat) (L : List (List Int)) (ov : Value) (ys : List Int) (w : World) (hn : n ≤ 1024) (hlen : ∀ i, i < n → (L.getD i []).length ≤ 1024) (hy : ys.length ≤ 1024)
    (hc : w.cell? ⟨Cb, 41, none⟩ = some (.slice (some ⟨E, 0, none⟩) n c)) (ho : Sl E w ov ys)
    (hid0 : ∀ i, i < n → ∃ v, w.cell? ⟨E, i * 3, none⟩ = some v ∧ Sl E w v (L.getD i [])) :
    Calls Yba.prog 5 #[.pointer (some ⟨Cb, 0, none⟩), ov] w fun e w' => (∃ k, w' = w.drewN k) ∧
      ((∃ i, i < n ∧ L.getD i [] = ys ∧ (∀ j, j < i → L.getD j [] ≠ ys) ∧ e = .returned (.pointer (some ⟨E, i * 3, none⟩))) ∨ ((∀ j, j < n → L.getD j [] ≠ ys) ∧ e = .returned (.pointer none))) := by
  have HLen := hid hlen
  have HO := hid ho
  have HI := hid hid0
  clear hlen ho hid0
  go_enter Yba.func5, Yba.ntmps5
  go_wp2
  go_loopw [11] (fun cc wr => ∃ k q : Nat, k ≤ n ∧ cc = .int .i64 k ∧ (∀ j, j < k → L.getD j [] ≠ ys) ∧ wr = w.drewN q) (fun cc _ => n - (intOf cc).toNat)
  case atStart => exact ⟨0, 0, by omega, rfl, by intro j hj; omega, rfl⟩
  case round =>
    obtain ⟨k, q, hk, rfl, hpre, rfl⟩ := hrel
    have HP := hid hpre
    clear hpre
    by_cases hlt : k < n
    · obtain ⟨v, hv, hs⟩ := HI.out k hlt
      have hs2 : Sl E (w.drewN q) v (L.getD k []) := hs
      have ho2 : Sl E (w.drewN q) ov ys := HO.out
      have b0 : (0 : Int) ≤ (k : Int) := by omega
      have b1' : (k : Int) < (n : Int) := by omega
      have HS := hid hs2
      have HO2 := hid ho2
      clear hs hs2 ho2
      by_cases he : L.getD k [] = ys
      · have hdec : decide (L.getD k [] = ys) = true := by rw [decide_eq_true_iff]; exact he
        have HE := hid he
        have HDec := hid hdec
        clear he hdec
        go_wp2_with (go_at_call 7; refine (eq7_any HS.out HO2.out (HLen.out k hlt) hy).mono ?_; rw [HDec.out]; rintro e w1 ⟨rfl, k1, rfl⟩)
        go_ret
        exact ⟨⟨_, rfl⟩, Or.inl ⟨k, hlt, HE.out, HP.out, rfl⟩⟩
      · have hdec : decide (L.getD k [] = ys) = false := by rw [decide_eq_false_iff_not]; exact he
        have HE := hid he
        have HDec := hid hdec
        clear he hdec
        go_wp2_with (go_at_call 7; refine (eq7_any HS.out HO2.out (HLen.out k hlt) hy).mono ?_; rw [HDec.out]; rintro e w1 ⟨rfl, k1, rfl⟩)
        refine ⟨⟨k + 1, _, by omega, by go_num, fun j hj => ?_, rfl⟩, by simp [intOf]; omega⟩
        by_cases hjk : j < k
        · exact HP.out j hjk
        · have : j = k := by omega
          subst this
          exact HE.out
    · have hkn : k = n := by omega
      subst hkn
      go_wp2
      go_ret
      exact ⟨⟨_, rfl⟩, Or.inr ⟨HP.out, rfl⟩⟩
end Go.Proofs.Ybulkdakw
