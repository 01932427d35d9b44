import Derived.Test.YbulkdammLeaf
namespace Go.Proofs.Ybulkdamm
open Go.RowKit
set_option linter.unusedVariables false

def cmpI (a b : Int) : Int := if a < b then -1 else if b < a then 1 else 0

set_option maxHeartbeats 800000 in
set_option maxRecDepth 100000 in
theorem compare_any (a b : Int) (w : World) : Calls Yba.prog 23 #[.int .i32 a, .int .i32 b] w fun e w' => e = .returned (.int .i64 (cmpI a b)) ∧ w' = w := by
  by_cases h1 : a < b
  · go_enter Yba.func23, Yba.ntmps23
    go_wp2
    go_ret
    exact ⟨by simp [cmpI, h1], rfl⟩
  · by_cases h2 : b < a
    · go_enter Yba.func23, Yba.ntmps23
      go_wp2
      go_ret
      exact ⟨by simp [cmpI, h1, h2], rfl⟩
    · have hc : cmpI a b = 0 := by rw [cmpI, if_neg h1, if_neg h2]
      go_enter Yba.func23, Yba.ntmps23
      go_wp2
      go_ret
      exact ⟨rfl, rfl⟩

set_option maxHeartbeats 800000 in
set_option maxRecDepth 100000 in
theorem cmpHi_any (a b c : Int) (w : World) : Calls Yba.prog 37 #[.agg #[.int .i32 a, .int .i32 b], .int .i32 c] w fun e w' => e = .returned (.int .i64 (cmpI b c)) ∧ w' = w.alloc (.cells #[.int .i32 a, .int .i32 b] 84) := by
  go_enter Yba.func37, Yba.ntmps37
  go_wp2_with fail
  refine (compare_any b c _).mono ?_
  rintro e w1 ⟨rfl, rfl⟩
  go_wp2
  go_ret
  exact ⟨by simp, rfl⟩

/-- The runs of code points, in the block R from its head on. -/
def RunsAt (w : World) (R n : Nat) (lo hi : Nat → Int) : Prop := ∀ i, i < n → w.cell? ⟨R, i * 2, none⟩ = some (.int .i32 (lo i)) ∧ w.cell? ⟨R, i * 2 + 1, none⟩ = some (.int .i32 (hi i))
theorem RunsAt.below {w w' : World} {R n : Nat} {lo hi : Nat → Int} (h : RunsAt w R n lo hi) (hb : Below w.heap.size w w') : RunsAt w' R n lo hi := fun i hi =>
  ⟨by rw [hb.cell (block_lt_of_cell (h i hi).1)]; exact (h i hi).1, by rw [hb.cell (block_lt_of_cell (h i hi).2)]; exact (h i hi).2⟩

set_option maxHeartbeats 1600000 in
set_option maxRecDepth 100000 in
theorem search_any (R n cap : Nat) (lo hi : Nat → Int) (c : Int) (w : World) (hn : n ≤ 5000) (hR : RunsAt w R n lo hi) (hm : ∀ i j, i < j → j < n → hi i < hi j) :
    Calls Yba.prog 36 #[.slice (some ⟨R, 0, none⟩) n cap, .int .i32 c, .func (.func 37) #[] #[]] w fun e w' => Below w.heap.size w w' ∧ ∃ (k : Nat) (b : Bool), e = .returned (.tuple #[.int .i64 k, .bool b]) ∧ k ≤ n ∧ (∀ i, i < k → hi i < c) ∧ (k < n → c ≤ hi k) := by
  have HR := hid hR
  have HM := hid hm
  clear hR hm
  go_enter Yba.func36, Yba.ntmps36
  go_wp2
  go_loopw [9, 10] (fun i j wr => ∃ a b : Nat, a ≤ b ∧ b ≤ n ∧ i = .int .i64 a ∧ j = .int .i64 b ∧ Below w.heap.size w wr ∧ (∀ x, x < a → hi x < c) ∧ (∀ x, b ≤ x → x < n → c ≤ hi x)) (fun i j _ => (intOf j).toNat - (intOf i).toNat)
  case atStart => exact ⟨0, n, by omega, by omega, rfl, rfl, Below.refl _ _, fun x hx => by omega, fun x h1 h2 => by omega⟩
  case round =>
    obtain ⟨a, b, hab, hbn, rfl, rfl, hbel, hlt, hge⟩ := hrel
    have HB := hid hbel
    have HL := hid hlt
    have HG := hid hge
    clear hbel hlt hge
    by_cases h : a < b
    · obtain ⟨m, hm⟩ : ∃ m : Nat, (a + b) / 2 = m := ⟨_, rfl⟩
      obtain ⟨q1, q2⟩ := (HR.out.below HB.out) m (by omega)
      have b2 : (m : Int) < (n : Int) := by omega
      by_cases hc : hi m < c
      · go_wp2_with fail
        refine (cmpHi_any (lo m) (hi m) c _).mono ?_
        rintro e w1 ⟨rfl, rfl⟩
        have hcm : cmpI (hi m) c = -1 := by simp [cmpI, hc]
        rw [hcm]
        go_wp2
        refine ⟨⟨(a + b) / 2 + 1, b, by omega, by omega, by go_num, by simp, HB.out.alloc HB.out.size _, fun x hx => ?_, HG.out⟩, by simp [intOf]; omega⟩
        by_cases e : x = m
        · subst e; exact hc
        · have := HM.out x m (by omega) (by omega); omega
      · have hcm : decide (cmpI (hi m) c < 0) = false := by rw [cmpI, if_neg hc]; split <;> rfl
        go_wp2_with fail
        refine (cmpHi_any (lo m) (hi m) c _).mono ?_
        rintro e w1 ⟨rfl, rfl⟩
        go_wp2
        refine ⟨⟨a, (a + b) / 2, by omega, by omega, by simp, by go_num, HB.out.alloc HB.out.size _, HL.out, fun x h1 h2 => ?_⟩, by simp [intOf]; omega⟩
        by_cases e : x = m
        · subst e; omega
        · have := HM.out m x (by omega) (by omega); omega
    · have hba : b = a := by omega
      subst hba
      by_cases hbn2 : b < n
      · obtain ⟨q1, q2⟩ := (HR.out.below HB.out) b hbn2
        have b2 : (b : Int) < (n : Int) := by omega
        go_wp2_with fail
        refine (cmpHi_any (lo b) (hi b) c _).mono ?_
        rintro e w1 ⟨rfl, rfl⟩
        go_wp2
        go_ret2
        exact ⟨HB.out.alloc HB.out.size _, b, _, rfl, by omega, HL.out, fun h => HG.out b (by omega) h⟩
      · have b2 : decide ((b : Int) < (n : Int)) = false := by simp; omega
        go_wp2
        go_ret2
        exact ⟨HB.out, b, _, rfl, by omega, HL.out, fun h => by omega⟩

set_option maxHeartbeats 1600000 in
set_option maxRecDepth 100000 in
/-- Covered: exactly when the code point lies in a run. -/
theorem covered_any (R n cap : Nat) (lo hi : Nat → Int) (c d : Int) (w : World) (hn : n ≤ 5000) (hR : RunsAt w R n lo hi) (hm : ∀ i j, i < j → j < n → hi i < lo j) (hl : ∀ i, i < n → lo i ≤ hi i) :
    Calls Yba.prog 24 #[.int .i32 c, .int .i32 d, .slice (some ⟨R, 0, none⟩) n cap] w fun e w' => Below w.heap.size w w' ∧ ∃ b : Bool, e = .returned (.bool b) ∧ (c = d → b = covN lo hi c n) := by
  have HR := hid hR
  have HM := hid hm
  have HL := hid hl
  clear hR hm hl
  go_enter Yba.func24, Yba.ntmps24
  go_wp2_with fail
  refine (search_any R n cap lo hi c w hn HR.out (fun i j h1 h2 => by have := HM.out i j h1 h2; have := HL.out j h2; omega)).mono ?_
  rintro e w1 ⟨hb, k, b, rfl, hk, h1, h2⟩
  have HB := hid hb
  have H1 := hid h1
  have H2 := hid h2
  clear hb h1 h2
  by_cases hkn : k < n
  · obtain ⟨q1, q2⟩ := (HR.out.below HB.out) k hkn
    have b2 : (k : Int) < (n : Int) := by omega
    have hck := H2.out hkn
    by_cases hA : lo k ≤ c
    · have dA : decide (lo k ≤ c) = true := by simpa using hA
      go_wp2
      go_ret
      refine ⟨HB.out, _, rfl, fun e => ?_⟩
      subst e
      rw [covN_true hkn ⟨hA, hck⟩]
      simpa using hck
    · have dA : decide (lo k ≤ c) = false := by simpa using hA
      go_wp2
      go_ret
      refine ⟨HB.out, _, rfl, fun e => ?_⟩
      symm
      apply covN_false
      intro i hi h3
      by_cases hik : i < k
      · have := H1.out i hik; omega
      · by_cases e2 : i = k
        · subst e2; omega
        · have := HM.out k i (by omega) hi; omega
  · have b2 : decide ((k : Int) < (n : Int)) = false := by simp; omega
    go_wp2
    go_ret
    refine ⟨HB.out, _, rfl, fun e => ?_⟩
    symm
    apply covN_false
    intro i hi h3
    have := H1.out i (by omega)
    omega
end Go.Proofs.Ybulkdamm
