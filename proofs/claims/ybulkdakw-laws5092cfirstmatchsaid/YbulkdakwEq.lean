import Derived.Test.YbulkdakwSl
namespace Go.Proofs.Ybulkdakw
open Go.RowKit
set_option linter.unusedVariables false

theorem list_eq_of (xs ys : List Int) (h : xs.length = ys.length) (hj : ∀ j, j < xs.length → xs.getD j 0 = ys.getD j 0) : xs = ys := by
  apply List.ext_getElem h
  intro i h1 h2
  have := hj i h1
  simpa [h1, h2] using this

set_option maxHeartbeats 1600000 in
set_option maxRecDepth 100000 in
theorem eq6_some (b1 o1 b2 o2 n c1 c2 : Nat) (xs ys : List Int) (w : World) (hn : n ≤ 1024) (hx : n = xs.length) (hy : n = ys.length)
    (h1 : ∀ j, j < n → w.cell? ⟨b1, o1 + j, none⟩ = some (.int .i64 (xs.getD j 0))) (h2 : ∀ j, j < n → w.cell? ⟨b2, o2 + j, none⟩ = some (.int .i64 (ys.getD j 0))) :
    Calls Yba.prog 6 #[.slice (some ⟨b1, o1, none⟩) n c1, .slice (some ⟨b2, o2, none⟩) n c2] w fun e w' => e = .returned (.bool (decide (xs = ys))) ∧ ∃ k, w' = w.drewN k := by
  have HX : Hid (n = xs.length) := hx
  have HY : Hid (n = ys.length) := hy
  have H1 := hid h1
  have H2 := hid h2
  clear hx hy h1 h2
  go_enter Yba.func6, Yba.ntmps6
  go_wp2
  go_loopw [13] (fun c wr => ∃ k q : Nat, k ≤ n ∧ c = .int .i64 k ∧ (∀ j, j < k → xs.getD j 0 = ys.getD j 0) ∧ wr = w.drewN q) (fun c _ => n - (intOf c).toNat)
  case atStart => exact ⟨0, 0, by omega, rfl, by intro j hj; omega, rfl⟩
  case round =>
    obtain ⟨k, q, hk, rfl, hpre, rfl⟩ := hrel
    have HP := hid hpre
    clear hpre
    by_cases hlt : k < n
    · obtain ⟨x, hx⟩ : ∃ x, xs.getD k 0 = x := ⟨_, rfl⟩
      obtain ⟨y, hy⟩ : ∃ y, ys.getD k 0 = y := ⟨_, rfl⟩
      have k1 := H1.out k hlt
      have k2 := H2.out k hlt
      rw [hx] at k1
      rw [hy] at k2
      have b0 : (0 : Int) ≤ (k : Int) := by omega
      have b1' : (k : Int) < (n : Int) := by omega
      have EX := hid hx
      have EY := hid hy
      clear hx hy
      by_cases he : x = y
      · subst he
        go_wp2
        go_quiet (fail)
        go_wp2
        refine ⟨⟨k + 1, _, by omega, by go_num, fun j hj => ?_, rfl⟩, by simp [intOf]; omega⟩
        by_cases hjk : j < k
        · exact HP.out j hjk
        · have : j = k := by omega
          subst this
          rw [EX.out, EY.out]
      · have hne : (x == y) = false := by rw [beq_eq_false_iff_ne]; exact he
        have hdec : decide (xs = ys) = false := by
          rw [decide_eq_false_iff_not]
          intro e
          apply he
          rw [← EX.out, ← EY.out, e]
        have HDec := hid hdec
        clear hdec
        go_wp2
        go_quiet (fail)
        go_wp2
        go_ret
        exact ⟨by rw [HDec.out]; rfl, _, World.drewN_drewN _ _ _⟩
    · have hkn : k = n := by omega
      subst hkn
      have hdec : decide (xs = ys) = true := by
        rw [decide_eq_true_iff]
        exact list_eq_of xs ys (by rw [← HX.out, ← HY.out]) (fun j hj => HP.out j (by have := HX.out; omega))
      have HDec := hid hdec
      clear hdec
      go_wp2
      go_ret
      exact ⟨by rw [HDec.out]; rfl, _, rfl⟩

set_option maxHeartbeats 1600000 in
set_option maxRecDepth 100000 in
theorem eq6_zero (a1 a2 : Option Addr) (c1 c2 : Nat) (w : World) :
    Calls Yba.prog 6 #[.slice a1 0 c1, .slice a2 0 c2] w fun e w' => e = .returned (.bool true) ∧ ∃ k, w' = w.drewN k := by
  go_enter Yba.func6, Yba.ntmps6
  go_wp2
  refine wp_loop_rounds 1 ?_
  rw [rounds_succ]
  go_wp2
  go_ret
  exact ⟨rfl, 0, rfl⟩

set_option maxHeartbeats 1600000 in
set_option maxRecDepth 100000 in
theorem eq6_ne (a1 a2 : Option Addr) (n1 n2 c1 c2 : Nat) (w : World) (hn1 : n1 ≤ 1024) (hn2 : n2 ≤ 1024) (hne : n1 ≠ n2) :
    Calls Yba.prog 6 #[.slice a1 n1 c1, .slice a2 n2 c2] w fun e w' => e = .returned (.bool false) ∧ ∃ k, w' = w.drewN k := by
  have hb : ((n1 : Int) == (n2 : Int)) = false := by rw [beq_eq_false_iff_ne]; omega
  go_enter Yba.func6, Yba.ntmps6
  go_wp2
  go_ret
  exact ⟨rfl, 0, rfl⟩

theorem eq6_any {E : Nat} {w : World} {v1 v2 : Value} {xs ys : List Int} (h1 : Sl E w v1 xs) (h2 : Sl E w v2 ys) (hx : xs.length ≤ 1024) (hy : ys.length ≤ 1024) :
    Calls Yba.prog 6 #[v1, v2] w fun e w' => e = .returned (.bool (decide (xs = ys))) ∧ ∃ k, w' = w.drewN k := by
  obtain ⟨a1, n1, c1, rfl, e1, _, g1⟩ := h1
  obtain ⟨a2, n2, c2, rfl, e2, _, g2⟩ := h2
  by_cases hne : n1 = n2
  · subst hne
    rcases g1 with rfl | ⟨b1, o1, rfl, _, k1⟩
    · have h1 : xs = [] := List.eq_nil_of_length_eq_zero e1.symm
      have h2 : ys = [] := List.eq_nil_of_length_eq_zero e2.symm
      subst h1
      subst h2
      exact eq6_zero a1 a2 c1 c2 w
    · rcases g2 with rfl | ⟨b2, o2, rfl, _, k2⟩
      · have h1 : xs = [] := List.eq_nil_of_length_eq_zero e1.symm
        have h2 : ys = [] := List.eq_nil_of_length_eq_zero e2.symm
        subst h1
        subst h2
        exact eq6_zero _ a2 c1 c2 w
      · exact eq6_some b1 o1 b2 o2 n1 c1 c2 xs ys w (by omega) e1 e2 k1 k2
  · have hd : decide (xs = ys) = false := by
      rw [decide_eq_false_iff_not]
      rintro rfl
      omega
    rw [hd]
    exact eq6_ne a1 a2 n1 n2 c1 c2 w (by omega) (by omega) hne

set_option maxHeartbeats 1600000 in
set_option maxRecDepth 100000 in
theorem eq8_some (b1 o1 b2 o2 n c1 c2 : Nat) (xs ys : List Int) (w : World) (hn : n ≤ 1024) (hx : n = xs.length) (hy : n = ys.length)
    (h1 : ∀ j, j < n → w.cell? ⟨b1, o1 + j, none⟩ = some (.int .i64 (xs.getD j 0))) (h2 : ∀ j, j < n → w.cell? ⟨b2, o2 + j, none⟩ = some (.int .i64 (ys.getD j 0))) :
    Calls Yba.prog 8 #[.slice (some ⟨b1, o1, none⟩) n c1, .slice (some ⟨b2, o2, none⟩) n c2] w fun e w' => e = .returned (.bool (decide (xs = ys))) ∧ ∃ k, w' = w.drewN k := by
  have HX : Hid (n = xs.length) := hx
  have HY : Hid (n = ys.length) := hy
  have H1 := hid h1
  have H2 := hid h2
  clear hx hy h1 h2
  go_enter Yba.func8, Yba.ntmps8
  go_wp2
  go_loopw [13] (fun c wr => ∃ k q : Nat, k ≤ n ∧ c = .int .i64 k ∧ (∀ j, j < k → xs.getD j 0 = ys.getD j 0) ∧ wr = w.drewN q) (fun c _ => n - (intOf c).toNat)
  case atStart => exact ⟨0, 0, by omega, rfl, by intro j hj; omega, rfl⟩
  case round =>
    obtain ⟨k, q, hk, rfl, hpre, rfl⟩ := hrel
    have HP := hid hpre
    clear hpre
    by_cases hlt : k < n
    · obtain ⟨x, hx⟩ : ∃ x, xs.getD k 0 = x := ⟨_, rfl⟩
      obtain ⟨y, hy⟩ : ∃ y, ys.getD k 0 = y := ⟨_, rfl⟩
      have k1 := H1.out k hlt
      have k2 := H2.out k hlt
      rw [hx] at k1
      rw [hy] at k2
      have b0 : (0 : Int) ≤ (k : Int) := by omega
      have b1' : (k : Int) < (n : Int) := by omega
      have EX := hid hx
      have EY := hid hy
      clear hx hy
      by_cases he : x = y
      · subst he
        go_wp2
        go_quiet (fail)
        go_wp2
        refine ⟨⟨k + 1, _, by omega, by go_num, fun j hj => ?_, rfl⟩, by simp [intOf]; omega⟩
        by_cases hjk : j < k
        · exact HP.out j hjk
        · have : j = k := by omega
          subst this
          rw [EX.out, EY.out]
      · have hne : (x == y) = false := by rw [beq_eq_false_iff_ne]; exact he
        have hdec : decide (xs = ys) = false := by
          rw [decide_eq_false_iff_not]
          intro e
          apply he
          rw [← EX.out, ← EY.out, e]
        have HDec := hid hdec
        clear hdec
        go_wp2
        go_quiet (fail)
        go_wp2
        go_ret
        exact ⟨by rw [HDec.out]; rfl, _, World.drewN_drewN _ _ _⟩
    · have hkn : k = n := by omega
      subst hkn
      have hdec : decide (xs = ys) = true := by
        rw [decide_eq_true_iff]
        exact list_eq_of xs ys (by rw [← HX.out, ← HY.out]) (fun j hj => HP.out j (by have := HX.out; omega))
      have HDec := hid hdec
      clear hdec
      go_wp2
      go_ret
      exact ⟨by rw [HDec.out]; rfl, _, rfl⟩

set_option maxHeartbeats 1600000 in
set_option maxRecDepth 100000 in
theorem eq8_zero (a1 a2 : Option Addr) (c1 c2 : Nat) (w : World) :
    Calls Yba.prog 8 #[.slice a1 0 c1, .slice a2 0 c2] w fun e w' => e = .returned (.bool true) ∧ ∃ k, w' = w.drewN k := by
  go_enter Yba.func8, Yba.ntmps8
  go_wp2
  refine wp_loop_rounds 1 ?_
  rw [rounds_succ]
  go_wp2
  go_ret
  exact ⟨rfl, 0, rfl⟩

set_option maxHeartbeats 1600000 in
set_option maxRecDepth 100000 in
theorem eq8_ne (a1 a2 : Option Addr) (n1 n2 c1 c2 : Nat) (w : World) (hn1 : n1 ≤ 1024) (hn2 : n2 ≤ 1024) (hne : n1 ≠ n2) :
    Calls Yba.prog 8 #[.slice a1 n1 c1, .slice a2 n2 c2] w fun e w' => e = .returned (.bool false) ∧ ∃ k, w' = w.drewN k := by
  have hb : ((n1 : Int) == (n2 : Int)) = false := by rw [beq_eq_false_iff_ne]; omega
  go_enter Yba.func8, Yba.ntmps8
  go_wp2
  go_ret
  exact ⟨rfl, 0, rfl⟩

theorem eq8_any {E : Nat} {w : World} {v1 v2 : Value} {xs ys : List Int} (h1 : Sl E w v1 xs) (h2 : Sl E w v2 ys) (hx : xs.length ≤ 1024) (hy : ys.length ≤ 1024) :
    Calls Yba.prog 8 #[v1, v2] w fun e w' => e = .returned (.bool (decide (xs = ys))) ∧ ∃ k, w' = w.drewN k := by
  obtain ⟨a1, n1, c1, rfl, e1, _, g1⟩ := h1
  obtain ⟨a2, n2, c2, rfl, e2, _, g2⟩ := h2
  by_cases hne : n1 = n2
  · subst hne
    rcases g1 with rfl | ⟨b1, o1, rfl, _, k1⟩
    · have h1 : xs = [] := List.eq_nil_of_length_eq_zero e1.symm
      have h2 : ys = [] := List.eq_nil_of_length_eq_zero e2.symm
      subst h1
      subst h2
      exact eq8_zero a1 a2 c1 c2 w
    · rcases g2 with rfl | ⟨b2, o2, rfl, _, k2⟩
      · have h1 : xs = [] := List.eq_nil_of_length_eq_zero e1.symm
        have h2 : ys = [] := List.eq_nil_of_length_eq_zero e2.symm
        subst h1
        subst h2
        exact eq8_zero _ a2 c1 c2 w
      · exact eq8_some b1 o1 b2 o2 n1 c1 c2 xs ys w (by omega) e1 e2 k1 k2
  · have hd : decide (xs = ys) = false := by
      rw [decide_eq_false_iff_not]
      rintro rfl
      omega
    rw [hd]
    exact eq8_ne a1 a2 n1 n2 c1 c2 w (by omega) (by omega) hne

set_option maxHeartbeats 800000 in
theorem eq7_any {E : Nat} {w : World} {v1 v2 : Value} {xs ys : List Int} (h1 : Sl E w v1 xs) (h2 : Sl E w v2 ys) (hx : xs.length ≤ 1024) (hy : ys.length ≤ 1024) :
    Calls Yba.prog 7 #[v1, v2] w fun e w' => e = .returned (.bool (decide (xs = ys))) ∧ ∃ k, w' = w.drewN k := by
  go_enter Yba.func7, Yba.ntmps7
  go_wp2_with fail
  refine (eq8_any h1 h2 hx hy).mono ?_
  rintro e w1 ⟨rfl, k, rfl⟩
  go_wp2
  go_ret
  exact ⟨rfl, k, rfl⟩
end Go.Proofs.Ybulkdakw
