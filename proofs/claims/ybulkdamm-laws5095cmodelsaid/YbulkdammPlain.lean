import Derived.Test.YbulkdammOthers
namespace Go.Proofs.Ybulkdamm
open Go.RowKit
set_option linter.unusedVariables false

/-- Whether B cannot be listed. -/
def unl (g : G) : Bool := decide (0 < g.nB) && (g.rc || decide (64 < g.nB))
/-- Whether one of the first n words has a code point outside the ranges. -/
def anyD (g : G) : Nat → Bool
  | 0 => false
  | n + 1 => anyD g n || dw g n
def wantB (g : G) : Bool := decide (0 < g.nZ) && (unl g && !anyD g g.nB)
theorem anyD_true {g : G} {n j : Nat} (hj : j < n) (h : dw g j = true) : anyD g n = true := by
  induction n with
  | zero => omega
  | succ n ih =>
    by_cases e : j = n
    · subst e; simp [anyD, h]
    · simp [anyD, ih (by omega)]
theorem anyD_false {g : G} {n : Nat} (h : ∀ j, j < n → dw g j = false) : anyD g n = false := by
  induction n with
  | zero => rfl
  | succ n ih => simp [anyD, ih (fun j hj => h j (by omega)), h n (by omega)]

section
variable {g : G} (hS : Shape g)
include hS
theorem np1_le : g.np 1 ≤ g.nB + 1 := by rw [hS.n1]; split <;> omega
theorem np_le (a : Nat) (ha : a < 2) : g.np a ≤ 2000 := by
  have h1 := hS.bZ
  have h2 := hS.bB
  have h3 := np1_le hS
  match a, ha with
  | 0, _ => rw [hS.n0]; omega
  | 1, _ => omega
theorem prod0 (k : Nat) (hk : k < g.np 0) : g.st 0 k = 3 * k ∧ g.en 0 k = 3 * k + 2 ∧ g.nx (3 * k + 1) = 0 ∧ 3 * k + 2 < g.nS := by
  rw [hS.n0] at hk
  have hx2 := hS.x2
  by_cases h : k < g.nZ
  · obtain ⟨h1, h2, h3, h4⟩ := hS.z k h
    exact ⟨h1, h2, h4, by omega⟩
  · have e : k = g.nZ := by omega
    subst e
    obtain ⟨h1, h2, h3, h4⟩ := hS.x
    exact ⟨h1, h2, h4, hx2⟩
/-- A production of B: the terminal at its head, and whether B follows. -/
theorem prod1 (k : Nat) (hk : k < g.np 1) : ∃ j, j < g.nB ∧ g.nx (g.st 1 k) = -((g.nZ + j : Nat) : Int) - 1 ∧ ((k = j ∧ g.rc = true ∧ g.st 1 k + 2 < g.nS ∧ g.en 1 k = g.st 1 k + 2 ∧ g.nx (g.st 1 k + 1) = 1) ∨ ((k = j ∧ g.rc = false ∨ k = g.nB ∧ j = 0 ∧ g.rc = true) ∧ g.st 1 k + 1 < g.nS ∧ g.en 1 k = g.st 1 k + 1)) := by
  by_cases h : k < g.nB
  · obtain ⟨h1, h2, h3⟩ := hS.b k h
    refine ⟨k, h, h2, ?_⟩
    cases hr : g.rc with
    | true => rw [if_pos hr] at h3; exact .inl ⟨rfl, rfl, h3.1, h3.2.1, h3.2.2⟩
    | false => rw [if_neg (by rw [hr]; decide)] at h3; exact .inr ⟨.inl ⟨rfl, rfl⟩, by omega, h3⟩
  · rw [hS.n1] at hk
    split at hk
    · rename_i hc
      have e : k = g.nB := by omega
      subst e
      obtain ⟨h1, h2, h3⟩ := hS.l hc.1 hc.2
      exact ⟨0, hc.2, by simpa using h3, .inr ⟨.inr ⟨rfl, rfl, hc.1⟩, h1, h2⟩⟩
    · omega
theorem st_en (a k : Nat) (ha : a < 2) (hk : k < g.np a) : g.st a k ≤ g.en a k ∧ g.en a k ≤ g.st a k + 2 ∧ g.en a k < g.nS := by
  match a, ha with
  | 0, _ => obtain ⟨h1, h2, h3, h4⟩ := prod0 hS k hk; omega
  | 1, _ =>
    obtain ⟨j, _, _, h⟩ := prod1 hS k hk
    rcases h with ⟨_, _, h1, h2, _⟩ | ⟨_, h1, h2⟩ <;> omega
theorem nx_low (a k j : Nat) (ha : a < 2) (hk : k < g.np a) (hj : j < g.en a k - g.st a k) : -((g.nZ + g.nB : Nat) : Int) - 1 < g.nx (g.st a k + j) := by
  match a, ha with
  | 0, _ =>
    obtain ⟨h1, h2, h3, h4⟩ := prod0 hS k hk
    rw [h1, h2] at hj
    rw [h1]
    by_cases e : j = 0
    · subst e
      rw [Nat.add_zero]
      by_cases h : k < g.nZ
      · rw [(hS.z k h).2.2.1]; omega
      · have e : k = g.nZ := by rw [hS.n0] at hk; omega
        subst e; rw [hS.x.2.2.1]; omega
    · have e : j = 1 := by omega
      subst e; rw [h3]; omega
  | 1, _ =>
    obtain ⟨i, h0, h1, h⟩ := prod1 hS k hk
    by_cases e : j = 0
    · subst e; rw [Nat.add_zero, h1]; omega
    · rcases h with ⟨_, _, _, h2, h3⟩ | ⟨_, _, h2⟩
      · have e : j = 1 := by omega
        subst e; rw [h3]; omega
      · omega
theorem used0 (k : Nat) (hk : k ≤ g.nZ) : usedN g 0 k = List.replicate k 0 := by
  induction k with
  | zero => rfl
  | succ k ih =>
    obtain ⟨h1, h2, h3, h4⟩ := hS.z k (by omega)
    have e : g.en 0 k - g.st 0 k = 2 := by omega
    rw [usedN, ih (by omega), e, List.replicate_succ']
    congr 1
    simp [preN, h1, h3, h4]
    omega
theorem used0_all : usedN g 0 (g.np 0) = List.replicate g.nZ 0 ++ [1, 0] := by
  rw [hS.n0, usedN, used0 hS g.nZ (Nat.le_refl _)]
  obtain ⟨h1, h2, h3, h4⟩ := hS.x
  have e : g.en 0 g.nZ - g.st 0 g.nZ = 2 := by omega
  rw [e]
  simp [preN, h1, h3, h4]
theorem used1 (k : Nat) (hk : k ≤ g.np 1) : ∃ m, m ≤ k ∧ usedN g 1 k = List.replicate m 1 := by
  induction k with
  | zero => exact ⟨0, by omega, rfl⟩
  | succ k ih =>
    obtain ⟨m, hm, he⟩ := ih (by omega)
    obtain ⟨i, h0, h1, h⟩ := prod1 hS k (by omega)
    rcases h with ⟨_, _, _, h2, h3⟩ | ⟨_, _, h2⟩
    · have e : g.en 1 k - g.st 1 k = 2 := by omega
      refine ⟨m + 1, by omega, ?_⟩
      rw [usedN, he, e, List.replicate_succ']
      congr 1
      simp [preN, h1, h3]
      omega
    · have e : g.en 1 k - g.st 1 k = 1 := by omega
      refine ⟨m, by omega, ?_⟩
      rw [usedN, he, e]
      simp [preN, h1]
      omega
/-- What the nonterminal B holds of its own. -/
theorem hit1 (oth : Nat → Bool) (ho : ∀ j, j < g.nB → oth (g.nZ + j) = dw g j) : hitP g oth 1 (g.np 1) = anyD g g.nB := by
  have step : ∀ k, k < g.np 1 → ∃ j, j < g.nB ∧ hitS g oth 1 k (g.en 1 k - g.st 1 k) = dw g j ∧ (k < g.nB → j = k) := fun k hk => by
    obtain ⟨j, h0, h1, h⟩ := prod1 hS k hk
    have ht : (-(g.nx (g.st 1 k)) - 1).toNat = g.nZ + j := by rw [h1]; omega
    have hneg : decide (g.nx (g.st 1 k) < 0) = true := by rw [h1]; simp; omega
    refine ⟨j, h0, ?_, fun hkB => ?_⟩
    · rcases h with ⟨_, _, _, h2, h3⟩ | ⟨_, _, h2⟩
      · have e : g.en 1 k - g.st 1 k = 2 := by omega
        rw [e]
        simp only [hitS, Nat.add_zero, hneg, ht, h3, ho j h0]
        simp
      · have e : g.en 1 k - g.st 1 k = 1 := by omega
        rw [e]
        simp only [hitS, Nat.add_zero, hneg, ht, ho j h0]
        simp
    · rcases h with ⟨e, _⟩ | ⟨h | h, _⟩ <;> omega
  have hle : g.nB ≤ g.np 1 := by rw [hS.n1]; split <;> omega
  have sound : ∀ n, n ≤ g.np 1 → hitP g oth 1 n = true → ∃ j, j < g.nB ∧ dw g j = true := fun n => by
    induction n with
    | zero => intro _ h; simp [hitP] at h
    | succ n ih =>
      intro hn h
      simp only [hitP, Bool.or_eq_true] at h
      rcases h with h | h
      · exact ih (by omega) h
      · obtain ⟨j, hj, e, _⟩ := step n (by omega)
        exact ⟨j, hj, by rw [← e]; exact h⟩
  have compl : ∀ n j, n ≤ g.np 1 → j < n → j < g.nB → dw g j = true → hitP g oth 1 n = true := fun n => by
    induction n with
    | zero => intro j _ h; omega
    | succ n ih =>
      intro j hn hj hB hd
      simp only [hitP, Bool.or_eq_true]
      by_cases e : j = n
      · subst e
        obtain ⟨i, hi, e, h3⟩ := step j (by omega)
        have := h3 hB
        subst this
        exact .inr (by rw [e]; exact hd)
      · exact .inl (ih j (by omega) (by omega) hB hd)
  cases hA : anyD g g.nB with
  | true =>
    have : ∃ j, j < g.nB ∧ dw g j = true := by
      apply Classical.byContradiction
      intro hc
      have := anyD_false (g := g) (n := g.nB) (fun j hj => by
        cases hd : dw g j with
        | true => exact (hc ⟨j, hj, hd⟩).elim
        | false => rfl)
      rw [this] at hA
      cases hA
    obtain ⟨j, hj, hd⟩ := this
    exact compl _ j (Nat.le_refl _) (by omega) hj hd
  | false =>
    cases hH : hitP g oth 1 (g.np 1) with
    | false => rfl
    | true =>
      obtain ⟨j, hj, hd⟩ := sound _ (Nat.le_refl _) hH
      rw [anyD_true hj hd] at hA
      cases hA
end
end Go.Proofs.Ybulkdamm
