/-
  The plain part of seat b5088aF: minimal varints as lists of numbers. No Go here.
-/
namespace Go.Proofs.YbulkdaisFmt

/-- The bytes of v as a minimal varint, at most f + 1 of them. -/
def encF : Nat → Nat → List Nat
  | 0, v => [v]
  | f + 1, v => if v < 128 then [v] else (v % 128 + 128) :: encF f (v / 128)

/-- Five bytes serve for numbers below 2^35. -/
def encV (v : Nat) : List Nat := encF 4 v

theorem encF_small (f v : Nat) (h : v < 128) : encF f v = [v] := by
  cases f with
  | zero => rfl
  | succ f => simp [encF, h]

theorem encF_big (f v : Nat) (h : ¬ v < 128) : encF (f + 1) v = (v % 128 + 128) :: encF f (v / 128) := by
  simp [encF, h]

theorem encF_length (f v : Nat) : 1 ≤ (encF f v).length ∧ (encF f v).length ≤ f + 1 := by
  induction f generalizing v with
  | zero => simp [encF]
  | succ f ih =>
    by_cases h : v < 128
    · rw [encF_small _ _ h]; simp
    · rw [encF_big _ _ h]
      have := ih (v / 128)
      simp only [List.length_cons]
      omega

theorem encV_length (v : Nat) : 1 ≤ (encV v).length ∧ (encV v).length ≤ 5 := encF_length 4 v

/-- A list of pairs (sender, sequence number), one behind the other. -/
def encL : List (Nat × Nat) → List Nat
  | [] => []
  | p :: r => encV p.1 ++ (encV p.2 ++ encL r)

theorem encL_append (a b : List (Nat × Nat)) : encL (a ++ b) = encL a ++ encL b := by
  induction a with
  | nil => rfl
  | cons p r ih => simp [encL, ih]

theorem encL_snoc (a : List (Nat × Nat)) (p : Nat × Nat) : encL (a ++ [p]) = encL a ++ (encV p.1 ++ encV p.2) := by
  rw [encL_append]; simp [encL]

theorem encL_length_le (a : List (Nat × Nat)) : (encL a).length ≤ 10 * a.length := by
  induction a with
  | nil => simp [encL]
  | cons p r ih =>
    have h1 := encV_length p.1
    have h2 := encV_length p.2
    simp [encL]
    omega

end Go.Proofs.YbulkdaisFmt
