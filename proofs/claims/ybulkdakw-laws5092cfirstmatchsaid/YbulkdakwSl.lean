import Derived.Test.YbulkdakwRows
import Derived.WalkKit
import Derived.WalkLawsBesides
import Derived.WalkSpells
import Derived.Deep.AppendLies
import Derived.Outline
import Derived.Deep.QuietTactic
import Derived.BigQuiet
import Derived.RegionTactic
import Derived.LaidEql
namespace Go.Proofs.Ybulkdakw
open Go.RowKit
set_option linter.unusedVariables false

theorem hid {p : Prop} (h : p) : Hid p := h

/-- The slice value v holds the numbers xs, in a block other than E. -/
def Sl (E : Nat) (w : World) (v : Value) (xs : List Int) : Prop :=
  ∃ a n c, v = .slice a n c ∧ n = xs.length ∧ (a = none → n = 0 ∧ c = 0) ∧
    (n = 0 ∨ ∃ b off, a = some ⟨b, off, none⟩ ∧ b ≠ E ∧ ∀ j, j < n → w.cell? ⟨b, off + j, none⟩ = some (.int .i64 (xs.getD j 0)))

/-- What is kept: every cell of another block than E, and the first m cells of E. -/
def Keep (E m : Nat) (w w' : World) : Prop := ∀ p u, (p.block ≠ E ∨ p.off < m) → w.cell? p = some u → w'.cell? p = some u

theorem Keep.refl (E m : Nat) (w : World) : Keep E m w w := fun _ _ _ h => h
theorem Keep.trans {E m : Nat} {a b c : World} (h : Keep E m a b) (k : Keep E m b c) : Keep E m a c := fun p u hp hu => k p u hp (h p u hp hu)
theorem Keep.drewN {E m : Nat} {a b : World} (h : Keep E m a b) (k : Nat) : Keep E m a (b.drewN k) := h
theorem Keep.below {E m : Nat} {w w' : World} (h : Below w.heap.size w w') : Keep E m w w' := fun p u _ hu => by rw [h.cell (block_lt_of_cell hu)]; exact hu
theorem Keep.setCell (E m o : Nat) (w : World) (v : Value) (ho : m ≤ o) : Keep E m w (w.setCell ⟨E, o, none⟩ v) := by
  intro p u hp hu
  have hne : p ≠ ⟨E, o, none⟩ := by
    rintro rfl
    simp at hp
    omega
  rw [World.cell?_setCell_other _ _ _ _ (Ne.symm hne)]
  exact hu

theorem Sl.keep {E m : Nat} {w w' : World} {v : Value} {xs : List Int} (h : Sl E w v xs) (k : Keep E m w w') : Sl E w' v xs := by
  obtain ⟨a, n, c, h1, h2, h3, h4⟩ := h
  refine ⟨a, n, c, h1, h2, h3, ?_⟩
  rcases h4 with h4 | ⟨b, off, h5, h6, h7⟩
  · exact Or.inl h4
  · exact Or.inr ⟨b, off, h5, h6, fun j hj => k _ _ (Or.inl h6) (h7 j hj)⟩
end Go.Proofs.Ybulkdakw
