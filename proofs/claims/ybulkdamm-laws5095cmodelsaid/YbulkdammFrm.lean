import Derived.Test.YbulkdammGram3
import Derived.Test.YbulkdammHeld
import Derived.Test.YbulkdammNot
import Derived.Deep.CutRange
namespace Go.Proofs.Ybulkdamm
open Go.RowKit
set_option linter.unusedVariables false

/-- The statements of a function's body, by their number. -/
def restN : Nat → Code → Code
  | 0, c => c
  | n + 1, .seq _ b => restN n b
  | _, c => c
def headC : Code → Code
  | .seq a _ => a
  | c => c
noncomputable def lawBody : Code := Yba.f3.body.getD .skip
noncomputable def stmtN (n : Nat) : Code := headC (restN n lawBody)

/-- A frame of the law: whatever it holds. -/
theorem frame_form (a : Act) (n : Nat) (hs : a.tmps.size = n) (hd : a.defers = []) : ∃ c : Nat → Value, a = ⟨((List.range n).map c).toArray, []⟩ := by
  obtain ⟨t, d⟩ := a
  simp only at hs hd
  subst hd
  refine ⟨fun i => t.getD i undef, ?_⟩
  congr 1
  apply Array.ext
  · simp [hs]
  · intro i h1 h2
    simp [Array.getD, h1]
/-- What the law's frame holds from the parser's making on. -/
structure FR (a : Act) (rc : Bool) (nz m p : Nat) (v10 v11 v16 v17 : Value) : Prop where
  sz : a.tmps.size = 574
  df : a.defers = []
  e2 : a.eval (.tmp 2) = .bool rc
  e10 : a.eval (.tmp 10) = v10
  e11 : a.eval (.tmp 11) = v11
  e15 : a.eval (.tmp 15) = .int .i64 nz
  e16 : a.eval (.tmp 16) = v16
  e17 : a.eval (.tmp 17) = v17
  e21 : a.eval (.tmp 21) = .int .i64 m
  e22 : a.eval (.tmp 22) = .pointer (some ⟨p, 0, none⟩)
theorem wp_two {P : Program} {n : Nat} {s : Code} {Q : Exit → Act → World → Prop} {a : Act} {w : World} (h : restN n s = .seq (headC (restN n s)) (restN (n + 1) s)) (h1 : (headC (restN n s)).wp P (Exit.then (fun a w => (restN (n + 1) s).wp P Q a w) Q) a w) : (restN n s).wp P Q a w := by
  rw [h]
  exact wp_seq h1
end Go.Proofs.Ybulkdamm
