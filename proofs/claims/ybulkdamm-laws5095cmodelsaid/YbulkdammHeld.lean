import Derived.Test.YbulkdammGram
import Derived.Deep.RegionHeld
namespace Go.Proofs.Ybulkdamm
open Go Go.RowKit
variable {P : Program} {l : List Oper} {Q : Exit → Act → World → Prop} {S : World → Prop} {md : Region.Mode} {fuel : Nat} {listed : Array Bool} {a : Act} {w : World}
theorem drop_at {i : Nat} {o : Oper} {rest : List Oper} (h : l.drop i = o :: rest) : l.toArray[i]? = some o := by
  have : (l.drop i)[0]? = some o := by rw [h]; rfl
  simpa using this
/-- One operation of a region that draws its order, taken first. -/
theorem take_at (i : Nat) {oi : Oper} {rest : List Oper} {v : Value} (hd : l.drop i = oi :: rest) (hs : Region.noSelect l.toArray = true) (hf : Region.free md l.toArray listed i = true) (hr : (Region.ready md l.toArray listed).contains i = true)
    (hQ : ∀ c a w, Q (.panic c) (a.put oi.dst v) w → Q (.panic c) a w) (hw : Region.wanted oi (yielded l.toArray a.tmps) = true) (hy : ∀ w, S w → (execOp a.eval oi).run P w = .ok (.value v) w) (hS : S w)
    (h : wpAnyH P md l.toArray Q S fuel (listed.setIfInBounds i true) (a.put oi.dst v) w) : wpAnyH P md l.toArray Q S (fuel + 1) listed a w :=
  wpAnyH_take (drop_at hd) hs hf hr hQ (.inl ⟨hw, hy⟩) hS h
/-- The one operation that may come up. -/
theorem one_at (i : Nat) {o : Oper} {rest : List Oper} (hr : Region.ready md l.toArray listed = [i]) (hd : l.drop i = o :: rest)
    (h : ∀ K' : Act → World → Prop, Shut (∀ a w, S w → (S w → wpAnyH P md l.toArray Q S fuel (listed.setIfInBounds i true) a w) → K' a w) → if Region.wanted o (yielded l.toArray a.tmps) = true then Oper.wp P o a w K' Q else K' (a.put o.dst undef) w) :
    wpAnyH P md l.toArray Q S (fuel + 1) listed a w :=
  wpAnyH_ready hr (by simp) (AllReadyH.cons (drop_at hd) h AllReadyH.nil)
/-- One of two. -/
theorem two_at (i j : Nat) {o o' : Oper} {rest rest' : List Oper} (hr : Region.ready md l.toArray listed = [i, j]) (hd : l.drop i = o :: rest) (hd' : l.drop j = o' :: rest')
    (h : ∀ K' : Act → World → Prop, Shut (∀ a w, S w → (S w → wpAnyH P md l.toArray Q S fuel (listed.setIfInBounds i true) a w) → K' a w) → if Region.wanted o (yielded l.toArray a.tmps) = true then Oper.wp P o a w K' Q else K' (a.put o.dst undef) w)
    (h' : ∀ K' : Act → World → Prop, Shut (∀ a w, S w → (S w → wpAnyH P md l.toArray Q S fuel (listed.setIfInBounds j true) a w) → K' a w) → if Region.wanted o' (yielded l.toArray a.tmps) = true then Oper.wp P o' a w K' Q else K' (a.put o'.dst undef) w) :
    wpAnyH P md l.toArray Q S (fuel + 1) listed a w :=
  wpAnyH_ready hr (by simp) (AllReadyH.cons (drop_at hd) h (AllReadyH.cons (drop_at hd') h' AllReadyH.nil))
end Go.Proofs.Ybulkdamm
