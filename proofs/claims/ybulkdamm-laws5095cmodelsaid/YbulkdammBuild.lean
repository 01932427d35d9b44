import Derived.Test.YbulkdammUses
namespace Go.Proofs.Ybulkdamm
open Go.RowKit
set_option linter.unusedVariables false

/-- A row that the call owns: its element's type and cells, its value, its length, what it holds. -/
structure Row where
  e : TypeId
  s : Nat
  v : Value
  n : Nat
  l : List Value
/-- Rows of the call's own, each in a block of its own. -/
structure RS (w : World) (base : Nat) (L : List Row) : Prop where
  own : ∀ r ∈ L, w.ownsRow base r.e r.s r.v r.n r.l
  apart : L.Pairwise (fun r q => ∀ k, r.v.ownBlock = some k → q.v.ownBlock ≠ some k)
theorem RS.keep {w w' : World} {base : Nat} {L : List Row} (h : RS w base L) (hb : Below w.heap.size w w') : RS w' base L := ⟨fun r hr => owns_below (h.own r hr) hb, h.apart⟩
theorem RS.set {w : World} {base : Nat} {L : List Row} (h : RS w base L) (b o : Nat) (u : Value) (hb : b < base) : RS (w.setCell ⟨b, o, none⟩ u) base L :=
  ⟨fun r hr => owns_same (h.own r hr) fun k hk => heap_same_setCell _ _ _ _ k (by have := (ownLt (h.own r hr) hk).1; omega), h.apart⟩
theorem RS.at {w : World} {base : Nat} {A B : List Row} {r : Row} (h : RS w base (A ++ r :: B)) : w.ownsRow base r.e r.s r.v r.n r.l := h.own r (by simp)
/-- One row grows. -/
theorem RS.push {w w' : World} {base : Nat} (A B : List Row) (r r' : Row) (h : RS w base (A ++ r :: B)) (hg : w.grownBy w' r.v.ownBlock) (ho : w'.ownsRow base r'.e r'.s r'.v r'.n r'.l) (hat : ∀ k, r'.v.ownBlock = some k → r.v.ownBlock = some k ∨ w.heap.size ≤ k) : RS w' base (A ++ r' :: B) := by
  have hp := h.apart
  rw [List.pairwise_append, List.pairwise_cons] at hp
  obtain ⟨pA, ⟨prB, pB⟩, pAB⟩ := hp
  have hA : ∀ q ∈ A, w.ownsRow base q.e q.s q.v q.n q.l := fun q hq => h.own q (by simp [hq])
  have hB : ∀ q ∈ B, w.ownsRow base q.e q.s q.v q.n q.l := fun q hq => h.own q (by simp [hq])
  have apA : ∀ q ∈ A, ∀ k, q.v.ownBlock = some k → r.v.ownBlock ≠ some k := fun q hq => pAB q hq r (by simp)
  have kA : ∀ q ∈ A, w'.ownsRow base q.e q.s q.v q.n q.l := fun q hq => (hA q hq).kept hg (by
    cases e : q.v.ownBlock with
    | none => exact .inl rfl
    | some k => exact .inr (fun e2 => apA q hq k e e2.symm))
  have kB : ∀ q ∈ B, w'.ownsRow base q.e q.s q.v q.n q.l := fun q hq => (hB q hq).kept hg (by
    cases e : q.v.ownBlock with
    | none => exact .inl rfl
    | some k => exact .inr (fun e2 => prB q hq k e2.symm e))
  refine ⟨fun q hq => ?_, ?_⟩
  · rw [List.mem_append, List.mem_cons] at hq
    rcases hq with hq | rfl | hq
    · exact kA q hq
    · exact ho
    · exact kB q hq
  · rw [List.pairwise_append, List.pairwise_cons]
    refine ⟨pA, ⟨fun q hq k hk => ?_, pB⟩, fun q hq q' hq' k hk => ?_⟩
    · rcases hat k hk with e | e
      · exact prB q hq k e
      · intro e2
        have := (ownLt (hB q hq) e2).2
        omega
    · rw [List.mem_cons] at hq'
      rcases hq' with rfl | hq'
      · intro e2
        rcases hat k e2 with e | e
        · exact apA q hq k hk e
        · have := (ownLt (hA q hq) hk).2
          omega
      · exact pAB q hq q' (by simp [hq']) k hk
theorem RS.app {w w' : World} {o : Obj} {base g cap n' : Nat} {l' : List Value} (A B : List Row) (r : Row) (h : RS w base (A ++ r :: B)) (hg : (w.alloc o).grownBy w' r.v.ownBlock) (ho : w'.ownsRow base r.e r.s (.slice (some ⟨g, 0, none⟩) n' cap) n' l') (hat : r.v.ownBlock = some g ∨ g = w.heap.size + 1) : RS w' base (A ++ ⟨r.e, r.s, .slice (some ⟨g, 0, none⟩) n' cap, n', l'⟩ :: B) :=
  RS.push A B r ⟨r.e, r.s, .slice (some ⟨g, 0, none⟩) n' cap, n', l'⟩ (h.keep ((Below.refl _ w).alloc (Nat.le_refl _) o)) hg ho (fun k hk => by
    simp [Value.ownBlock] at hk
    subst hk
    rcases hat with e | e
    · exact .inl e
    · exact .inr (by simp; omega))
theorem RS.bel {w0 w w' : World} {o : Obj} {base : Nat} (A B : List Row) (r : Row) (h : RS w base (A ++ r :: B)) (hb : Below base w0 w) (hs : base ≤ w.heap.size) (hg : (w.alloc o).grownBy w' r.v.ownBlock) : Below base w0 w' :=
  (hb.alloc hs o).grown hg (by simp; omega) (fun k hk => (ownLt h.at hk).1)
/-- Rows are left out. -/
theorem RS.sub {w : World} {base : Nat} {L L' : List Row} (h : RS w base L) (hs : L'.Sublist L) : RS w base L' := ⟨fun r hr => h.own r (hs.subset hr), h.apart.sublist hs⟩
/-- A row that holds nothing yet. -/
theorem RS.nil {w : World} {base : Nat} {L : List Row} (h : RS w base L) (e : TypeId) (s : Nat) : RS w base (⟨e, s, .slice none 0 0, 0, []⟩ :: L) :=
  ⟨fun r hr => by
    rw [List.mem_cons] at hr
    rcases hr with rfl | hr
    · exact World.ownsRow_nil _ _ _ _
    · exact h.own r hr, List.pairwise_cons.2 ⟨fun q hq k hk => by simp [Value.ownBlock] at hk, h.apart⟩⟩
/-- A new row of its own block. -/
theorem RS.add {w w' : World} {base : Nat} {L : List Row} (h : RS w base L) (r : Row) (hb : Below w.heap.size w w') (ho : w'.ownsRow base r.e r.s r.v r.n r.l) (hn : ∀ k, r.v.ownBlock = some k → w.heap.size ≤ k) : RS w' base (r :: L) :=
  ⟨fun q hq => by
    rw [List.mem_cons] at hq
    rcases hq with rfl | hq
    · exact ho
    · exact owns_below (h.own q hq) hb, List.pairwise_cons.2 ⟨fun q hq k hk e => by
      have h1 := hn k hk
      have h2 := (ownLt (h.own q hq) e).2
      omega, h.apart⟩⟩

/-- The parser's struct while the law builds it. -/
structure PS (w : World) (base p PB EB : Nat) (sv tv : Value) (pr en : Nat → Value) : Prop where
  lt : p < base ∧ PB < base ∧ EB < base ∧ p ≠ PB ∧ p ≠ EB ∧ PB ≠ EB
  c0 : w.cell? ⟨p, 0, none⟩ = some sv
  c1 : w.cell? ⟨p, 1, none⟩ = some (.slice (some ⟨PB, 0, none⟩) 2 2)
  c2 : w.cell? ⟨p, 2, none⟩ = some (.slice (some ⟨EB, 0, none⟩) 2 2)
  c6 : w.cell? ⟨p, 6, none⟩ = some tv
  pr' : ∀ a, a < 2 → w.cell? ⟨PB, a, none⟩ = some (pr a)
  en' : ∀ a, a < 2 → w.cell? ⟨EB, a, none⟩ = some (en a)
  f : ∀ o, w.frozen? ⟨p, o, none⟩ = false
  fp : ∀ o, w.frozen? ⟨PB, o, none⟩ = false
  fe : ∀ o, w.frozen? ⟨EB, o, none⟩ = false
section
variable {w w' : World} {base p PB EB : Nat} {sv tv : Value} {pr en : Nat → Value}
theorem PS.keep (h : PS w base p PB EB sv tv pr en) (hb : Below base w w') : PS w' base p PB EB sv tv pr en := by
  obtain ⟨l1, l2, l3, l4, l5, l6⟩ := h.lt
  exact ⟨h.lt, keepB hb h.c0 l1, keepB hb h.c1 l1, keepB hb h.c2 l1, keepB hb h.c6 l1, fun a ha => keepB hb (h.pr' a ha) l2, fun a ha => keepB hb (h.en' a ha) l3, fun o => by rw [frozenB hb (p := ⟨p, o, none⟩) l1]; exact h.f o, fun o => by rw [frozenB hb (p := ⟨PB, o, none⟩) l2]; exact h.fp o, fun o => by rw [frozenB hb (p := ⟨EB, o, none⟩) l3]; exact h.fe o⟩
theorem PS.setS (h : PS w base p PB EB sv tv pr en) (v : Value) : PS (w.setCell ⟨p, 0, none⟩ v) base p PB EB v tv pr en := by
  obtain ⟨l1, l2, l3, l4, l5, l6⟩ := h.lt
  exact ⟨h.lt, setCell_self _ _ _ _ _ h.c0, by rw [setCell_off _ _ _ _ _ (by omega)]; exact h.c1, by rw [setCell_off _ _ _ _ _ (by omega)]; exact h.c2, by rw [setCell_off _ _ _ _ _ (by omega)]; exact h.c6, fun a ha => by rw [cell_far _ _ _ _ _ (by simpa using l4.symm)]; exact h.pr' a ha, fun a ha => by rw [cell_far _ _ _ _ _ (by simpa using l5.symm)]; exact h.en' a ha, fun o => by rw [setCell_frozen]; exact h.f o, fun o => by rw [setCell_frozen]; exact h.fp o, fun o => by rw [setCell_frozen]; exact h.fe o⟩
theorem PS.setP (h : PS w base p PB EB sv tv pr en) (a : Nat) (ha : a < 2) (v : Value) : PS (w.setCell ⟨PB, a, none⟩ v) base p PB EB sv tv (upN pr a v) en := by
  obtain ⟨l1, l2, l3, l4, l5, l6⟩ := h.lt
  refine ⟨h.lt, by rw [cell_far _ _ _ _ _ (by simpa using l4)]; exact h.c0, by rw [cell_far _ _ _ _ _ (by simpa using l4)]; exact h.c1, by rw [cell_far _ _ _ _ _ (by simpa using l4)]; exact h.c2, by rw [cell_far _ _ _ _ _ (by simpa using l4)]; exact h.c6, fun b hb => ?_, fun a ha => by rw [cell_far _ _ _ _ _ (by simpa using l6.symm)]; exact h.en' a ha, fun o => by rw [setCell_frozen]; exact h.f o, fun o => by rw [setCell_frozen]; exact h.fp o, fun o => by rw [setCell_frozen]; exact h.fe o⟩
  unfold upN
  by_cases e : b = a
  · subst e; rw [if_pos rfl]; exact setCell_self _ _ _ _ _ (h.pr' b hb)
  · rw [if_neg e, setCell_off _ _ _ _ _ e]; exact h.pr' b hb
theorem PS.setE (h : PS w base p PB EB sv tv pr en) (a : Nat) (ha : a < 2) (v : Value) : PS (w.setCell ⟨EB, a, none⟩ v) base p PB EB sv tv pr (upN en a v) := by
  obtain ⟨l1, l2, l3, l4, l5, l6⟩ := h.lt
  refine ⟨h.lt, by rw [cell_far _ _ _ _ _ (by simpa using l5)]; exact h.c0, by rw [cell_far _ _ _ _ _ (by simpa using l5)]; exact h.c1, by rw [cell_far _ _ _ _ _ (by simpa using l5)]; exact h.c2, by rw [cell_far _ _ _ _ _ (by simpa using l5)]; exact h.c6, fun a ha => by rw [cell_far _ _ _ _ _ (by simpa using l6)]; exact h.pr' a ha, fun b hb => ?_, fun o => by rw [setCell_frozen]; exact h.f o, fun o => by rw [setCell_frozen]; exact h.fp o, fun o => by rw [setCell_frozen]; exact h.fe o⟩
  unfold upN
  by_cases e : b = a
  · subst e; rw [if_pos rfl]; exact setCell_self _ _ _ _ _ (h.en' b hb)
  · rw [if_neg e, setCell_off _ _ _ _ _ e]; exact h.en' b hb
end
end Go.Proofs.Ybulkdamm
