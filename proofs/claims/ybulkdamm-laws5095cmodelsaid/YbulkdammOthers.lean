import Derived.Test.YbulkdammUses
import Derived.Test.YbulkdammSet2
namespace Go.Proofs.Ybulkdamm
open Go.RowKit
set_option linter.unusedVariables false

theorem anyNot_congr {lo hi lo' hi' : Nat → Int} {n n' : Nat} {x : Nat → Int} (h : ∀ c, covN lo hi c n = covN lo' hi' c n') : ∀ N, anyNot lo hi n x N = anyNot lo' hi' n' x N := by
  intro N
  induction N with
  | zero => rfl
  | succ N ih => simp [anyNot, ih, h]
theorem alone_congr {lo hi lo' hi' : Nat → Int} {n n' : Nat} (h : ∀ c, covN lo hi c n = covN lo' hi' c n') (fold : Bool) (x : Nat → Int) : alone lo hi n fold x = alone lo' hi' n' fold x := by
  funext k
  unfold alone
  rw [anyNot_congr h]

/-- Whether the j-th word has a code point that no range holds. -/
def dw (g : G) (j : Nat) : Bool := hasFalse (alone g.lo g.hi g.nZ (g.wf j) (g.wx j)) (g.wn j)
def hitS (g : G) (oth : Nat → Bool) (a k : Nat) : Nat → Bool
  | 0 => false
  | j + 1 => hitS g oth a k j || (decide (g.nx (g.st a k + j) < 0) && oth (-(g.nx (g.st a k + j)) - 1).toNat)
def hitP (g : G) (oth : Nat → Bool) (a : Nat) : Nat → Bool
  | 0 => false
  | k + 1 => hitP g oth a k || hitS g oth a k (g.en a k - g.st a k)
def bv (b : Bool) : Int := if b then 1 else 0
theorem bv_or (b : Bool) : bits .or .u64 (bv b) 1 = bv true := by cases b <;> decide +kernel
theorem bv_ne (b : Bool) : (bv b != 0) = b := by cases b <;> decide

/-- The answers about the terminals; the sets of what each nonterminal holds of its own. -/
structure OS (w wr : World) (b0 OT OW N m : Nat) (oth : Nat → Bool) (obs : Nat → Nat) (xs : Nat → Bool) : Prop where
  below : Below b0 w wr
  hb : b0 ≤ OT ∧ OT < OW
  ot : ∀ i, i < N → wr.cell? ⟨OT, i, none⟩ = some (.bool (oth i))
  ow : ∀ b, b < 2 → ∃ v, wr.cell? ⟨OW, b, none⟩ = some v
  owf : ∀ o, wr.frozen? ⟨OW, o, none⟩ = false
  own : ∀ b, b < m → b < 2 → wr.cell? ⟨OW, b, none⟩ = some (.slice (some ⟨obs b, 0, none⟩) 1 1) ∧ wr.cell? ⟨obs b, 0, none⟩ = some (.int .u64 (bv (xs b))) ∧ wr.frozen? ⟨obs b, 0, none⟩ = false ∧ OW < obs b
  inj : ∀ b c, b < m → c < m → b < 2 → c < 2 → b ≠ c → obs b ≠ obs c
theorem OS.lt {w wr : World} {b0 OT OW N m : Nat} {oth : Nat → Bool} {obs : Nat → Nat} {xs : Nat → Bool} (h : OS w wr b0 OT OW N m oth obs xs) : OW < wr.heap.size := by
  obtain ⟨v, hv⟩ := h.ow 0 (by omega)
  exact block_lt_of_cell hv
theorem OS.quiet {w wr w' : World} {b0 OT OW N m : Nat} {oth : Nat → Bool} {obs : Nat → Nat} {xs : Nat → Bool} (h : OS w wr b0 OT OW N m oth obs xs) (hq : Below wr.heap.size wr w') : OS w w' b0 OT OW N m oth obs xs := by
  have hlt := h.lt
  have h0 := h.hb
  refine ⟨h.below.trans (hq.mono (by omega)), h.hb, fun i hi => keepW hq (h.ot i hi), fun b hb => ?_, fun o => by rw [frozenB hq hlt]; exact h.owf o, fun b h1 h2 => ?_, h.inj⟩
  · obtain ⟨v, hv⟩ := h.ow b hb
    exact ⟨v, keepW hq hv⟩
  · obtain ⟨a1, a2, a3, a4⟩ := h.own b h1 h2
    exact ⟨keepW hq a1, keepW hq a2, by rw [frozenB hq (block_lt_of_cell a2)]; exact a3, a4⟩
/-- A new set for the m-th. -/
theorem OS.new {w wr : World} {b0 OT OW N m : Nat} {oth : Nat → Bool} {obs : Nat → Nat} {xs : Nat → Bool} (h : OS w wr b0 OT OW N m oth obs xs) (hm : m < 2) :
    OS w ((wr.alloc (.cells #[.int .u64 0] 61)).setCell ⟨OW, m, none⟩ (.slice (some ⟨wr.heap.size, 0, none⟩) 1 1)) b0 OT OW N (m + 1) oth (upN obs m wr.heap.size) (upN xs m false) := by
  have hlt := h.lt
  have h0 := h.hb
  have hq : Below wr.heap.size wr (wr.alloc (.cells #[.int .u64 0] 61)) := (Below.refl _ wr).alloc (Nat.le_refl _) _
  have h' := h.quiet hq
  have hnew := Deep.blk_alloc_new wr (.cells #[.int .u64 0] 61)
  have hoblt : ∀ b, b < m → b < 2 → obs b < wr.heap.size := fun b h1 h2 => block_lt_of_cell (h.own b h1 h2).2.1
  refine ⟨h'.below.setCell (p := ⟨OW, m, none⟩) (by simp; omega) _, h.hb, fun i hi => by rw [cell_far _ _ _ _ _ (by simp; omega)]; exact h'.ot i hi, fun b hb => ?_, fun o => by rw [setCell_frozen]; exact h'.owf o, fun b h1 h2 => ?_, fun b c h1 h2 h3 h4 h5 => ?_⟩
  · obtain ⟨v, hv⟩ := h'.ow b hb
    by_cases e : b = m
    · subst e; exact ⟨_, setCell_self _ _ _ _ _ hv⟩
    · exact ⟨v, by rw [setCell_off _ _ _ _ _ e]; exact hv⟩
  · unfold upN
    by_cases e : b = m
    · subst e
      rw [if_pos rfl, if_pos rfl]
      obtain ⟨v, hv⟩ := h'.ow b h2
      refine ⟨setCell_self _ _ _ _ _ hv, ?_, ?_, hlt⟩
      · rw [cell_far _ _ _ _ _ (by simp; omega)]; exact cell_of_row _ _ _ _ _ _ hnew
      · rw [setCell_frozen]; exact frozen_of_row _ _ _ _ _ hnew
    · rw [if_neg e, if_neg e]
      obtain ⟨a1, a2, a3, a4⟩ := h'.own b (by omega) h2
      exact ⟨by rw [setCell_off _ _ _ _ _ e]; exact a1, by rw [cell_far _ _ _ _ _ (by simp; omega)]; exact a2, by rw [setCell_frozen]; exact a3, a4⟩
  · unfold upN
    by_cases e1 : b = m
    · rw [if_pos e1, if_neg (by omega)]
      have := hoblt c (by omega) h4
      omega
    · rw [if_neg e1]
      by_cases e2 : c = m
      · rw [if_pos e2]
        have := hoblt b (by omega) h3
        omega
      · rw [if_neg e2]; exact h.inj b c (by omega) (by omega) h3 h4 h5
/-- A set's bit is set. -/
theorem OS.hit {w wr : World} {b0 OT OW N m : Nat} {oth : Nat → Bool} {obs : Nat → Nat} {xs : Nat → Bool} (h : OS w wr b0 OT OW N m oth obs xs) (a : Nat) (ha : a < 2) (ham : a < m) : OS w (wr.setCell ⟨obs a, 0, none⟩ (.int .u64 (bv true))) b0 OT OW N m oth obs (upN xs a true) := by
  have hlt := h.lt
  have h0 := h.hb
  obtain ⟨a1, a2, a3, a4⟩ := h.own a ham ha
  refine ⟨h.below.setCell (p := ⟨obs a, 0, none⟩) (by simp; omega) _, h.hb, fun i hi => by rw [cell_far _ _ _ _ _ (by simp; omega)]; exact h.ot i hi, fun b hb => ?_, fun o => by rw [setCell_frozen]; exact h.owf o, fun b h1 h2 => ?_, h.inj⟩
  · obtain ⟨v, hv⟩ := h.ow b hb
    exact ⟨v, by rw [cell_far _ _ _ _ _ (by simp; omega)]; exact hv⟩
  · obtain ⟨c1, c2, c3, c4⟩ := h.own b h1 h2
    refine ⟨by rw [cell_far _ _ _ _ _ (by simp; omega)]; exact c1, ?_, by rw [setCell_frozen]; exact c3, c4⟩
    unfold upN
    by_cases e : b = a
    · subst e; rw [if_pos rfl]; exact setCell_self _ _ _ _ _ a2
    · rw [if_neg e, cell_far _ _ _ _ _ (by simpa using h.inj b a h1 ham h2 ha e)]; exact c2

/-- The answers, while they are written. -/
structure OL (w wr : World) (b0 OT N k : Nat) (g : G) (oth : Nat → Bool) : Prop where
  below : Below b0 w wr
  hb : b0 ≤ OT
  ot : ∀ i, i < N → wr.cell? ⟨OT, i, none⟩ = some (.bool (oth i))
  fr : ∀ o, wr.frozen? ⟨OT, o, none⟩ = false
  said : ∀ j, j < g.nB → g.nZ + j < k → oth (g.nZ + j) = dw g j
theorem OL.put {w wr w' : World} {b0 OT N k : Nat} {g : G} {oth : Nat → Bool} (h : OL w wr b0 OT N k g oth) (hq : Below wr.heap.size wr w') (x : Bool) (hk : k < N) (hx : ∀ j, j < g.nB → g.nZ + j = k → x = dw g j) : OL w (w'.setCell ⟨OT, k, none⟩ (.bool x)) b0 OT N (k + 1) g (upN oth k x) := by
  have hlt : OT < wr.heap.size := block_lt_of_cell (h.ot k hk)
  have h0 := h.hb
  refine ⟨(h.below.trans (hq.mono (by omega))).setCell (p := ⟨OT, k, none⟩) (by simp; omega) _, h.hb, fun i hi => ?_, fun o => by rw [setCell_frozen, frozenB hq hlt]; exact h.fr o, fun j hj hjk => ?_⟩
  · unfold upN
    have hi' := keepW hq (h.ot i hi)
    by_cases e : i = k
    · subst e; rw [if_pos rfl]; exact setCell_self _ _ _ _ _ hi'
    · rw [if_neg e, setCell_off _ _ _ _ _ e]; exact hi'
  · unfold upN
    by_cases e : g.nZ + j = k
    · rw [if_pos e]; exact hx j hj e
    · rw [if_neg e]; exact h.said j hj (by omega)
end Go.Proofs.Ybulkdamm
