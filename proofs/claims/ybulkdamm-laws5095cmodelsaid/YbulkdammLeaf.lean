import Derived.Test.YbulkdammRows
import Derived.WalkKit
import Derived.WalkLawsBesides
import Derived.WalkSpells
import Derived.Deep.AppendLies
import Derived.Outline
import Derived.Deep.QuietTactic
import Derived.BigQuiet
import Derived.RegionTactic
import Derived.Lib.SliceRun
import Derived.Deep.Heap
import Derived.Laws.OwnMore
import Derived.KernelRfl
namespace Go.Proofs.Ybulkdamm
open Go.RowKit
set_option linter.unusedVariables false

theorem hid {p : Prop} (h : p) : Hid p := h
theorem below_drewN {B : Nat} {a w : World} (h : Below B a w) (k : Nat) : Below B a (w.drewN k) := ⟨h.os, h.tape, h.output, h.size, h.block⟩

/-- The small table. -/
def tbl : List Int := [97, 98, 65, 66, 45, 123, 125, 122]
def chr (b : Nat) : Int := tbl.getD (b % 8) 0

set_option maxHeartbeats 800000 in
set_option maxRecDepth 100000 in
theorem char_any (b : Nat) (w : World) (hb : b < 256) : Calls Yba.prog 4 #[.int .u8 b] w fun e w' => e = .returned (.int .i32 (chr b)) ∧ w' = w := by
  have h8 : b % 8 = 0 ∨ b % 8 = 1 ∨ b % 8 = 2 ∨ b % 8 = 3 ∨ b % 8 = 4 ∨ b % 8 = 5 ∨ b % 8 = 6 ∨ b % 8 = 7 := by omega
  rcases h8 with h | h | h | h | h | h | h | h
  all_goals
    have hi : (b : Int) % 8 = ((b % 8 : Nat) : Int) := by omega
    rw [h] at hi
    have hc : chr b = tbl.getD (b % 8) 0 := rfl
    rw [h] at hc
    go_enter Yba.func4, Yba.ntmps4
    go_wp2
    go_ret
    exact ⟨by rw [hc]; kernel_rfl, rfl⟩

/-- The code point c lies in one of the first n ranges. -/
def covN (lo hi : Nat → Int) (c : Int) : Nat → Bool
  | 0 => false
  | n + 1 => covN lo hi c n || (decide (lo n ≤ c) && decide (c ≤ hi n))

theorem covN_false {lo hi : Nat → Int} {c : Int} {n : Nat} (h : ∀ i, i < n → ¬ (lo i ≤ c ∧ c ≤ hi i)) : covN lo hi c n = false := by
  induction n with
  | zero => rfl
  | succ n ih =>
    have := h n (by omega)
    simp [covN, ih (fun i hi => h i (by omega))]
    omega
theorem covN_true {lo hi : Nat → Int} {c : Int} {n i : Nat} (hi' : i < n) (h : lo i ≤ c ∧ c ≤ hi i) : covN lo hi c n = true := by
  induction n with
  | zero => omega
  | succ n ih =>
    by_cases e : i = n
    · subst e; simp [covN, h]
    · simp [covN, ih (by omega)]
theorem covN_iff {lo hi : Nat → Int} {c : Int} {n : Nat} : covN lo hi c n = true ↔ ∃ i, i < n ∧ lo i ≤ c ∧ c ≤ hi i := by
  constructor
  · intro h
    apply Classical.byContradiction
    intro hn
    have := covN_false (lo := lo) (hi := hi) (c := c) (n := n) (fun i hi h2 => hn ⟨i, hi, h2⟩)
    rw [this] at h
    cases h
  · rintro ⟨i, h1, h2⟩
    exact covN_true h1 h2

set_option maxHeartbeats 800000 in
set_option maxRecDepth 100000 in
theorem in_any (c : Int) (la ha : Option Addr) (lb hb n lc hc : Nat) (lo hi : Nat → Int) (w : World) (hn : n ≤ 5000)
    (h1 : n = 0 ∨ la = some ⟨lb, 0, none⟩ ∧ ha = some ⟨hb, 0, none⟩) (c1 : ∀ i, i < n → w.cell? ⟨lb, i, none⟩ = some (.int .i32 (lo i))) (c2 : ∀ i, i < n → w.cell? ⟨hb, i, none⟩ = some (.int .i32 (hi i))) :
    Calls Yba.prog 6 #[.int .i32 c, .slice la n lc, .slice ha n hc] w fun e w' => e = .returned (.bool (covN lo hi c n)) ∧ w' = w := by
  have H1 := hid h1
  have C1 := hid c1
  have C2 := hid c2
  clear h1 c1 c2
  go_enter Yba.func6, Yba.ntmps6
  go_wp2
  go_loopw [7] (fun i wr => ∃ k : Nat, k ≤ n ∧ i = .int .i64 k ∧ wr = w ∧ ∀ i, i < k → ¬ (lo i ≤ c ∧ c ≤ hi i)) (fun i _ => n - (intOf i).toNat)
  case atStart => exact ⟨0, by omega, rfl, rfl, fun i hi => by omega⟩
  case round =>
    obtain ⟨k, hk, rfl, rfl, hno⟩ := hrel
    have HNO := hid hno
    clear hno
    by_cases hlt : k < n
    · obtain ⟨rfl, rfl⟩ : la = some ⟨lb, 0, none⟩ ∧ ha = some ⟨hb, 0, none⟩ := by
        rcases H1.out with h | h
        · omega
        · exact h
      have q1 := C1.out k hlt
      have q2 := C2.out k hlt
      have b0 : (0 : Int) ≤ (k : Int) := by omega
      have b1 : (k : Int) < (n : Int) := by omega
      by_cases hA : lo k ≤ c
      · have dA : decide (lo k ≤ c) = true := by simpa using hA
        by_cases hB : c ≤ hi k
        · have dB : decide (c ≤ hi k) = true := by simpa using hB
          go_wp2
          go_ret
          exact ⟨by simp [covN_true hlt ⟨hA, hB⟩], rfl⟩
        · have dB : decide (c ≤ hi k) = false := by simpa using hB
          go_wp2
          refine ⟨⟨k + 1, by omega, by go_num, by simp, fun i hi' => ?_⟩, by simp [intOf]; omega⟩
          by_cases e : i = k
          · subst e; exact fun h => hB h.2
          · exact HNO.out i (by omega)
      · have dA : decide (lo k ≤ c) = false := by simpa using hA
        go_wp2
        refine ⟨⟨k + 1, by omega, by go_num, by simp, fun i hi' => ?_⟩, by simp [intOf]; omega⟩
        by_cases e : i = k
        · subst e; exact fun h => hA h.1
        · exact HNO.out i (by omega)
    · have hkn : k = n := by omega
      subst hkn
      go_wp2
      go_ret
      exact ⟨by simp [covN_false HNO.out], rfl⟩

/-- A letter. -/
def alpha (c : Int) : Bool := (decide (65 ≤ c) && decide (c ≤ 90)) || (decide (97 ≤ c) && decide (c ≤ 122))
def lower (c : Int) : Int := if 65 ≤ c ∧ c ≤ 90 then c + 32 else c
/-- The code points that a code point of a text matches. -/
def vars (fold : Bool) (c : Int) : List Int := if fold && alpha c then [lower c, lower c - 32] else [c]

set_option maxHeartbeats 800000 in
set_option maxRecDepth 100000 in
theorem alpha_any (c : Int) (w : World) : Calls Yba.prog 39 #[.int .i32 c] w fun e w' => e = .returned (.bool (alpha c)) ∧ w' = w := by
  by_cases h1 : 65 ≤ c
  · have d1 : decide (65 ≤ c) = true := by simpa using h1
    by_cases h2 : c ≤ 90
    · have d2 : decide (c ≤ 90) = true := by simpa using h2
      go_enter Yba.func39, Yba.ntmps39
      go_wp2
      go_ret
      exact ⟨by simp [alpha, d1, d2], rfl⟩
    · have d2 : decide (c ≤ 90) = false := by simpa using h2
      by_cases h3 : 97 ≤ c
      · have d3 : decide (97 ≤ c) = true := by simpa using h3
        go_enter Yba.func39, Yba.ntmps39
        go_wp2
        go_ret
        exact ⟨by simp [alpha, d1, d2, d3], rfl⟩
      · have d3 : decide (97 ≤ c) = false := by simpa using h3
        go_enter Yba.func39, Yba.ntmps39
        go_wp2
        go_ret
        exact ⟨by simp [alpha, d1, d2, d3], rfl⟩
  · have d1 : decide (65 ≤ c) = false := by simpa using h1
    have d3 : decide (97 ≤ c) = false := by simp; omega
    go_enter Yba.func39, Yba.ntmps39
    go_wp2
    go_ret
    exact ⟨by simp [alpha, d1, d3], rfl⟩

set_option maxHeartbeats 800000 in
set_option maxRecDepth 100000 in
theorem fold_any (c : Int) (w : World) (h0 : 0 ≤ c) (hc : c ≤ 1000000) : Calls Yba.prog 40 #[.int .i32 c] w fun e w' => e = .returned (.int .i32 (lower c)) ∧ w' = w := by
  by_cases h1 : 65 ≤ c
  · have d1 : decide (65 ≤ c) = true := by simpa using h1
    by_cases h2 : c ≤ 90
    · have d2 : decide (c ≤ 90) = true := by simpa using h2
      go_enter Yba.func40, Yba.ntmps40
      go_wp2
      go_ret
      exact ⟨by simp [lower, h1, h2]; omega, rfl⟩
    · have d2 : decide (c ≤ 90) = false := by simpa using h2
      go_enter Yba.func40, Yba.ntmps40
      go_wp2
      go_ret
      exact ⟨by simp [lower]; omega, rfl⟩
  · have d1 : decide (65 ≤ c) = false := by simpa using h1
    go_enter Yba.func40, Yba.ntmps40
    go_wp2
    go_ret
    exact ⟨by simp [lower]; omega, rfl⟩

/-- A terminal: its text (none: a range), whether it folds, its ends. -/
structure Tm where
  text : Option (List Int)
  fold : Bool
  lo : Int
  hi : Int

/-- The terminal t lies at the cells from o of the block T on; its text, if any, in blocks that were there. -/
structure TmAt (w : World) (T o : Nat) (t : Tm) : Prop where
  txt : match t.text with
    | none => w.cell? ⟨T, o, none⟩ = some (.slice none 0 0)
    | some xs => ∃ b off cap, w.cell? ⟨T, o, none⟩ = some (.slice (some ⟨b, off, none⟩) xs.length cap) ∧ ∀ i, i < xs.length → w.cell? ⟨b, off + i, none⟩ = some (.int .i32 (xs.getD i 0))
  fold : w.cell? ⟨T, o + 1, none⟩ = some (.bool t.fold)
  lo : w.cell? ⟨T, o + 2, none⟩ = some (.int .i32 t.lo)
  hi : w.cell? ⟨T, o + 3, none⟩ = some (.int .i32 t.hi)

theorem TmAt.below {w w' : World} {T o : Nat} {t : Tm} (h : TmAt w T o t) (hb : Below w.heap.size w w') : TmAt w' T o t := by
  have keep : ∀ {p : Addr} {v : Value}, w.cell? p = some v → w'.cell? p = some v := fun {p v} hp => by rw [hb.cell (block_lt_of_cell hp)]; exact hp
  refine ⟨?_, keep h.fold, keep h.lo, keep h.hi⟩
  have := h.txt
  cases hx : t.text with
  | none => rw [hx] at this; exact keep this
  | some xs =>
    rw [hx] at this
    obtain ⟨b, off, cap, h1, h2⟩ := this
    exact ⟨b, off, cap, keep h1, fun i hi => keep (h2 i hi)⟩

theorem eq_nil_no (W : World) (p : Addr) (l c : Nat) : Sem.run Yba.prog (binOp .eql 27 (.slice (some p) l c) (.slice none 0 0)) W = .ok (.bool false) W := by
  have := Lib.run_eql_slice_nil (P := Yba.prog) W 27 21 (some p) l c 0 0 Yba.underlying27
  simpa using this
theorem eq_nil_yes (W : World) : Sem.run Yba.prog (binOp .eql 27 (.slice none 0 0) (.slice none 0 0)) W = .ok (.bool true) W := by kernel_rfl

set_option maxHeartbeats 800000 in
set_option maxRecDepth 100000 in
theorem length_range (T o : Nat) (w : World) (h : w.cell? ⟨T, o, none⟩ = some (.slice none 0 0)) : Calls Yba.prog 19 #[.pointer (some ⟨T, o, none⟩)] w fun e w' => e = .returned (.int .i64 1) ∧ w' = w := by
  have hnil := eq_nil_yes
  go_enter Yba.func19, Yba.ntmps19
  go_wp2
  go_ret
  exact ⟨by simp, rfl⟩

/-- What variants hands back: a new slice with the code points xs. -/
def Fresh (w : World) (v : Value) (w' : World) (xs : List Int) : Prop :=
  ∃ cs, v = .slice (some ⟨w.heap.size, 0, none⟩) xs.length xs.length ∧ w' = w.alloc (.cells cs 21) ∧ cs = (xs.map fun x => Value.int .i32 x).toArray

set_option maxHeartbeats 800000 in
set_option maxRecDepth 100000 in
theorem variants_any (T o k b off n cap : Nat) (c : Int) (fold : Bool) (w : World) (h : w.cell? ⟨T, o, none⟩ = some (.slice (some ⟨b, off, none⟩) n cap)) (hk : k < n) (hn : n ≤ 10000)
    (hc : w.cell? ⟨b, off + k, none⟩ = some (.int .i32 c)) (hf : w.cell? ⟨T, o + 1, none⟩ = some (.bool fold)) (c0 : 0 ≤ c) (c1 : c ≤ 1000000) :
    Calls Yba.prog 26 #[.pointer (some ⟨T, o, none⟩), .int .i64 k] w fun e w' => ∃ v, e = .returned v ∧ Fresh w v w' (vars fold c) := by
  have b0 : (0 : Int) ≤ (k : Int) := by omega
  have b1 : (k : Int) < (n : Int) := by omega
  cases fold with
  | false =>
    go_enter Yba.func26, Yba.ntmps26
    go_wp2
    go_ret
    exact ⟨_, rfl, _, rfl, rfl, rfl⟩
  | true =>
    cases ha : alpha c with
    | false =>
      go_enter Yba.func26, Yba.ntmps26
      go_wp2_with fail
      refine (alpha_any c w).mono ?_
      rintro e w1 ⟨rfl, h1⟩
      cases h1
      rw [ha]
      go_wp2
      go_ret
      exact ⟨_, rfl, _, by simp [vars, ha], rfl, by simp [vars, ha]⟩
    | true =>
      have hl : 97 ≤ lower c ∧ lower c ≤ 122 := by
        simp [alpha] at ha
        unfold lower
        split <;> omega
      go_enter Yba.func26, Yba.ntmps26
      go_wp2_with fail
      refine (alpha_any c w).mono ?_
      rintro e w1 ⟨rfl, h1⟩
      cases h1
      rw [ha]
      go_wp2_with fail
      refine (fold_any c w c0 c1).mono ?_
      rintro e w1 ⟨rfl, h1⟩
      cases h1
      generalize hL : lower c = L at hl ⊢
      go_wp2
      go_ret
      refine ⟨_, rfl, _, by simp [vars, ha], rfl, ?_⟩
      simp [vars, ha, hL]
      omega
end Go.Proofs.Ybulkdamm
