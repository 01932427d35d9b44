import Derived.Test.YbulkdakwEq
namespace Go.Proofs.Ybulkdakw
open Go.RowKit
set_option linter.unusedVariables false

theorem info3 : (Yba.prog.info? 3).map (fun i => (i.zero, i.size, i.bytes)) = some (some (.int .i64 0), 1, 8) := by kernel_rfl

set_option maxHeartbeats 800000 in
set_option maxRecDepth 100000 in
theorem clone_nil (w : World) : Calls Yba.prog 4 #[.slice none 0 0] w fun e w' => e = .returned (.slice none 0 0) ∧ w' = w := by
  have hnil : ∀ w : World, (binOp .eql 24 (.slice none 0 0) (.slice none 0 0)).run Yba.prog w = .ok (.bool true) w := fun w => by kernel_rfl
  go_enter Yba.func4, Yba.ntmps4
  go_wp2
  go_ret
  exact ⟨rfl, rfl⟩

set_option maxHeartbeats 800000 in
set_option maxRecDepth 100000 in
theorem clone_some (b off n c : Nat) (xs : List Int) (w : World) (hn : 0 < n) (hn2 : n ≤ 1024) (hx : n = xs.length)
    (h1 : ∀ j, j < n → w.cell? ⟨b, off + j, none⟩ = some (.int .i64 (xs.getD j 0))) :
    Calls Yba.prog 4 #[.slice (some ⟨b, off, none⟩) n c] w fun e w' => ∃ g cap, e = .returned (.slice (some ⟨g, 0, none⟩) n cap) ∧ w.heap.size ≤ g ∧ (∀ j, j < n → w'.cell? ⟨g, 0 + j, none⟩ = some (.int .i64 (xs.getD j 0))) ∧ Below w.heap.size w w' := by
  obtain ⟨i0, hi, hz0, hz1, hz2⟩ := info_parts info3
  have hnil : ∀ w : World, (binOp .eql 24 (.slice (some ⟨b, off, none⟩) n c) (.slice none 0 0)).run Yba.prog w = .ok (.bool false) w := fun w => by
    have := Lib.run_eql_slice_nil (P := Yba.prog) w 24 3 (some ⟨b, off, none⟩) n c 0 0 Yba.underlying24
    simpa using this
  have H1 := hid h1
  have HX := hid hx
  clear h1 hx
  go_enter Yba.func4, Yba.ntmps4
  go_wp2_with (at_builtin; refine wpList_append_lies _ rfl _ _ 24 rfl w.heap.size 3 i0 (.int .i64 0) 1 8 Yba.underlying24 hi hz0 hz1 hz2 rfl (by decide) _ 0 [] rfl ?c0 ⟨b, off, none⟩ n c (xs.map (Value.int .i64)) rfl ?c1 ?c2 ?c3 hn ?c4 ?c5 ?c6 (w.heap.size + 1) (by simp) ?_)
  case c0 => exact World.ownsRow_made w #[] 0 (Nat.le_refl _) (by simp [maxLen]) rfl
  case c1 => have := HX.out; simp; omega
  case c2 =>
    intro j u hu
    have hj : j < xs.length := by
      rcases Nat.lt_or_ge j xs.length with h1 | h1
      · exact h1
      · rw [List.getElem?_eq_none (by simpa using h1)] at hu; cases hu
    have h1 := H1.out j (by have := HX.out; omega)
    rw [Addr.add_lit, ((Below.refl _ w).alloc (Nat.le_refl _) _).cell (block_lt_of_cell h1), h1]
    rw [← hu]
    simp [hj]
  case c3 =>
    intro u hu
    obtain ⟨x, _, rfl⟩ := List.mem_map.1 hu
    rfl
  case c4 => unfold maxLen; omega
  case c5 => omega
  case c6 => simp
  · intro g cap w1 hown1 hg1 hat1 _
    have hb : Below w.heap.size w w1 := ((Below.refl _ w).alloc (Nat.le_refl _) _).grown hg1 (by simp) (by simp [Value.ownBlock])
    have hge : w.heap.size ≤ g := by
      rcases hat1 with h | h
      · simp [Value.ownBlock] at h; omega
      · omega
    have hc : ∀ j, j < n → w1.cell? ⟨g, 0 + j, none⟩ = some (.int .i64 (xs.getD j 0)) := by
      intro j hj
      have hj' : j < xs.length := by have := HX.out; omega
      have := hown1.cells rfl j (.int .i64 (xs.getD j 0)) (by simp [hj'])
      rw [Addr.add_lit] at this
      exact this
    have HC := hid hc
    clear hown1 hg1 hat1 hc
    go_wp2
    go_ret
    exact ⟨g, cap, rfl, hge, HC.out, hb⟩

set_option maxHeartbeats 800000 in
set_option maxRecDepth 100000 in
theorem clone_zero (a : Addr) (c : Nat) (w : World) :
    Calls Yba.prog 4 #[.slice (some a) 0 c] w fun e w' => e = .returned (.slice (some ⟨w.heap.size, 0, none⟩) 0 0) ∧ w' = w.alloc (.cells #[] 3) := by
  have hnil : ∀ w : World, (binOp .eql 24 (.slice (some a) 0 c) (.slice none 0 0)).run Yba.prog w = .ok (.bool false) w := fun w => by
    have := Lib.run_eql_slice_nil (P := Yba.prog) w 24 3 (some a) 0 c 0 0 Yba.underlying24
    simpa using this
  go_enter Yba.func4, Yba.ntmps4
  go_wp2
  go_ret
  exact ⟨rfl, rfl⟩

theorem clone_any {E : Nat} {w : World} {v : Value} {xs : List Int} (h : Sl E w v xs) (hE : E < w.heap.size) (hx : xs.length ≤ 1024) :
    Calls Yba.prog 4 #[v] w fun e w' => ∃ v', e = .returned v' ∧ Sl E w' v' xs ∧ Below w.heap.size w w' := by
  obtain ⟨a, n, c, rfl, h2, h3, h4⟩ := h
  cases a with
  | none =>
    obtain ⟨rfl, rfl⟩ := h3 rfl
    refine (clone_nil w).mono ?_
    rintro e w' ⟨rfl, rfl⟩
    exact ⟨_, rfl, ⟨none, 0, 0, rfl, h2, fun _ => ⟨rfl, rfl⟩, Or.inl rfl⟩, Below.refl _ _⟩
  | some a =>
    by_cases hn : n = 0
    · subst hn
      refine (clone_zero a c w).mono ?_
      rintro e w' ⟨rfl, rfl⟩
      exact ⟨_, rfl, ⟨_, 0, 0, rfl, h2, by simp, Or.inl rfl⟩, (Below.refl _ w).alloc (Nat.le_refl _) _⟩
    · rcases h4 with h4 | ⟨b, off, h5, h6, h7⟩
      · exact absurd h4 hn
      · obtain rfl := Option.some.inj h5
        refine (clone_some b off n c xs w (by omega) (by omega) h2 h7).mono ?_
        rintro e w' ⟨g, cap, rfl, hg, hc, hb⟩
        exact ⟨_, rfl, ⟨_, n, cap, rfl, h2, by simp, Or.inr ⟨g, 0, rfl, by omega, hc⟩⟩, hb⟩
end Go.Proofs.Ybulkdakw
