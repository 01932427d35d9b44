import Derived.Test.YbulkdammRuns
namespace Go.Proofs.Ybulkdamm
open Go.RowKit
set_option linter.unusedVariables false

theorem info4 : (Yba.prog.info? 4).map (fun i => (i.zero, i.size, i.bytes)) = some (some (.bool false), 1, 1) := by kernel_rfl
theorem info_parts {P : Program} {t : TypeId} {z : Value} {s b : Nat} (h : (P.info? t).map (fun i => (i.zero, i.size, i.bytes)) = some (some z, s, b)) :
    ∃ i, P.info? t = some i ∧ i.zero = some z ∧ i.size = s ∧ i.bytes = b := by
  cases hi : P.info? t with
  | none => rw [hi] at h; cases h
  | some i => rw [hi] at h; simp at h; exact ⟨i, rfl, h⟩
def falses (n : Nat) : Array Value := madeCells #[.bool false] n
theorem run_make34 (n : Nat) (hn : n ≤ 1000000) (w : World) : (Instr.makeSlice 34 (.int .i64 n) (.int .i64 n)).run Yba.prog w = .ok (.slice (some ⟨w.heap.size, 0, none⟩) n n) (w.alloc (.cells (falses n) 4)) := by
  obtain ⟨i0, hi, hz0, hz1, hz2⟩ := info_parts info4
  have := run_make (P := Yba.prog) w 34 4 i0 _ Yba.underlying34 hi hz0 .i64 .i64 n n (by omega) (by omega) (by rw [hz2]; omega) (by omega)
  rw [hz1, Int.toNat_natCast, Nat.mul_one] at this
  exact this
theorem falses_at (w : World) (n i : Nat) (h : i < n) : (w.alloc (.cells (falses n) 4)).cell? ⟨w.heap.size, i, none⟩ = some (.bool false) := by
  rw [cell_of_row _ _ _ _ _ _ (Deep.blk_alloc_new w (.cells (falses n) 4))]
  have hs : (falses n).size = n := by simp [falses, madeCells]
  rw [Array.getElem?_eq_getElem (by rw [hs]; exact h)]
  simp [falses, madeCells, Nat.mod_one]

/-- The k-th code point of the text is covered, in both cases where it folds. -/
def alone (lo hi : Nat → Int) (n : Nat) (fold : Bool) (x : Nat → Int) (k : Nat) : Bool := !anyNot lo hi n (fun i => (vars fold (x k)).getD i 0) (vars fold (x k)).length

theorem fresh_cells {w : World} {xs : List Int} : ∀ i, i < xs.length → (w.alloc (.cells (xs.map fun x => Value.int .i32 x).toArray 21)).cell? ⟨w.heap.size, i, none⟩ = some (.int .i32 (xs.getD i 0)) := by
  intro i hi
  rw [cell_of_row _ _ _ _ _ _ (Deep.blk_alloc_new w (.cells (xs.map fun x => Value.int .i32 x).toArray 21))]
  simp [List.getD_eq_getElem?_getD, hi]

/-- Behind k rounds: the variable V holds the set, the first k of the N Booleans in A are as al says. -/
structure L1 (w wr : World) (V A S N k : Nat) (al : Nat → Bool) : Prop where
  below : Below w.heap.size w wr
  v : wr.cell? ⟨V, 0, none⟩ = some (.pointer (some ⟨S, 0, none⟩))
  a : ∀ i, i < N → wr.cell? ⟨A, i, none⟩ = some (.bool (if i < k then al i else false))
  fr : ∀ o, wr.frozen? ⟨A, o, none⟩ = false
  hA : w.heap.size ≤ A
  hV : V ≠ A
theorem L1.step {w wr w2 : World} {V A S N k : Nat} {al : Nat → Bool} (h : L1 w wr V A S N k al) (hN : 1 ≤ N) (hb : Below wr.heap.size wr w2) : L1 w w2 V A S N k al := by
  have hAl : A < wr.heap.size := block_lt_of_cell (h.a 0 (by omega))
  refine ⟨h.below.trans (hb.mono h.below.size), by rw [hb.cell (block_lt_of_cell h.v)]; exact h.v, fun i hi => by rw [hb.cell (block_lt_of_cell (h.a i hi))]; exact h.a i hi, fun o => ?_, h.hA, h.hV⟩
  rw [hb.frozen (p := ⟨A, o, none⟩) hAl]
  exact h.fr o
theorem L1.put {w wr : World} {V A S N k : Nat} {al : Nat → Bool} (h : L1 w wr V A S N k al) (hk : k < N) : L1 w (wr.setCell ⟨A, k, none⟩ (.bool (al k))) V A S N (k + 1) al := by
  refine ⟨h.below.setCell (p := ⟨A, k, none⟩) h.hA _, ?_, fun i hi => ?_, fun o => by rw [World.frozen?_setCell]; exact h.fr o, h.hA, h.hV⟩
  · rw [World.cell?_setCell_other _ _ _ _ (fun e => h.hV (congrArg Addr.block e).symm)]
    exact h.v
  · by_cases e : i = k
    · subst e
      rw [World.cell?_setCell_same _ _ _ (h.a i hi), if_pos (by omega)]
    · rw [World.cell?_setCell_other _ _ _ _ (fun e2 => e (congrArg Addr.off e2).symm), h.a i hi]
      by_cases hik : i < k
      · rw [if_pos hik, if_pos (by omega)]
      · rw [if_neg hik, if_neg (by omega)]
theorem L1.start (w : World) (S N : Nat) (al : Nat → Bool) : L1 w ((w.alloc (.cells #[.pointer (some ⟨S, 0, none⟩)] 62)).alloc (.cells (falses N) 4)) w.heap.size (w.heap.size + 1) S N 0 al := by
  refine ⟨((Below.refl _ w).alloc (Nat.le_refl _) _).alloc (by simp) _, ?_, fun i hi => ?_, fun o => ?_, by omega, by omega⟩
  · rw [World.cell?_alloc_past _ _ _ (by simp), cell_of_row _ _ _ _ _ _ (Deep.blk_alloc_new w (.cells #[.pointer (some ⟨S, 0, none⟩)] 62))]
    rfl
  · have := falses_at (w.alloc (.cells #[.pointer (some ⟨S, 0, none⟩)] 62)) N i hi
    rw [World.size_alloc] at this
    rw [this]; simp
  · have := World.frozen?_alloc_new (w.alloc (.cells #[.pointer (some ⟨S, 0, none⟩)] 62)) (falses N) 4 o
    rwa [World.size_alloc] at this

/-- All of the first i. -/
def pre (al : Nat → Bool) (i : Nat) : Bool := !hasFalse al i
theorem L1.skip {w wr : World} {V A S N k : Nat} {al : Nat → Bool} (h : L1 w wr V A S N k al) (hk : al k = false) : L1 w wr V A S N (k + 1) al := by
  refine ⟨h.below, h.v, fun i hi => ?_, h.fr, h.hA, h.hV⟩
  rw [h.a i hi]
  by_cases e : i = k
  · subst e; rw [if_neg (by omega), if_pos (by omega), hk]
  · by_cases hik : i < k
    · rw [if_pos hik, if_pos (by omega)]
    · rw [if_neg hik, if_neg (by omega)]
theorem L1.start2 {w wr : World} {V A S N k : Nat} {al : Nat → Bool} (h : L1 w wr V A S N k al) (n : Nat) (al2 : Nat → Bool) (h0 : al2 0 = true) :
    L1 w (wr.alloc (.cells ((falses n).setIfInBounds 0 (.bool true)) 4)) V wr.heap.size S n 1 al2 := by
  have hvl : V < wr.heap.size := block_lt_of_cell h.v
  have hs : (falses n).size = n := by simp [falses, madeCells]
  refine ⟨h.below.alloc h.below.size _, ?_, fun i hi => ?_, fun o => World.frozen?_alloc_new _ _ _ _, h.below.size, by omega⟩
  · rw [World.cell?_alloc_past _ _ _ hvl]; exact h.v
  · rw [cell_of_row _ _ _ _ _ _ (Deep.blk_alloc_new wr (.cells ((falses n).setIfInBounds 0 (.bool true)) 4))]
    by_cases e : i = 0
    · subst e
      rw [if_pos (by omega), h0]
      simp [hs, hi]
    · rw [if_neg (by omega)]
      rw [Array.getElem?_setIfInBounds, if_neg (fun e2 => e e2.symm)]
      rw [Array.getElem?_eq_getElem (by rw [hs]; exact hi)]
      simp [falses, madeCells, Nat.mod_one]

set_option maxHeartbeats 3200000 in
set_option maxRecDepth 100000 in
theorem runs_word (p : Value) (T o b off N tc S R n cap : Nat) (fold : Bool) (lo hi x : Nat → Int) (w : World) (hN : 1 ≤ N) (hN2 : N ≤ 8192)
    (ht : w.cell? ⟨T, o, none⟩ = some (.slice (some ⟨b, off, none⟩) N tc)) (hx : ∀ i, i < N → w.cell? ⟨b, off + i, none⟩ = some (.int .i32 (x i)) ∧ 0 ≤ x i ∧ x i ≤ 1000000)
    (hf : w.cell? ⟨T, o + 1, none⟩ = some (.bool fold)) (hS : SetAt w S R n cap lo hi) :
    Calls Yba.prog 14 #[p, .pointer (some ⟨T, o, none⟩), .pointer (some ⟨S, 0, none⟩)] w fun e w' => Below w.heap.size w w' ∧ e = .returned (.bool (!hasFalse (alone lo hi n fold x) N)) := by
  have hnil := eq_nil_no
  have hmk := run_make34 N (by omega)
  have HX := hid hx
  have HS := hid hS
  have HF := hid hf
  have HT := hid ht
  have hTl := block_lt_of_cell ht
  have hTl2 : T < w.heap.size + 1 := by have : T < w.heap.size := hTl; omega
  clear hx hS hf
  go_enter Yba.func14, Yba.ntmps14
  go_wp2_with fail
  have L0 := hid (L1.start w S N (alone lo hi n fold x))
  generalize hA : w.heap.size + 1 = A at *
  generalize hV : w.heap.size = V at *
  generalize ((w.alloc (.cells #[.pointer (some ⟨S, 0, none⟩)] 62)).alloc (.cells (falses N) 4)) = w0 at *
  go_loopw [45] (fun i wr => ∃ k : Nat, k ≤ N ∧ i = .int .i64 k ∧ L1 w wr V A S N k (alone lo hi n fold x)) (fun i _ => N - (intOf i).toNat)
  case atStart => exact ⟨0, by omega, rfl, L0.out⟩
  case round =>
    obtain ⟨k, hk, rfl, hl⟩ := hrel
    have HL := hid hl
    clear hl
    by_cases hlt : k < N
    · have q1 : wr.cell? ⟨T, o, none⟩ = some (.slice (some ⟨b, off, none⟩) N tc) := by rw [HL.out.below.cell (block_lt_of_cell HT.out)]; exact HT.out
      have q2 : wr.cell? ⟨b, off + k, none⟩ = some (.int .i32 (x k)) := by rw [HL.out.below.cell (block_lt_of_cell (HX.out k hlt).1)]; exact (HX.out k hlt).1
      have q3 : wr.cell? ⟨T, o + 1, none⟩ = some (.bool fold) := by rw [HL.out.below.cell (block_lt_of_cell HF.out)]; exact HF.out
      have b1 : (k : Int) < (N : Int) := by omega
      have hvr := variants_any T o k b off N tc (x k) fold wr q1 hlt (by omega) q2 q3 (HX.out k hlt).2.1 (HX.out k hlt).2.2
      have HVR := hid hvr
      clear hvr q1 q2 q3
      go_wp2_with fail
      refine HVR.out.mono ?_
      rintro e w1 ⟨v, rfl, cs, rfl, hw1, hcs⟩
      subst hcs
      have hb1 : Below wr.heap.size wr w1 := by rw [hw1]; exact (Below.refl _ wr).alloc (Nat.le_refl _) _
      have l1 := HL.out.step hN hb1
      have hcon := contains_any wr.heap.size V S R n cap (vars fold (x k)).length (vars fold (x k)).length lo hi (fun i => (vars fold (x k)).getD i 0) w1 (by unfold vars; split <;> simp) (by rw [hw1]; exact fresh_cells) l1.v (HS.out.below l1.below)
      have HC := hid hcon
      have HL1 := hid l1
      clear hcon l1 hb1 HVR hw1
      have hal : alone lo hi n fold x k = !(anyNot lo hi n (fun i => (vars fold (x k)).getD i 0) (vars fold (x k)).length) := rfl
      have HAL := hid hal
      clear hal
      generalize anyNot lo hi n (fun i => (vars fold (x k)).getD i 0) (vars fold (x k)).length = bb at HC HAL
      generalize (vars fold (x k)).length = ln at HC ⊢
      go_wp2_with fail
      refine HC.out.mono ?_
      rintro e w2 ⟨hb2, rfl⟩
      have l2 := HL1.out.step hN hb2
      have r1 := l2.a k hlt
      have r2 := l2.fr k
      have HL2 := hid l2
      clear l2 hb2 HC
      go_wp2
      refine ⟨⟨k + 1, by omega, by go_num, ?_⟩, by simp [intOf]; omega⟩
      have := HL2.out.put hlt
      rwa [HAL.out] at this
    · have hkn : k = N := by omega
      subst hkn
      have hcb := containsB_any A k k (alone lo hi n fold x) wr (by omega) (fun i hi' => by have := HL.out.a i hi'; rwa [if_pos hi'] at this)
      have HCB := hid hcb
      clear hcb
      generalize hbb : hasFalse (alone lo hi n fold x) k = bb at HCB
      go_wp2_with fail
      refine HCB.out.mono ?_
      rintro e w2 ⟨h2, rfl⟩
      cases h2
      cases bb with
      | false =>
        go_wp2
        go_ret
        exact ⟨HL.out.below, by simp [hbb]⟩
      | true =>
        have q1 : wr.cell? ⟨T, o, none⟩ = some (.slice (some ⟨b, off, none⟩) k tc) := by rw [HL.out.below.cell (block_lt_of_cell HT.out)]; exact HT.out
        have hmk2 : ∀ W : World, (Instr.makeSlice 34 (.int .i64 ((k : Int) + 1)) (.int .i64 ((k : Int) + 1))).run Yba.prog W = .ok (.slice (some ⟨W.heap.size, 0, none⟩) (k + 1) (k + 1)) (W.alloc (.cells (falses (k + 1)) 4)) := fun W => by
          have := run_make34 (k + 1) (by omega) W
          simpa using this
        have hTr : T < wr.heap.size := block_lt_of_cell q1
        have hTn : T ≠ wr.heap.size := by omega
        have hTn2 : wr.heap.size ≠ T := by omega
        have c0 := falses_at wr (k + 1) 0 (by omega)
        have z0 := World.frozen?_alloc_new wr (falses (k + 1)) 4 0
        clear HCB
        go_wp2_with fail
        have l2 := HL.out.start2 (k + 1) (pre (alone lo hi n fold x)) rfl
        have ka : ∀ i, i < k → (wr.alloc (.cells ((falses (k + 1)).setIfInBounds 0 (.bool true)) 4)).cell? ⟨A, i, none⟩ = some (.bool (alone lo hi n fold x i)) := fun i hi' => by
          have := HL.out.a i hi'
          rw [if_pos hi'] at this
          rw [World.cell?_alloc_past _ _ _ (block_lt_of_cell this)]
          exact this
        have hAr : A < wr.heap.size := block_lt_of_cell (HL.out.a 0 (by omega))
        have HL2 := hid l2
        have KA := hid ka
        have HBB := hid hbb
        clear l2 ka c0 z0 q1 hbb hTn hTn2 hTr
        generalize (wr.alloc (.cells ((falses (k + 1)).setIfInBounds 0 (.bool true)) 4)) = w5 at *
        have hAA : A ≠ wr.heap.size := by omega
        generalize wr.heap.size = A2 at *
        go_loopw [81] (fun i wq => ∃ j : Nat, j ≤ k ∧ i = .int .i64 j ∧ L1 w wq V A2 S (k + 1) (j + 1) (pre (alone lo hi n fold x)) ∧ ∀ i, i < k → wq.cell? ⟨A, i, none⟩ = some (.bool (alone lo hi n fold x i))) (fun i _ => k - (intOf i).toNat)
        case atStart => exact ⟨0, by omega, rfl, HL2.out, KA.out⟩
        case round =>
          obtain ⟨j, hj, rfl, hl, hka⟩ := hrel
          have H3 := hid hl
          have K3 := hid hka
          clear hl hka
          by_cases hlt : j < k
          · have r1 := H3.out.a j (by omega)
            rw [if_pos (by omega)] at r1
            have b1 : (j : Int) < (k : Int) := by omega
            have b2 : (j : Int) < (k : Int) + 1 := by omega
            have r2 := K3.out j hlt
            cases hp : hasFalse (alone lo hi n fold x) j with
            | true =>
              have hnx : pre (alone lo hi n fold x) (j + 1) = false := by simp [pre, hasFalse, hp]
              rw [pre, hp] at r1
              have HNX := hid hnx
              clear hnx hp
              go_wp2
              refine ⟨⟨j + 1, by omega, by go_num, H3.out.skip HNX.out, K3.out⟩, by simp [intOf]; omega⟩
            | false =>
              rw [pre, hp] at r1
              have qv := H3.out.v
              have qs : wr.cell? ⟨S, 1, none⟩ = some (.slice none 0 0) := by rw [H3.out.below.cell (block_lt_of_cell HS.out.none')]; exact HS.out.none'
              cases ha : alone lo hi n fold x j with
              | true =>
                rw [ha] at r2
                have hnx : pre (alone lo hi n fold x) (j + 1) = true := by simp [pre, hasFalse, hp, ha]
                have put := H3.out.put (k := j + 1) (by omega)
                rw [hnx] at put
                have r3 := H3.out.a (j + 1) (by omega)
                have r4 := H3.out.fr (j + 1)
                have b3 : (j : Int) + 1 < (k : Int) + 1 := by omega
                have hSA : S ≠ A2 := by
                  have := block_lt_of_cell HS.out.one
                  have h2 := H3.out.hA
                  intro e; subst e; simp at this; omega
                have hVA := H3.out.hV
                have PUT := hid put
                clear hnx put hp ha
                go_wp2
                refine wp_loop_rounds 1 ?_
                rw [rounds_succ]
                go_wp2
                refine ⟨⟨j + 1, by omega, by go_num, PUT.out, fun i hi' => ?_⟩, by simp [intOf]; omega⟩
                rw [World.cell?_setCell_other _ _ _ _ (fun e => hAA (congrArg Addr.block e).symm)]
                exact K3.out i hi'
              | false =>
                rw [ha] at r2
                have hnx : pre (alone lo hi n fold x) (j + 1) = false := by simp [pre, hasFalse, hp, ha]
                have HNX := hid hnx
                clear hnx hp ha
                go_wp2
                refine wp_loop_rounds 1 ?_
                rw [rounds_succ]
                go_wp2
                exact ⟨⟨j + 1, by omega, by go_num, H3.out.skip HNX.out, K3.out⟩, by simp [intOf]; omega⟩
          · have hjk : j = k := by omega
            subst hjk
            have r1 := H3.out.a j (by omega)
            rw [if_pos (by omega), pre, HBB.out] at r1
            have q1 : wr.cell? ⟨T, o, none⟩ = some (.slice (some ⟨b, off, none⟩) j tc) := by rw [H3.out.below.cell (block_lt_of_cell HT.out)]; exact HT.out
            have b2 : (j : Int) < (j : Int) + 1 := by omega
            go_wp2
            go_ret
            exact ⟨H3.out.below, by rw [HBB.out]; rfl⟩
end Go.Proofs.Ybulkdamm
