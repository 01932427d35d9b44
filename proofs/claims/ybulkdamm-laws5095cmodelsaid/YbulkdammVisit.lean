import Derived.Test.YbulkdammFrame
import Derived.Deep.LoopGhost
namespace Go.Proofs.Ybulkdamm
open Go.RowKit
set_option linter.unusedVariables false

theorem or_zero (x : Int) (h0 : 0 ≤ x) (h1 : x < 2) : bits .or .u64 0 x = x := by
  have : x = 0 ∨ x = 1 := by omega
  rcases this with rfl | rfl <;> decide +kernel

/-- The graph: two nodes, their edges (each 0 or 1), and the sets of their own. -/
structure GR (w : World) (U O : Nat) (ua : Nat → Option Addr) (ub un uc : Nat → Nat) (e : Nat → Nat → Nat) (ob : Nat → Nat) (ow : Nat → Int) : Prop where
  row : ∀ v, v < 2 → w.cell? ⟨U, v, none⟩ = some (.slice (ua v) (un v) (uc v))
  edge : ∀ v j, v < 2 → j < un v → ua v = some ⟨ub v, 0, none⟩ ∧ e v j < 2 ∧ w.cell? ⟨ub v, j, none⟩ = some (.int .i32 (e v j))
  own : ∀ v, v < 2 → w.cell? ⟨O, v, none⟩ = some (.slice (some ⟨ob v, 0, none⟩) 1 1) ∧ w.cell? ⟨ob v, 0, none⟩ = some (.int .u64 (ow v)) ∧ 0 ≤ ow v ∧ ow v < 2
  len : ∀ v, v < 2 → un v ≤ 5000
theorem GR.below {w w' : World} {U O : Nat} {ua : Nat → Option Addr} {ub un uc : Nat → Nat} {e : Nat → Nat → Nat} {ob : Nat → Nat} {ow : Nat → Int} (h : GR w U O ua ub un uc e ob ow) {B : Nat} (hB : ∀ {p : Addr} {v : Value}, w.cell? p = some v → p.block < B) (hb : Below B w w') : GR w' U O ua ub un uc e ob ow :=
  ⟨fun v hv => keepB hb (h.row v hv) (hB (h.row v hv)), fun v j hv hj => by obtain ⟨h1, h2, h3⟩ := h.edge v j hv hj; exact ⟨h1, h2, keepB hb h3 (hB h3)⟩, fun v hv => by obtain ⟨h1, h2, h3⟩ := h.own v hv; exact ⟨keepB hb h1 (hB h1), keepB hb h2 (hB h2), h3⟩, h.len⟩
theorem GR.keep {w w' : World} {U O : Nat} {ua : Nat → Option Addr} {ub un uc : Nat → Nat} {e : Nat → Nat → Nat} {ob : Nat → Nat} {ow : Nat → Int} (h : GR w U O ua ub un uc e ob ow) (hb : Below w.heap.size w w') : GR w' U O ua ub un uc e ob ow :=
  h.below (fun hv => block_lt_of_cell hv) hb

/-- A node's set so far: none, or one word somewhere. -/
def SetV (w : World) (s : Value) : Prop := s = .slice none 0 0 ∨ ∃ D x, s = .slice (some ⟨D, 0, none⟩) 1 1 ∧ w.cell? ⟨D, 0, none⟩ = some (.int .u64 x)

set_option maxHeartbeats 3200000 in
set_option maxRecDepth 100000 in
theorem visit_any (v g k c R U O : Nat) (ua : Nat → Option Addr) (ub un uc : Nat → Nat) (e : Nat → Nat → Nat) (ob : Nat → Nat) (ow : Nat → Int) (sv : Nat → Value) (w0 w : World)
    (hv : v < 2) (hg : w.cell? ⟨g, k, none⟩ = some (.int .i32 v))
    (hU : w.cell? ⟨R, 0, none⟩ = some (.slice (some ⟨U, 0, none⟩) 2 2)) (hO : w.cell? ⟨R + 1, 0, none⟩ = some (.slice (some ⟨O, 0, none⟩) 2 2))
    (hS : w.cell? ⟨R + 3, 0, none⟩ = some (.slice (some ⟨R + 2, 0, none⟩) 2 2)) (hs : ∀ a, a < 2 → w.cell? ⟨R + 2, a, none⟩ = some (sv a)) (hfr : ∀ o, w.frozen? ⟨R + 2, o, none⟩ = false)
    (hsv : ∀ a, a < 2 → SetV w (sv a)) (hG : GR w U O ua ub un uc e ob ow) :
    Calls Yba.prog 31 #[.slice (some ⟨g, k, none⟩) 1 c, .pointer (some ⟨R + 1, 0, none⟩), .pointer (some ⟨R, 0, none⟩), .pointer (some ⟨R + 3, 0, none⟩)] w fun r w' => r = .returned (.tuple #[]) ∧
      ∃ (w2 : World) (D : Nat) (x : Int), Below w.heap.size w w2 ∧ w' = w2.setCell ⟨R + 2, v, none⟩ (.slice (some ⟨D, 0, none⟩) 1 1) ∧ w.heap.size ≤ D ∧ w2.cell? ⟨D, 0, none⟩ = some (.int .u64 x) ∧ ((∀ j, j < un v → sv (e v j) = .slice none 0 0) → x = ow v) := by
  have hmk : ∀ W : World, (Instr.makeSlice 68 (.int .i64 1) (.int .i64 1)).run Yba.prog W = .ok (.slice (some ⟨W.heap.size, 0, none⟩) 1 1) (W.alloc (.cells #[.int .u64 0] 61)) := fun W => by
    have := run_make68 1 (by omega) W
    rw [made_one] at this
    exact this
  obtain ⟨o1, o2, o3, o4⟩ := hG.own v hv
  have r1 := hG.row v hv
  have hlen := hG.len v hv
  obtain ⟨A, hA⟩ : ∃ A, A = ua v := ⟨_, rfl⟩
  rw [← hA] at r1
  have HAA := hid hA
  clear hA
  have hgl : g < w.heap.size := block_lt_of_cell hg
  have hRl : R < w.heap.size := block_lt_of_cell hU
  have hR1l : R + 1 < w.heap.size := block_lt_of_cell hO
  have hR2l : R + 2 < w.heap.size := block_lt_of_cell (hs 0 (by omega))
  have hR3l : R + 3 < w.heap.size := block_lt_of_cell hS
  have hOl : O < w.heap.size := block_lt_of_cell o1
  have hUl : U < w.heap.size := block_lt_of_cell r1
  have hobl : ob v < w.heap.size := block_lt_of_cell o2
  have hvi : (v : Int) < 2 := by omega
  have hv0 : (0 : Int) ≤ (v : Int) := by omega
  have HS := hid hs
  have HSV := hid hsv
  have HG := hid hG
  have HF := hid hfr
  clear hs hsv hG
  go_enter Yba.func31, Yba.ntmps31
  go_wp2_with fail
  go_region
  have hb1 : Below w.heap.size w (w.alloc (.cells #[.int .u64 0] 61)).drew := ((Below.refl _ w).alloc (Nat.le_refl _) _).drew
  have hD : (w.alloc (.cells #[.int .u64 0] 61)).drew.cell? ⟨w.heap.size, 0, none⟩ = some (.int .u64 0) := by simp
  have hDf : (w.alloc (.cells #[.int .u64 0] 61)).drew.frozen? ⟨w.heap.size, 0, none⟩ = false := by simp
  all_goals
    clear hmk
    generalize hW : (w.alloc (.cells #[.int .u64 0] 61)).drew = W at hb1 hD hDf ⊢
    have kW : ∀ {p : Addr} {u : Value}, w.cell? p = some u → W.cell? p = some u := fun hu => keepW hb1 hu
    have hg1 := kW hg
    have o1' := kW o1
    have hO1 := kW hO
    have hU1 := kW hU
    have o2' := kW o2
    have r1' := kW r1
    have HB1 := hid hb1
    clear hb1 kW hW
    go_wp2_with fail
    refine wp_loop_rounds 2 ?_
    rw [rounds_succ]
    go_wp2_with fail
    refine (addAll_one w.heap.size (ob v) 1 1 0 (ow v) W hD hDf o2').mono ?_
    rintro r w1 ⟨rfl, rfl⟩
    rw [or_zero _ o3 o4]
    have hb2 : Below w.heap.size w (W.setCell ⟨w.heap.size, 0, none⟩ (.int .u64 (ow v))) := HB1.out.setCell (p := ⟨w.heap.size, 0, none⟩) (Nat.le_refl _) _
    have hD2 : (W.setCell ⟨w.heap.size, 0, none⟩ (.int .u64 (ow v))).cell? ⟨w.heap.size, 0, none⟩ = some (.int .u64 (ow v)) := setCell_self _ _ _ _ _ hD
    have hDf2 : (W.setCell ⟨w.heap.size, 0, none⟩ (.int .u64 (ow v))).frozen? ⟨w.heap.size, 0, none⟩ = false := by rw [setCell_frozen]; exact hDf
    clear hg1 o1' hO1 hU1 o2' r1' HB1 hD hDf
    generalize hW : W.setCell ⟨w.heap.size, 0, none⟩ (.int .u64 (ow v)) = W1 at hb2 hD2 hDf2 ⊢
    have kW : ∀ {p : Addr} {u : Value}, w.cell? p = some u → W1.cell? p = some u := fun hu => keepW hb2 hu
    have hU2 := kW hU
    have r2 := kW r1
    have HB2 := hid hb2
    clear hb2 kW hW
    go_wp2_with fail
    clear hU2 r2
    go_loopw [37] (fun i wr => ∃ (j : Nat) (x : Int), j ≤ un v ∧ i = .int .i64 j ∧ Below w.heap.size w wr ∧ wr.cell? ⟨w.heap.size, 0, none⟩ = some (.int .u64 x) ∧ wr.frozen? ⟨w.heap.size, 0, none⟩ = false ∧ ((∀ j, j < un v → sv (e v j) = .slice none 0 0) → x = ow v)) (fun i _ => un v - (intOf i).toNat)
    case atStart => exact ⟨0, ow v, by omega, rfl, HB2.out, hD2, hDf2, fun _ => rfl⟩
    case round =>
      clear hD2 hDf2
      obtain ⟨j, x, hj, rfl, hb, hx, hxf, hall⟩ := hrel
      have HA := hid hall
      have HB := hid hb
      clear hb hall
      by_cases hlt : j < un v
      · obtain ⟨e1, e2, e3⟩ := HG.out.edge v j hv hlt
        have e1' := HAA.out.trans e1
        subst e1'
        clear e1
        have b1 : (j : Int) < (un v : Int) := by omega
        have e2' : ((e v j : Nat) : Int) < 2 := by omega
        have e3' := keepW HB.out e3
        have hS' := keepW HB.out hS
        have s1 := keepW HB.out (HS.out (e v j) e2)
        rcases HSV.out (e v j) e2 with hn | ⟨Dt, y, hn, hy⟩
        · rw [hn] at s1
          have HN := hid hn
          clear hn
          go_wp2_with fail
          refine (addAll_nil _ _).mono ?_
          rintro r w1 ⟨rfl, rfl⟩
          go_wp2
          exact ⟨⟨j + 1, x, by omega, by go_num, HB.out, hx, hxf, HA.out⟩, by simp [intOf]; omega⟩
        · rw [hn] at s1
          have hy' := keepW HB.out hy
          have hDl : Dt < w.heap.size := block_lt_of_cell hy
          have HN := hid hn
          clear hn hy
          go_wp2_with fail
          refine (addAll_one w.heap.size Dt 1 1 x y wr hx hxf hy').mono ?_
          rintro r w1 ⟨rfl, rfl⟩
          go_wp2
          refine ⟨?_, by simp [intOf]; omega⟩
          · refine ⟨j + 1, _, by omega, by go_num, HB.out.setCell (p := ⟨w.heap.size, 0, none⟩) (Nat.le_refl _) _, setCell_self _ _ _ _ _ hx, by rw [setCell_frozen]; exact hxf, fun ha => ?_⟩
            have := ha j hlt
            rw [HN.out] at this
            simp at this
      · have hjm : j = un v := by omega
        subst hjm
        have hS' := keepW HB.out hS
        have s1 := keepW HB.out (HS.out v hv)
        have hg2 := keepW HB.out hg
        have hf2 : wr.frozen? ⟨R + 2, v, none⟩ = false := by rw [frozenB HB.out (by exact hR2l)]; exact HF.out v
        go_wp2_with fail
        rw [rounds_succ]
        go_wp2_with fail
        refine wp_loop_rounds 2 ?_
        rw [rounds_succ]
        go_wp2_with fail
        rw [rounds_succ]
        go_wp2_with fail
        go_end0
        exact ⟨rfl, wr, w.heap.size, x, HB.out, by simp, Nat.le_refl _, hx, HA.out⟩
end Go.Proofs.Ybulkdamm
