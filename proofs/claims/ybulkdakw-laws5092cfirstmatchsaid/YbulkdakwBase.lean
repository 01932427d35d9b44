import Derived.Test.YbulkdakwEnt
import Derived.LaidEqlPtr
namespace Go.Proofs.Ybulkdakw
open Go.RowKit
set_option linter.unusedVariables false

theorem info30 : (Yba.prog.info? 30).map (fun i => (i.zero, i.size, i.bytes)) = some (some (.agg #[.slice none 0 0, .bool false, .slice none 0 0]), 3, 56) := by kernel_rfl

theorem run_make30 (n : Nat) (hn : n ≤ 1024) : ∃ Z : Array Value, Z.size = n * 3 ∧ ∀ w : World, (Instr.makeSlice 25 (.int .i64 n) (.int .i64 n)).run Yba.prog w = .ok (.slice (some ⟨w.heap.size, 0, none⟩) n n) (w.alloc (.cells Z 30)) := by
  obtain ⟨i0, hi, hz0, hz1, hz2⟩ := info_parts info30
  refine ⟨madeCells (Value.agg #[.slice none 0 0, .bool false, .slice none 0 0]).cells (n * 3), by simp [madeCells], fun w => ?_⟩
  have := run_make (P := Yba.prog) w 25 30 i0 _ Yba.underlying25 hi hz0 .i64 .i64 n n (by omega) (by omega) (by rw [hz2]; omega) (by omega)
  rw [Int.toNat_natCast, hz1] at this
  exact this

theorem eq6_same {E : Nat} {w : World} {v1 v2 : Value} {xs : List Int} (h1 : Sl E w v1 xs) (h2 : Sl E w v2 xs) (hx : xs.length ≤ 1024) :
    Calls Yba.prog 6 #[v1, v2] w fun e w' => e = .returned (.bool true) ∧ ∃ k, w' = w.drewN k := by
  have := eq6_any h1 h2 hx hx
  simpa using this

/-- A contract met in the middle of a region that draws, as the walk has it. -/
theorem quiet_add {f : FuncId} {args : Array Value} {W : World} {q x : Nat} {v : Value} (h : Calls Yba.prog f args (W.drewN (q + x)) fun e w' => e = .returned v ∧ ∃ m, w' = (W.drewN (q + x)).drewN m) :
    Calls Yba.prog f args (W.drewN (q + x)) fun e w'' => e = .returned v ∧ ∃ n, w'' = W.drewN (q + n) :=
  h.mono fun _ _ ⟨he, m, hm⟩ => ⟨he, x + m, by rw [hm, World.drewN_drewN, Nat.add_assoc]⟩

/-- The slice of slices that came in. -/
def CameL (E : Nat) (w : World) (a : Option Addr) (n : Nat) (L : List (List Int)) : Prop :=
  n = 0 ∨ ∃ b off, a = some ⟨b, off, none⟩ ∧ b < w.heap.size ∧ ∀ i, i < n → ∃ v, w.cell? ⟨b, off + i, none⟩ = some v ∧ Sl E w v (L.getD i [])
/-- The slice of bools that came in. -/
def CameB (w : World) (a : Option Addr) (n : Nat) (cs : List Bool) : Prop :=
  n = 0 ∨ ∃ b off, a = some ⟨b, off, none⟩ ∧ b < w.heap.size ∧ ∀ i, i < n → w.cell? ⟨b, off + i, none⟩ = some (.bool (cs.getD i false))

set_option maxHeartbeats 1600000 in
set_option maxRecDepth 100000 in
theorem law_long (ia ca qa : Option Addr) (n ic cn cc qn qc : Nat) (pick : Bool) (sel : Int) (w : World) (hn : n ≤ maxLen) (hq : qn ≤ maxLen) (h : 1024 < n ∨ 1024 < qn) :
    Calls Yba.prog 3 #[.slice ia n ic, .slice ca cn cc, .slice qa qn qc, .bool pick, .int .u8 sel] w fun e w' => e = .returned (.bool true) ∧ Below w.heap.size w w' := by
  unfold maxLen at hn hq
  by_cases h1 : 1024 < n
  · go_enter Yba.func3, Yba.ntmps3
    go_wp2
    go_ret
    exact ⟨rfl, Below.refl _ _⟩
  · have h2 : 1024 < qn := by omega
    go_enter Yba.func3, Yba.ntmps3
    go_wp2
    go_ret
    exact ⟨rfl, Below.refl _ _⟩

end Go.Proofs.Ybulkdakw
