import Derived.Test.YbulkdakwBase
namespace Go.Proofs.Ybulkdakw
open Go.RowKit
set_option linter.unusedVariables false

set_option maxHeartbeats 3200000 in
set_option maxRecDepth 100000 in
theorem law_C (ia ca qa : Option Addr) (ic cn cc qn qc : Nat) (qs : List Int) (sel : Nat) (w : World) (hq : qn ≤ 1024) (hcn : cn ≤ maxLen) (hsel : sel < 256)
    (hQ : Sl w.heap.size w (.slice qa qn qc) qs) :
    Calls Yba.prog 3 #[.slice ia 0 ic, .slice ca cn cc, .slice qa qn qc, .bool true, .int .u8 sel] w fun e w' => e = .returned (.bool true) ∧ Below w.heap.size w w' := by
  unfold maxLen at hcn
  have hmk : ∀ w : World, (Instr.makeSlice 25 (.int .i64 0) (.int .i64 0)).run Yba.prog w = .ok (.slice (some ⟨w.heap.size, 0, none⟩) 0 0) (w.alloc (.cells #[] 30)) := by
    intro w
    obtain ⟨Z, hZ, h⟩ := run_make30 0 (by omega)
    have hz : Z = #[] := by simpa using hZ
    subst hz
    exact h w
  have HQ := hid hQ
  clear hQ
  have hbel0 : Below w.heap.size w (w.alloc (.cells #[] 30)) := (Below.refl _ w).alloc (Nat.le_refl _) _
  have HQr : Hid (Sl w.heap.size (w.alloc (.cells #[] 30)) (.slice qa qn qc) qs) := HQ.out.keep (m := 0) (fun p u hp hu => by rw [hbel0.cell (block_lt_of_cell hu)]; exact hu)
  have hqle : qs.length ≤ 1024 := by
    obtain ⟨a, m, c, h1, h2, _⟩ := HQ.out
    injection h1 with _ h3 _
    omega
  have HQle := hid hqle
  clear hqle
  go_enter Yba.func3, Yba.ntmps3
  go_wp2
  refine wp_loop_rounds 1 ?_
  rw [rounds_succ]
  go_wp2_with fail
  refine (clone_any (xs := qs) HQr.out (by simp) HQle.out).mono ?_
  rintro e w1 ⟨ov, rfl, hSo, hb1⟩
  obtain ⟨oa, on, oc, ho1, ho2⟩ := hSo
  subst ho1
  have HSo : Hid (Sl w.heap.size w1 (.slice oa on oc) qs) := ⟨oa, on, oc, rfl, ho2⟩
  have hbel1 : Below w.heap.size w w1 := hbel0.trans (hb1.mono (by simp))
  clear ho2 hb1 HQ
  go_wp2_with (refine wpList_cert _ rfl rfl w.heap.size 0 rfl ?_; intro cells hcells)
  have kb : Below w1.heap.size w1 (w1.alloc (.cells cells 52)) := (Below.refl _ w1).alloc (Nat.le_refl _) _
  have HSoW : Hid (Sl w.heap.size (w1.alloc (.cells cells 52)) (.slice oa on oc) qs) := HSo.out.keep (m := 0) (Keep.below kb)
  have hcW : (w1.alloc (.cells cells 52)).cell? ⟨w1.heap.size, 41, none⟩ = some (.slice (some ⟨w.heap.size, 0, none⟩) 0 0) := by
    rw [cell_of_row _ _ _ _ _ _ (heap_alloc_new w1 _)]; exact hcells
  have hbelW : Below w.heap.size w (w1.alloc (.cells cells 52)) := hbel1.alloc hbel1.size _
  clear HSo kb hbel1
  refine (find_any w.heap.size w1.heap.size 0 0 [] (.slice oa on oc) qs _ (by omega) (by intro i hi; omega) HQle.out hcW HSoW.out (by intro i hi; omega)).mono ?_
  rintro e w2 ⟨⟨q0, rfl⟩, hcase⟩
  rcases hcase with ⟨f, hfk, _⟩ | ⟨_, rfl⟩
  · omega
  · go_wp2
    refine wp_loop_rounds 1 ?_
    rw [rounds_succ]
    go_wp2
    refine wp_loop_rounds 1 ?_
    rw [rounds_succ]
    go_wp2
    go_ret
    exact ⟨by simp, below_drewN hbelW _⟩
end Go.Proofs.Ybulkdakw
