import Derived.Test.YbulkdammDoorUnite
namespace Go.Proofs.YbulkdammDoor
open Go.RowKit
set_option linter.unusedVariables false

/-- What the union m, a set, needs of the world. -/
structure Core (base M m U uc nU B mc : Nat) (w : World) (f : Nat → Value) : Prop where
  hbM : base ≤ M
  mb : MB w M f
  e5 : f 5 = .slice (some ⟨U, 0, none⟩) nU uc
  e6 : f 6 = .slice (some ⟨B, 0, none⟩) (fs (m + 1)) mc
  cells : ∀ r, r < 6 → w.cell? ⟨U, m * 6 + r, none⟩ = (uni 0 0 (fs m) (fs (m + 1)))[r]?
  um : m < nU
  uU : nU ≤ 40
  hcap : fs (m + 1) ≤ mc
  UM : U ≠ M
  BM : B ≠ M
  sr : SR w B (fs m) (m + 2)
  hm : m ≤ 30

theorem Core.hbw {base M m U uc nU B mc : Nat} {w : World} {f : Nat → Value} (h : Core base M m U uc nU B mc w f) : base ≤ w.heap.size := Nat.le_of_lt (Nat.lt_of_le_of_lt h.hbM h.mb.lt)
theorem Core.step {base M m U uc nU B mc : Nat} {w w' : World} {f f' : Nat → Value} (h : Core base M m U uc nU B mc w f) (hc : Ch base [M] w w') (hmb : MB w' M f') (he : ∀ i, i < 16 → f' i = f i) : Core base M m U uc nU B mc w' f' := by
  refine ⟨h.hbM, hmb, by rw [he 5 (by omega)]; exact h.e5, by rw [he 6 (by omega)]; exact h.e6, fun r hr => ?_, h.um, h.uU, h.hcap, h.UM, h.BM, fun j hj => ?_, h.hm⟩
  · have := h.cells r hr
    rw [hc.cell (p := ⟨U, m * 6 + r, none⟩) ?_ (by simpa using h.UM)]
    · exact this
    · have h6 : (uni 0 0 (fs m) (fs (m + 1))).length = 6 := rfl
      rw [List.getElem?_eq_getElem (by rw [h6]; exact hr)] at this
      exact block_lt_of_cell this
  · have := h.sr j hj
    rw [hc.cell (p := ⟨B, fs m + j, none⟩) (block_lt_of_cell this) (by simpa using h.BM)]
    exact this
theorem Core.ch {base M m U uc nU B mc : Nat} {w w' : World} {f : Nat → Value} (h : Core base M m U uc nU B mc w f) (hc : Ch base [] w w') : Core base M m U uc nU B mc w' f :=
  h.step (hc.mono (by simp)) (h.mb.ch hc (by simp)) (fun _ _ => rfl)
theorem Core.setM {base M m U uc nU B mc : Nat} {w : World} {f : Nat → Value} (h : Core base M m U uc nU B mc w f) (k : Nat) (v : Value) (hk : k = 16 ∨ k = 17) : Core base M m U uc nU B mc (w.setCell ⟨M, k, none⟩ v) (upd f k v) :=
  h.step ((Ch.refl base [M] w).setCell M k v h.hbM (by simp)) (h.mb.set k v (by omega)) (fun i hi => by unfold upd; rw [if_neg (by omega)])

set_option maxHeartbeats 1600000 in
set_option maxRecDepth 100000 in
theorem mem_core (base M m U uc nU B mc k : Nat) (x : Int) (f : Nat → Value) (w : World) (hxm : -2 - x = (m : Int)) (hS : Core base M m U uc nU B mc w f) (hk : k < 2) :
    Calls Ybad.prog 6 #[.pointer (some ⟨M, 0, none⟩), .int .i32 x, .int .i64 k] w fun e w' => Ch base [] w w' ∧ ∃ cap, e = .returned (.slice (some ⟨B, fs m, none⟩) (m + 2) cap) := by
  have hm := hS.hm
  have k5 := hS.mb.cell 5 (by omega)
  have k6 := hS.mb.cell 6 (by omega)
  rw [hS.e5] at k5
  rw [hS.e6] at k6
  have hcap := hS.hcap
  have u0 := hS.cells 0 (by omega)
  have u1 := hS.cells 1 (by omega)
  have u2 := hS.cells 2 (by omega)
  have u3 := hS.cells 3 (by omega)
  have u4 := hS.cells 4 (by omega)
  have u5 := hS.cells 5 (by omega)
  simp only [uni, List.getElem?_cons_zero, List.getElem?_cons_succ, Nat.add_zero] at u0 u1 u2 u3 u4 u5
  have hum : (m : Int) < (nU : Int) := by have := hS.um; omega
  have huU := hS.uU
  have hf : fs m ≤ 600 := fs_le ⟨m, by omega⟩
  have hf1 : fs (m + 1) = fs m + (m + 2) := rfl
  obtain ⟨a, ha⟩ : ∃ a, a = fs m := ⟨_, rfl⟩
  rw [hf1, ← ha] at k6 u3 hcap
  rw [← ha] at u2 hf
  have hM := hS.mb.lt
  have i1 : (a : Int) ≤ (a : Int) + ((m : Int) + 2) := by omega
  have i2 : (a : Int) + ((m : Int) + 2) ≤ (mc : Int) := by omega
  have i3 : (0 : Int) ≤ (a : Int) := by omega
  have HS := hid hS
  rw [← ha]
  have hl : a + (m + 2) - a = m + 2 := by omega
  have hx2 : decide (x ≤ -2) = true := by simp; omega
  have hne : ¬ mc = a := by omega
  clear hS ha hf1
  go_enter Ybad.func6, Ybad.ntmps6
  go_wp2
  go_quiet (fail)
  go_wp2
  go_ret
  exact ⟨((Ch.refl _ _ _).alloc HS.out.hbw _).drewN _, mc - a, by simp [hl]⟩


set_option maxHeartbeats 1600000 in
set_option maxRecDepth 100000 in
theorem within_core (base M m U uc nU B mc : Nat) (x y : Int) (f : Nat → Value) (w : World) (hxm : -2 - y = (m : Int)) (hS : Core base M m U uc nU B mc w f) (hx : (m : Int) + 2 ≤ x) (hx1 : x ≤ 1000) :
    Calls Ybad.prog 5 #[.pointer (some ⟨M, 0, none⟩), .int .i32 x, .int .i32 y] w fun e w' => e = .returned (.bool false) ∧ MB w' M (upd f 16 (.int .i32 x)) ∧ Ch base [M] w w' := by
  have hm := hS.hm
  have k5 := hS.mb.cell 5 (by omega)
  have k6 := hS.mb.cell 6 (by omega)
  have k16 := hS.mb.cell 16 (by omega)
  rw [hS.e5] at k5
  rw [hS.e6] at k6
  have hcap := hS.hcap
  have u0 := hS.cells 0 (by omega)
  have u1 := hS.cells 1 (by omega)
  have u2 := hS.cells 2 (by omega)
  have u3 := hS.cells 3 (by omega)
  have u4 := hS.cells 4 (by omega)
  have u5 := hS.cells 5 (by omega)
  simp only [uni, List.getElem?_cons_zero, List.getElem?_cons_succ, Nat.add_zero] at u0 u1 u2 u3 u4 u5
  have hum : (m : Int) < (nU : Int) := by have := hS.um; omega
  have huU := hS.uU
  have hSR : ∀ w', Ch base [M] w w' → SR w' B (fs m) (m + 2) := fun w' hc j hj => by
    have := hS.sr j hj
    rw [hc.cell (p := ⟨B, fs m + j, none⟩) (block_lt_of_cell this) (by simpa using hS.BM)]
    exact this
  have hf : fs m ≤ 600 := fs_le ⟨m, by omega⟩
  have hf1 : fs (m + 1) = fs m + (m + 2) := rfl
  obtain ⟨a, ha⟩ : ∃ a, a = fs m := ⟨_, rfl⟩
  rw [hf1, ← ha] at u3 hcap k6
  rw [← ha] at u2 hf hSR
  have hM := hS.mb.lt
  have i1 : (a : Int) ≤ (a : Int) + ((m : Int) + 2) := by omega
  have i2 : (a : Int) + ((m : Int) + 2) ≤ (mc : Int) := by omega
  have i3 : (0 : Int) ≤ (a : Int) := by omega
  have hz : ((a : Int) + ((m : Int) + 2) == 0) = false := by simp; omega
  have HS := hid hS
  have HSR := hid hSR
  have hl : a + (m + 2) - a = m + 2 := by omega
  have hx2 : decide (y ≤ -2) = true := by simp; omega
  have hne : ¬ mc = a := by omega
  have hnil := eq_nil_no
  clear hS hSR ha hf1
  go_enter Ybad.func5, Ybad.ntmps5
  go_wp2_with fail
  refine (isu_yes y w (by omega)).mono ?_
  rintro e w1 ⟨rfl, rfl⟩
  go_wp2_with fail
  refine (mem_plain M 0 x f _ (HS.out.mb.alloc _) (by omega) (by omega)).mono ?_
  rintro e w1 ⟨rfl, rfl⟩
  go_wp2
  refine wp_loop_rounds 1 ?_
  rw [rounds_succ]
  go_wp2
  have hch : Ch base [M] w1 ((w1.setCell ⟨M, 16, none⟩ (.int .i32 x)).alloc (.cells #[.int .i32 0, .int .i32 0, .int .i32 a, .int .i32 (a + (m + 2)), .int .i32 0, .int .i32 (-1)] 38)) :=
    ((Ch.refl base [M] w1).setCell M 16 _ HS.out.hbM (by simp)).alloc (by simpa using HS.out.hbw) _
  have HC := hid hch
  have HR := hid (HSR.out _ hch)
  clear hch
  go_quiet (first | (go_at_call 14; exact quiet_at (binsearch_no B a (m + 2) (mc - a) x _ (by omega) (HR.out.drewN _) (by omega) hx1)))
  go_wp2
  go_ret
  exact ⟨by simp, ((HS.out.mb.set 16 (.int .i32 x) (by omega)).alloc _).drewN _, HC.out.drewN _⟩
end Go.Proofs.YbulkdammDoor
