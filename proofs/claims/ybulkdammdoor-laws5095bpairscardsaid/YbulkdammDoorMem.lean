import Derived.Test.YbulkdammDoorState
import Derived.Lib.SliceRun
namespace Go.Proofs.YbulkdammDoor
open Go.RowKit
set_option linter.unusedVariables false

theorem quiet_at {f : FuncId} {args : Array Value} {W : World} {x : Nat} {v : Value} (h : Calls Ybad.prog f args (W.drewN x) fun e w' => e = .returned v ∧ w' = W.drewN x) :
    Calls Ybad.prog f args (W.drewN x) fun e w'' => e = .returned v ∧ ∃ n, w'' = W.drewN n :=
  h.mono fun _ _ ⟨he, hm⟩ => ⟨he, x, hm⟩
theorem eq_nil_no (W : World) (p : Addr) (l c : Nat) : Sem.run Ybad.prog (binOp .eql 23 (.slice (some p) l c) (.slice none 0 0)) W = .ok (.bool false) W := by
  have := Lib.run_eql_slice_nil (P := Ybad.prog) W 23 21 (some p) l c 0 0 Ybad.underlying23
  simpa using this
theorem neq_nil_yes (W : World) (p : Addr) (l c : Nat) : Sem.run Ybad.prog (binOp .neq 23 (.slice (some p) l c) (.slice none 0 0)) W = .ok (.bool true) W := by
  have := run_neq_slice_nil_any (P := Ybad.prog) W 23 21 (some p) l c 0 0 Ybad.underlying23
  simpa using this

set_option maxHeartbeats 400000 in
theorem isu_yes (y : Int) (w : World) (h : y ≤ -2) : Calls Ybad.prog 13 #[.int .i32 y] w fun e w' => e = .returned (.bool true) ∧ w' = w := by
  go_enter Ybad.func13, Ybad.ntmps13
  go_wp2
  go_ret
  exact ⟨by simp, rfl⟩
theorem slice_arr0 (M : Nat) (w : World) : Sem.run Ybad.prog (Instr.sliceAt 30 (Value.pointer (some ⟨M, 16, none⟩)) (some (.int .i64 0)) (some (.int .i64 1)) none) w = .ok (.slice (some ⟨M, 16, none⟩) 1 2) w := by kernel_rfl
theorem slice_arr1 (M : Nat) (w : World) : Sem.run Ybad.prog (Instr.sliceAt 30 (Value.pointer (some ⟨M, 16, none⟩)) (some (.int .i64 1)) (some (.int .i64 2)) none) w = .ok (.slice (some ⟨M, 17, none⟩) 1 1) w := by kernel_rfl

set_option maxHeartbeats 1600000 in
set_option maxRecDepth 100000 in
theorem mem_plain (M k : Nat) (x : Int) (f : Nat → Value) (w : World) (hMB : MB w M f) (hx : 0 ≤ x) (hk : k < 2) :
    Calls Ybad.prog 6 #[.pointer (some ⟨M, 0, none⟩), .int .i32 x, .int .i64 k] w fun e w' => e = .returned (.slice (some ⟨M, 16 + k, none⟩) 1 (2 - k)) ∧ w' = w.setCell ⟨M, 16 + k, none⟩ (.int .i32 x) := by
  have hx2 : decide (x ≤ -2) = false := by simp; omega
  have h01 : k = 0 ∨ k = 1 := by omega
  rcases h01 with rfl | rfl
  · have k0 := hMB.cell 16 (by omega)
    have f0 := hMB.fr 16
    have hsl := slice_arr0 M
    go_enter Ybad.func6, Ybad.ntmps6
    go_wp2
    go_ret
    exact ⟨by simp, rfl⟩
  · have k0 := hMB.cell 17 (by omega)
    have f0 := hMB.fr 17
    have hsl := slice_arr1 M
    go_enter Ybad.func6, Ybad.ntmps6
    go_wp2
    go_ret
    exact ⟨by simp, rfl⟩

set_option maxHeartbeats 1600000 in
set_option maxRecDepth 100000 in
theorem mem_union (base M C m k : Nat) (x : Int) (f : Nat → Value) (w : World) (hxm : -2 - x = (m : Int)) (hS : St base M C (m + 2) w f) (hm : m ≤ 30) (hk : k < 2) :
    Calls Ybad.prog 6 #[.pointer (some ⟨M, 0, none⟩), .int .i32 x, .int .i64 k] w fun e w' => Ch base [] w w' ∧ ∃ B cap, (f 6).ownBlock = some B ∧ SR w B (fs m) (m + 2) ∧ e = .returned (.slice (some ⟨B, fs m, none⟩) (m + 2) cap) := by
  have hu := hS.un
  have hme := hS.me
  rw [show m + 2 - 1 = m + 1 from by omega] at hu hme
  obtain ⟨U, uc, hv, hbU, hUlt⟩ := hu.form (by omega)
  obtain ⟨B, mc, hvB, hbB, hBlt⟩ := hme.form (by simp [fs]; omega)
  rw [hv] at hu
  rw [hvB] at hme
  have k5 := hS.mb.cell 5 (by omega)
  have k6 := hS.mb.cell 6 (by omega)
  rw [hv] at k5
  rw [hvB] at k6
  have hcap : fs (m + 1) ≤ mc := by
    rcases hme.2 with ⟨h0, _⟩ | ⟨g, cap, cur, h1, _, _, h4, _⟩
    · cases h0
    · cases h1; exact h4
  have u0 := (hu.cellAt (m * 6) (by omega)).trans (unis_last m 0 (by omega))
  have u1 := (hu.cellAt (m * 6 + 1) (by omega)).trans (unis_last m 1 (by omega))
  have u2 := (hu.cellAt (m * 6 + 2) (by omega)).trans (unis_last m 2 (by omega))
  have u3 := (hu.cellAt (m * 6 + 3) (by omega)).trans (unis_last m 3 (by omega))
  have u4 := (hu.cellAt (m * 6 + 4) (by omega)).trans (unis_last m 4 (by omega))
  have u5 := (hu.cellAt (m * 6 + 5) (by omega)).trans (unis_last m 5 (by omega))
  simp only [uni, List.getElem?_cons_zero, List.getElem?_cons_succ] at u0 u1 u2 u3 u4 u5
  have hSR : SR w B (fs m) (m + 2) := fun j hj => (hme.cellAt (fs m + j) (by simp [fs]; omega)).trans (mems_last m j hj)
  have hf : fs m ≤ 600 := fs_le ⟨m, by omega⟩
  have hf1 : fs (m + 1) = fs m + (m + 2) := rfl
  obtain ⟨a, ha⟩ : ∃ a, a = fs m := ⟨_, rfl⟩
  rw [hf1, ← ha] at k6 u3 hcap
  rw [← ha] at u2 hf hSR
  have hM := hS.mb.lt
  have i1 : (a : Int) ≤ (a : Int) + ((m : Int) + 2) := by omega
  have i2 : (a : Int) + ((m : Int) + 2) ≤ (mc : Int) := by omega
  have i3 : (0 : Int) ≤ (a : Int) := by omega
  have HS := hid hS
  have HSR := hid hSR
  have HV := hid hvB
  rw [← ha]
  have hl : a + (m + 2) - a = m + 2 := by omega
  have hx2 : decide (x ≤ -2) = true := by simp; omega
  have hne : ¬ mc = a := by omega
  clear hS hSR hu hme hv hvB ha hf1
  go_enter Ybad.func6, Ybad.ntmps6
  go_wp2
  go_quiet (fail)
  go_wp2
  go_ret
  exact ⟨((Ch.refl _ _ _).alloc HS.out.hbw _).drewN _, B, mc - a, by rw [HV.out]; rfl, HSR.out, by simp [hl]⟩

set_option maxHeartbeats 1600000 in
set_option maxRecDepth 100000 in
theorem within_plain (M : Nat) (x y : Int) (w : World) (hy : 0 ≤ y) :
    Calls Ybad.prog 5 #[.pointer (some ⟨M, 0, none⟩), .int .i32 x, .int .i32 y] w fun e w' => e = .returned (.bool false) ∧ w' = w := by
  have hx2 : decide (y ≤ -2) = false := by simp; omega
  go_enter Ybad.func5, Ybad.ntmps5
  go_wp2
  go_ret
  exact ⟨by simp, rfl⟩

set_option maxHeartbeats 1600000 in
set_option maxRecDepth 100000 in
theorem within_union (base M C m : Nat) (x y : Int) (f : Nat → Value) (w : World) (hxm : -2 - y = (m : Int)) (hS : St base M C (m + 2) w f) (hm : m ≤ 30) (hx : (m : Int) + 2 ≤ x) (hx1 : x ≤ 1000) :
    Calls Ybad.prog 5 #[.pointer (some ⟨M, 0, none⟩), .int .i32 x, .int .i32 y] w fun e w' => e = .returned (.bool false) ∧ St base M C (m + 2) w' (upd f 16 (.int .i32 x)) ∧ Ch base [M] w w' := by
  have hu := hS.un
  have hme := hS.me
  rw [show m + 2 - 1 = m + 1 from by omega] at hu hme
  obtain ⟨U, uc, hv, hbU, hUlt⟩ := hu.form (by omega)
  obtain ⟨B, mc, hvB, hbB, hBlt⟩ := hme.form (by simp [fs]; omega)
  rw [hv] at hu
  rw [hvB] at hme
  have k5 := hS.mb.cell 5 (by omega)
  rw [hv] at k5
  have k16 := hS.mb.cell 16 (by omega)
  have k6 := hS.mb.cell 6 (by omega)
  rw [hvB] at k6
  have hcap : fs (m + 1) ≤ mc := by
    rcases hme.2 with ⟨h0, _⟩ | ⟨g, cap, cur, h1, _, _, h4, _⟩
    · cases h0
    · cases h1; exact h4
  have u0 := (hu.cellAt (m * 6) (by omega)).trans (unis_last m 0 (by omega))
  have u1 := (hu.cellAt (m * 6 + 1) (by omega)).trans (unis_last m 1 (by omega))
  have u2 := (hu.cellAt (m * 6 + 2) (by omega)).trans (unis_last m 2 (by omega))
  have u3 := (hu.cellAt (m * 6 + 3) (by omega)).trans (unis_last m 3 (by omega))
  have u4 := (hu.cellAt (m * 6 + 4) (by omega)).trans (unis_last m 4 (by omega))
  have u5 := (hu.cellAt (m * 6 + 5) (by omega)).trans (unis_last m 5 (by omega))
  simp only [uni, List.getElem?_cons_zero, List.getElem?_cons_succ] at u0 u1 u2 u3 u4 u5
  have hf : fs m ≤ 600 := fs_le ⟨m, by omega⟩
  have hf1 : fs (m + 1) = fs m + (m + 2) := rfl
  have hd6 : B ≠ M := fun e => hS.d6 (by rw [hvB, e]; rfl)
  have hSR : ∀ w', Ch base [M] w w' → SR w' B (fs m) (m + 2) := fun w' hc j hj => by
    rw [hc.cell (p := ⟨B, fs m + j, none⟩) hBlt (by simpa using hd6)]
    exact (hme.cellAt (fs m + j) (by simp [fs]; omega)).trans (mems_last m j hj)
  obtain ⟨a, ha⟩ : ∃ a, a = fs m := ⟨_, rfl⟩
  rw [hf1, ← ha] at u3 hcap hvB k6
  rw [← ha] at u2 hf hSR
  have hM := hS.mb.lt
  have i1 : (a : Int) ≤ (a : Int) + ((m : Int) + 2) := by omega
  have i2 : (a : Int) + ((m : Int) + 2) ≤ (mc : Int) := by omega
  have i3 : (0 : Int) ≤ (a : Int) := by omega
  have hz : ((a : Int) + ((m : Int) + 2) == 0) = false := by simp; omega
  have HS := hid hS
  have HSR := hid hSR
  have HV := hid hvB
  have hl : a + (m + 2) - a = m + 2 := by omega
  have hx2 : decide (y ≤ -2) = true := by simp; omega
  have hne : ¬ mc = a := by omega
  have hnil := eq_nil_no
  clear hS hSR hu hme hv hvB ha hf1
  go_enter Ybad.func5, Ybad.ntmps5
  go_wp2_with fail
  refine (isu_yes y w (by omega)).mono ?_
  rintro e w1 ⟨rfl, rfl⟩
  go_wp2_with fail
  refine (mem_plain M 0 x f _ (HS.out.mb.alloc _) (by omega) (by omega)).mono ?_
  rintro e w1 ⟨rfl, rfl⟩
  go_wp2
  refine wp_loop_rounds 1 ?_
  rw [rounds_succ]
  go_wp2
  have hch : Ch base [M] w1 ((w1.setCell ⟨M, 16, none⟩ (.int .i32 x)).alloc (.cells #[.int .i32 0, .int .i32 0, .int .i32 a, .int .i32 (a + (m + 2)), .int .i32 0, .int .i32 (-1)] 38)) :=
    ((Ch.refl base [M] w1).setCell M 16 _ HS.out.hbM (by simp)).alloc (by simpa using HS.out.hbw) _
  have HC := hid hch
  have HR := hid (HSR.out _ hch)
  clear hch
  go_quiet (first | (go_at_call 14; exact quiet_at (binsearch_no B a (m + 2) (mc - a) x _ (by omega) (HR.out.drewN _) (by omega) hx1)))
  go_wp2
  go_ret
  have hs' := (HS.out.setM 16 (.int .i32 x) (by omega)).ch ((Ch.refl base [] _).alloc (by simpa using HS.out.hbw) (.cells #[.int .i32 0, .int .i32 0, .int .i32 a, .int .i32 (a + (m + 2)), .int .i32 0, .int .i32 (-1)] 38))
  exact ⟨by simp, hs'.ch ((Ch.refl base [] _).drewN _), HC.out.drewN _⟩

/-- The union of 0 .. g - 1. -/
def ug (g : Nat) : Int := if g = 1 then 0 else -(g : Int)

theorem within_step (base M C g : Nat) (x : Int) (f : Nat → Value) (w : World) (hS : St base M C g w f) (hg : 1 ≤ g) (hg2 : g ≤ 32) (hx : (g : Int) ≤ x) (hx1 : x ≤ 1000) :
    Calls Ybad.prog 5 #[.pointer (some ⟨M, 0, none⟩), .int .i32 x, .int .i32 (ug g)] w fun e w' => e = .returned (.bool false) ∧ (∃ f', St base M C g w' f') ∧ Ch base [M] w w' := by
  by_cases h1 : g = 1
  · subst h1
    refine (within_plain M x (ug 1) w (by simp [ug])).mono ?_
    rintro e w' ⟨rfl, rfl⟩
    exact ⟨rfl, ⟨f, hS⟩, Ch.refl _ _ _⟩
  · obtain ⟨m, rfl⟩ : ∃ m, g = m + 2 := ⟨g - 2, by omega⟩
    refine (within_union base M C m x (ug (m + 2)) f w (by simp [ug]; omega) hS (by omega) (by omega) hx1).mono ?_
    rintro e w' ⟨rfl, h2, h3⟩
    exact ⟨rfl, ⟨_, h2⟩, h3⟩

theorem mem_step (base M C g k : Nat) (f : Nat → Value) (w : World) (hS : St base M C g w f) (hg : 1 ≤ g) (hg2 : g ≤ 32) (hk : k < 2) :
    Calls Ybad.prog 6 #[.pointer (some ⟨M, 0, none⟩), .int .i32 (ug g), .int .i64 k] w fun e w' => Ch base [M] w w' ∧ ∃ f' B off cap, St base M C g w' f' ∧ SR w' B off g ∧ e = .returned (.slice (some ⟨B, off, none⟩) g cap) ∧ (g = 1 ∧ B = M ∧ off = 16 + k ∨ (f' 6).ownBlock = some B) := by
  by_cases h1 : g = 1
  · subst h1
    refine (mem_plain M k (ug 1) f w hS.mb (by simp [ug]) hk).mono ?_
    rintro e w' ⟨rfl, rfl⟩
    have hs' := hS.setM (16 + k) (.int .i32 (ug 1)) (by omega)
    refine ⟨(Ch.refl _ _ _).setCell _ _ _ hS.hbM (by simp), _, M, 16 + k, 2 - k, hs', ?_, rfl, .inl ⟨rfl, rfl, rfl⟩⟩
    intro j hj
    have : j = 0 := by omega
    subst this
    have := hs'.mb.cell (16 + k) (by omega)
    simpa [upd, ug] using this
  · obtain ⟨m, rfl⟩ : ∃ m, g = m + 2 := ⟨g - 2, by omega⟩
    refine (mem_union base M C m k (ug (m + 2)) f w (by simp [ug]; omega) hS (by omega) hk).mono ?_
    rintro e w' ⟨hc, B, cap, h6, hsr, rfl⟩
    refine ⟨hc.mono (by simp), f, B, fs m, cap, hS.ch hc, ?_, rfl, .inr h6⟩
    intro j hj
    have := hsr j hj
    rw [hc.cell (p := ⟨B, fs m + j, none⟩) (block_lt_of_cell this) (by simp)]
    exact this
end Go.Proofs.YbulkdammDoor
