import Derived.Test.YbulkdammDoorFrame
import Derived.KernelRfl
import Derived.Deep.Heap
namespace Go.Proofs.YbulkdammDoor
open Go.RowKit
set_option linter.unusedVariables false

set_option maxHeartbeats 1600000 in
set_option maxRecDepth 100000 in
theorem tz64 (w : World) (hG : w.cell? ⟨1, 63, none⟩ = some (.int .u8 6)) :
    Calls Ybad.prog 37 #[.int .u64 64] w fun e w' => e = .returned (.int .i64 6) ∧ w' = w := by
  have h0 : bits .and .u64 64 (IntKind.u64.wrap (-64)) = 64 := by decide +kernel
  have h1 : IntKind.u64.wrap (64 * 285870213051353865) = 18295693635286647360 := by decide +kernel
  go_enter Ybad.func37, Ybad.ntmps37
  go_wp2
  go_ret
  exact ⟨rfl, rfl⟩

theorem info57 : (Ybad.prog.info? 57).map (fun i => (i.zero, i.size, i.bytes)) = some (some (.agg #[.int .u64 0, .int .u32 0, .int .i32 0]), 3, 16) := by kernel_rfl

theorem info_parts {P : Program} {t : TypeId} {z : Value} {s b : Nat} (h : (P.info? t).map (fun i => (i.zero, i.size, i.bytes)) = some (some z, s, b)) :
    ∃ i, P.info? t = some i ∧ i.zero = some z ∧ i.size = s ∧ i.bytes = b := by
  cases hi : P.info? t with
  | none => rw [hi] at h; cases h
  | some i => rw [hi] at h; simp at h; exact ⟨i, rfl, h⟩

def zero64 : Array Value := madeCells (Value.agg #[.int .u64 0, .int .u32 0, .int .i32 0]).cells (64 * 3)

theorem run_make24 (w : World) : (Instr.makeSlice 24 (.int .i64 64) (.int .i64 64)).run Ybad.prog w = .ok (.slice (some ⟨w.heap.size, 0, none⟩) 64 64) (w.alloc (.cells zero64 57)) := by
  obtain ⟨i0, hi, hz0, hz1, hz2⟩ := info_parts info57
  have := run_make (P := Ybad.prog) w 24 57 i0 _ Ybad.underlying24 hi hz0 .i64 .i64 64 64 (by omega) (by omega) (by rw [hz2]; omega) (by omega)
  rw [hz1] at this
  exact this

theorem zero64_get (j r : Nat) (hj : j < 192) (hr : j % 3 = r) : zero64[j]? = some ((#[.int .u64 0, .int .u32 0, .int .i32 0] : Array Value)[r]!) := by
  have hs : zero64.size = 192 := by simp [zero64, madeCells]
  rw [Array.getElem?_eq_getElem (by rw [hs]; exact hj)]
  simp only [zero64, madeCells, Value.cells, Array.getElem_map, Array.getElem_range]
  rw [← hr]
  rfl

theorem zero64_cell (w : World) (j r : Nat) (hj : j < 192) (hr : j % 3 = r) : (w.alloc (.cells zero64 57)).cell? ⟨w.heap.size, j, none⟩ = some ((#[.int .u64 0, .int .u32 0, .int .i32 0] : Array Value)[r]!) := by
  rw [cell_of_row _ _ _ _ _ _ (Deep.blk_alloc_new w (.cells zero64 57))]
  exact zero64_get j r hj hr

theorem zero64_tbf (w : World) : TBF (w.alloc (.cells zero64 57)) w.heap.size (fun _ => 0) (fun _ => 0) (fun _ => 0) :=
  ⟨fun i hi => ⟨zero64_cell w (i * 3) 0 (by omega) (by omega), zero64_cell w (i * 3 + 1) 1 (by omega) (by omega), zero64_cell w (i * 3 + 2) 2 (by omega) (by omega)⟩,
   fun o => World.frozen?_alloc_new _ _ _ _⟩

set_option maxHeartbeats 1600000 in
set_option maxRecDepth 100000 in
theorem grow_first (M o : Nat) (w : World) (hG : w.cell? ⟨1, 63, none⟩ = some (.int .u8 6)) (hM : M < w.heap.size) (hM1 : M ≠ 1)
    (c0 : w.cell? ⟨M, o, none⟩ = some (.slice none 0 0)) (c1 : w.cell? ⟨M, o + 1, none⟩ = some (.int .u32 0)) (c2 : w.cell? ⟨M, o + 2, none⟩ = some (.int .i64 0)) (c3 : w.cell? ⟨M, o + 3, none⟩ = some (.int .i64 0))
    (fM : ∀ j, w.frozen? ⟨M, j, none⟩ = false) :
    Calls Ybad.prog 30 #[.pointer (some ⟨M, o, none⟩)] w fun e w' => e = .returned (.tuple #[]) ∧ w' = ((((w.setCell ⟨M, o + 1, none⟩ (.int .u32 1)).setCell ⟨M, o, none⟩ (.slice (some ⟨w.heap.size, 0, none⟩) 64 64)).setCell ⟨M, o + 2, none⟩ (.int .i64 58)).setCell ⟨M, o + 3, none⟩ (.int .i64 0)).alloc (.cells zero64 57) := by
  have hm := run_make24
  have f0 := fM o
  have f1 := fM (o + 1)
  have f2 := fM (o + 2)
  have f3 := fM (o + 3)
  have h1b : 1 < w.heap.size := block_lt_of_cell hG
  go_enter Ybad.func30, Ybad.ntmps30
  go_wp2_with fail
  refine (tz64 _ ?_).mono ?_
  · rw [World.cell?_alloc_past _ _ _ (by simpa using h1b), cell_far _ _ _ _ _ (Ne.symm hM1), cell_far _ _ _ _ _ (Ne.symm hM1)]
    exact hG
  rintro e w1 ⟨rfl, rfl⟩
  go_wp2
  refine wp_loop_rounds 1 ?_
  rw [rounds_succ]
  go_wp2
  go_end0
  exact ⟨rfl, rfl⟩

theorem MB.alloc {w : World} {M : Nat} {f : Nat → Value} (h : MB w M f) (o : Obj) : MB (w.alloc o) M f := h.ch (base := 0) (L := []) ((Ch.refl 0 [] w).alloc (Nat.zero_le _) o) (by simp)

set_option maxHeartbeats 1600000 in
set_option maxRecDepth 100000 in
theorem entry_first (base M o : Nat) (f : Nat → Value) (h v : Int) (s : Nat) (w : World) (h0 : 0 ≤ h) (h1 : h < 18446744073709551616) (hG : w.cell? ⟨1, 63, none⟩ = some (.int .u8 6)) (hbM : base ≤ M) (hb1 : 1 < base)
    (hMB : MB w M f) (ho : o + 3 < 31) (c0 : f o = .slice none 0 0) (c1 : f (o + 1) = .int .u32 0) (c2 : f (o + 2) = .int .i64 0) (c3 : f (o + 3) = .int .i64 0)
    (hs : startI h = s) (hs64 : s < 64) :
    Calls Ybad.prog 17 #[.pointer (some ⟨M, o, none⟩), .int .u64 h, .int .i32 v] w fun e w' => (∃ r, e = .returned r) ∧
      ∃ T, w.heap.size ≤ T ∧ Ch base [M] w w' ∧ MB w' M (upd (upd (upd (upd (upd f (o + 1) (.int .u32 1)) o (.slice (some ⟨T, 0, none⟩) 64 64)) (o + 2) (.int .i64 58)) (o + 3) (.int .i64 0)) (o + 3) (.int .i64 1)) ∧
        TBF w' T (updI (fun _ => 0) s h) (updI (fun _ => 0) s 1) (updI (fun _ => 0) s v) := by
  have hM := hMB.lt
  have k0 := hMB.cell o (by omega)
  have k1 := hMB.cell (o + 1) (by omega)
  have k2 := hMB.cell (o + 2) (by omega)
  have k3 := hMB.cell (o + 3) (by omega)
  rw [c0] at k0
  rw [c1] at k1
  rw [c2] at k2
  rw [c3] at k3
  have HC := hid (And.intro c0 (And.intro c1 (And.intro c2 c3)))
  clear c0 c1 c2 c3
  have hs : IntKind.u64.wrap (h * 11400714819323198485) / 288230376151711744 = (s : Int) := hs
  go_enter Ybad.func17, Ybad.ntmps17
  go_wp2
  go_quiet (fail)
  go_wp2_with fail
  refine (grow_first M o (w.drewN nq) hG hM (by omega) k0 k1 k2 k3 hMB.fr).mono ?_
  rintro e w1 ⟨rfl, hw1⟩
  have hm1 : MB w1 M (upd (upd (upd (upd f (o + 1) (.int .u32 1)) o (.slice (some ⟨w.heap.size, 0, none⟩) 64 64)) (o + 2) (.int .i64 58)) (o + 3) (.int .i64 0)) := by
    rw [hw1]
    exact ((((hMB.drewN nq).set _ _ (by omega)).set _ _ (by omega)).set _ _ (by omega)).set _ _ (by omega) |>.alloc _
  have hch : Ch base [M] w w1 := by
    rw [hw1]
    refine (((((Ch.refl base [M] w).drewN nq).setCell _ _ _ hbM (by simp)).setCell _ _ _ hbM (by simp)).setCell _ _ _ hbM (by simp)).setCell _ _ _ hbM (by simp) |>.alloc ?_ _
    simp; omega
  have hz : TBF w1 w.heap.size (fun _ => 0) (fun _ => 0) (fun _ => 0) := by
    have := zero64_tbf (((((w.drewN nq).setCell ⟨M, o + 1, none⟩ (.int .u32 1)).setCell ⟨M, o, none⟩ (.slice (some ⟨w.heap.size, 0, none⟩) 64 64)).setCell ⟨M, o + 2, none⟩ (.int .i64 58)).setCell ⟨M, o + 3, none⟩ (.int .i64 0))
    rw [hw1]
    simpa using this
  have hc0 := hm1.cell o (by omega)
  have hc1 := hm1.cell (o + 1) (by omega)
  have hc2 := hm1.cell (o + 2) (by omega)
  have hc3 := hm1.cell (o + 3) (by omega)
  simp [upd] at hc0 hc1 hc2 hc3
  have hf3 := hm1.fr (o + 3)
  obtain ⟨e0, e1, e2⟩ := hz.tb s hs64
  have f0 := hz.fr (s * 3)
  have f1 := hz.fr (s * 3 + 1)
  have f2 := hz.fr (s * 3 + 2)
  have hMT : w.heap.size ≠ M := by omega
  have hMT2 : M ≠ w.heap.size := by omega
  have b0 : (0 : Int) ≤ (s : Int) := by omega
  have b1 : (s : Int) < 64 := by omega
  have HZ := hid hz
  have HM := hid hm1
  have HCH := hid hch
  clear hw1 hz hm1 hch hMB k0 k1 k2 k3
  go_wp2
  refine wp_loop_rounds 1 ?_
  rw [rounds_succ]
  go_wp2
  go_quiet (fail)
  go_wp2
  refine bodyPost_ret (v := .tuple #[.pointer (some ⟨w.heap.size, s * 3 + 2, none⟩), .bool true]) (by simp [results, Ybad.results17]) rfl ⟨⟨_, rfl⟩, w.heap.size, Nat.le_refl _, ?_, ?_, ?_⟩
  · exact ((((HCH.out.drewN _).setNew _ _ _ (Nat.le_refl _) (by omega)).setNew _ _ _ (Nat.le_refl _) (by omega)).setNew _ _ _ (Nat.le_refl _) (by omega)).setCell _ _ _ hbM (by simp)
  · refine MB.set ?_ _ _ ho
    exact (HM.out.drewN _).ch (base := 0) (L := [w.heap.size]) ((((Ch.refl 0 _ _).setCell _ _ _ (Nat.zero_le _) (by simp)).setCell _ _ _ (Nat.zero_le _) (by simp)).setCell _ _ _ (Nat.zero_le _) (by simp)) (by simpa using hMT2)
  · exact ((HZ.out.drewN _).put s hs64 h 1 v).ch (base := 0) (L := [M]) ((Ch.refl 0 _ _).setCell _ _ _ (Nat.zero_le _) (by simp)) (by simpa using hMT)

theorem entry_more (base M o T c : Nat) (f : Nat → Value) (K B V : Nat → Int) (h v : Int) (s p n : Nat) (w : World) (h0 : 0 ≤ h) (h1 : h < 18446744073709551616) (hbM : base ≤ M) (hbT : base ≤ T) (hMT : M ≠ T)
    (hMB : MB w M f) (ho : o + 3 < 31) (c0 : f o = .slice (some ⟨T, 0, none⟩) 64 c) (c1 : f (o + 1) = .int .u32 1) (c2 : f (o + 2) = .int .i64 58) (c3 : f (o + 3) = .int .i64 n) (hn : n ≤ 31)
    (ht : TBF w T K B V) (hs : startI h = s) (hsp : s ≤ p) (hp : p < 64) (hocc : ∀ t, s ≤ t → t < p → B t = 1 ∧ K t ≠ h) (hfree : B p = 0) :
    Calls Ybad.prog 17 #[.pointer (some ⟨M, o, none⟩), .int .u64 h, .int .i32 v] w fun e w' => (∃ r, e = .returned r) ∧
      Ch base [M, T] w w' ∧ MB w' M (upd f (o + 3) (.int .i64 (n + 1))) ∧ TBF w' T (updI K p h) (updI B p 1) (updI V p v) := by
  have k0 := hMB.cell o (by omega)
  have k1 := hMB.cell (o + 1) (by omega)
  have k2 := hMB.cell (o + 2) (by omega)
  have k3 := hMB.cell (o + 3) (by omega)
  rw [c0] at k0
  rw [c1] at k1
  rw [c2] at k2
  rw [c3] at k3
  refine (entry_put M o T c K B V h v s p n w h0 h1 k0 k1 k2 k3 (by omega) (by omega) hMT ht.fr (hMB.fr _) ht.tb hs hsp hp hocc hfree).mono ?_
  rintro e w' ⟨he, k, rfl⟩
  refine ⟨he, ?_, ?_, ?_⟩
  · exact ((((((Ch.refl base _ w).setCell _ _ _ hbT (by simp)).setCell _ _ _ hbT (by simp)).setCell _ _ _ hbT (by simp)).setCell _ _ _ hbM (by simp))).drewN _
  · refine (MB.set ?_ _ _ ho).drewN _
    exact hMB.ch (base := 0) (L := [T]) ((((Ch.refl 0 _ _).setCell _ _ _ (Nat.zero_le _) (by simp)).setCell _ _ _ (Nat.zero_le _) (by simp)).setCell _ _ _ (Nat.zero_le _) (by simp)) (by simpa using hMT)
  · exact ((ht.put p hp h 1 v).ch (base := 0) (L := [M]) ((Ch.refl 0 _ _).setCell _ _ _ (Nat.zero_le _) (by simp)) (by simpa using Ne.symm hMT)).drewN _
end Go.Proofs.YbulkdammDoor
