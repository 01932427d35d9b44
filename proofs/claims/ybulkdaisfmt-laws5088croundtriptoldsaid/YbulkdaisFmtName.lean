import Derived.Test.YbulkdaisFmtVarint
namespace Go.Proofs.YbulkdaisFmt
open Go.RowKit

set_option maxHeartbeats 800000 in
set_option maxRecDepth 100000 in
theorem readNumber_ok {R g n cap : Nat} {bs : List Nat} {aU aE : Addr} {i : Nat} {w : World} (h : Ctx w R g n cap bs aU aE i) (v : Nat) (hv : v < 34359738368) (rest : List Nat) (hd : bs.drop i = encV v ++ rest) :
    Calls Ybaf.prog 10 #[.iface 30 (.pointer (some ⟨R, 0, none⟩))] w fun e w' => e = .returned (.tuple #[.int .i64 v, .nilIface]) ∧ w.grownBy w' (some R) ∧ Ctx w' R g n cap bs aU aE (i + (encV v).length) := by
  have HD := (show Hid (bs.drop i = encV v ++ rest) from hd)
  clear hd
  go_enter Ybaf.func10, Ybaf.ntmps10
  go_wp2_with (go_at_call 13; refine (readVarint_ok h v hv rest HD.out).mono ?_; rintro e w1 ⟨rfl, hg1, hC1⟩)
  go_ret2
  exact ⟨rfl, hg1, hC1⟩

set_option maxHeartbeats 800000 in
set_option maxRecDepth 100000 in
theorem readNumber_cut {R g n cap : Nat} {bs : List Nat} {aU aE : Addr} {i : Nat} {w : World} (h : Ctx w R g n cap bs aU aE i) (v : Nat) (hv : v < 34359738368) (s : List Nat) (hs : s ≠ []) (hd : bs.drop i ++ s = encV v) (hin : i ≤ n) :
    Calls Ybaf.prog 10 #[.iface 30 (.pointer (some ⟨R, 0, none⟩))] w fun e w' => e = .returned (.tuple #[.int .i64 0, .iface 62 (.pointer (some aU))]) ∧ w.grownBy w' (some R) ∧ Ctx w' R g n cap bs aU aE n := by
  have HD := (show Hid (bs.drop i ++ s = encV v) from hd)
  clear hd
  go_enter Ybaf.func10, Ybaf.ntmps10
  go_wp2_with (go_at_call 13; refine (readVarint_cut h v hv s hs HD.out hin).mono ?_; rintro e w1 ⟨rfl, hg1, hC1⟩)
  go_ret2
  exact ⟨rfl, hg1, hC1⟩

theorem grownBy_block {w w' : World} {r : Option Nat} {b : Nat} {o : Obj} (hg : w.grownBy w' r) (hb : w.heap[b]? = some o) (hne : some b ≠ r) : w'.heap[b]? = some o := by
  rw [hg.block b (lt_of_block hb) hne]; exact hb

theorem grownBy_of_alloc {w w' : World} {o : Obj} {r : Option Nat} (h : (w.alloc o).grownBy w' r) : w.grownBy w' r := grownBy_trans (World.grownBy_alloc w o r) h

/-- A store into a block made since. -/
theorem grownBy_store {w w1 : World} {r : Option Nat} (h : w.grownBy w1 r) {b o : Nat} (hb : w.heap.size ≤ b) (v : Value) : w.grownBy (w1.setCell ⟨b, o, none⟩ v) r :=
  ⟨h.os, h.tape, h.output, by simp [World.setCell]; exact h.size, fun k hk hne => by rw [heap_setCell_other _ _ _ _ (by simp; omega)]; exact h.block k hk hne⟩

theorem Ctx.store {w : World} {R g n cap : Nat} {bs : List Nat} {aU aE : Addr} {i : Nat} (h : Ctx w R g n cap bs aU aE i) {b o : Nat} (hb : b ≠ R) (hg : b ≠ g) (h2 : 2 < b) (v : Value) : Ctx (w.setCell ⟨b, o, none⟩ v) R g n cap bs aU aE i := by
  have hne : ∀ (p : Addr), p.block ≠ b → (w.setCell ⟨b, o, none⟩ v).cell? p = w.cell? p := fun p hp => World.cell?_of_block (heap_setCell_other _ _ _ _ hp)
  refine ⟨?_, fun j hj => ?_, h.gne, ?_, ?_, h.far, h.nle, h.nlen, by simp [World.setCell]; exact h.glt⟩
  · rw [heap_setCell_other _ _ _ _ (Ne.symm hb)]; exact h.rd
  · rw [hne _ (Ne.symm hg)]; exact h.cells j hj
  · rw [hne _ (by simp; omega)]; exact h.gU
  · rw [hne _ (by simp; omega)]; exact h.gE

set_option maxHeartbeats 800000 in
set_option maxRecDepth 100000 in
theorem readName_ok {R g n cap : Nat} {bs : List Nat} {aU aE : Addr} {i : Nat} {w : World} (h : Ctx w R g n cap bs aU aE i) (x y : Nat) (hx : x < 34359738368) (hy : y < 34359738368) (rest : List Nat) (hd : bs.drop i = encV x ++ (encV y ++ rest)) :
    Calls Ybaf.prog 11 #[.iface 30 (.pointer (some ⟨R, 0, none⟩))] w fun e w' => e = .returned (.tuple #[.agg #[.int .i64 x, .int .i64 y], .nilIface]) ∧ w.grownBy w' (some R) ∧ Ctx w' R g n cap bs aU aE (i + (encV x).length + (encV y).length) := by
  have HD := (show Hid (bs.drop i = encV x ++ (encV y ++ rest)) from hd)
  have HD2 : Hid (bs.drop (i + (encV x).length) = encV y ++ rest) := by
    show _ = _
    rw [← List.drop_drop, hd]; simp
  clear hd
  have h1 := h.kept ((Below.refl _ w).alloc (Nat.le_refl _) (.cells #[.int .i64 0, .int .i64 0] 38))
  go_enter Ybaf.func11, Ybaf.ntmps11
  go_wp2_with fail
  refine (readNumber_ok h1 x hx _ HD.out).mono ?_
  rintro e w1 ⟨rfl, hg1, hC1⟩
  go_wp2_with fail
  refine (readNumber_ok hC1 y hy _ HD2.out).mono ?_
  rintro e w2 ⟨rfl, hg2, hC2⟩
  have hR := h.rlt
  have hb2 := grownBy_block (grownBy_trans hg1 hg2) (heap_alloc_new w (.cells #[.int .i64 0, .int .i64 0] 38)) (by simp; omega)
  have k0 : w2.cell? ⟨w.heap.size, 0, none⟩ = some (.int .i64 0) := by rw [cell_of_row _ _ _ _ _ _ hb2]; rfl
  have k1 : w2.cell? ⟨w.heap.size, 1, none⟩ = some (.int .i64 0) := by rw [cell_of_row _ _ _ _ _ _ hb2]; rfl
  have f0 := frozen_of_row w2 w.heap.size 0 _ _ hb2
  have f1 := frozen_of_row w2 w.heap.size 1 _ _ hb2
  clear hb2 h1
  go_wp2
  have hf := h.far
  have hgl := h.glt
  refine bodyPost_ret (v := .tuple #[.agg #[.int .i64 x, .int .i64 y], .nilIface]) (by simp [results, Ybaf.results11, go_sem, k0, k1]) rfl ⟨rfl, ?_, ?_⟩
  · exact grownBy_store (grownBy_store (grownBy_of_alloc (grownBy_trans hg1 hg2)) (Nat.le_refl _) _) (Nat.le_refl _) _
  · exact (hC2.store (by omega) (by omega) (by omega) _).store (by omega) (by omega) (by omega) _

set_option maxHeartbeats 800000 in
set_option maxRecDepth 100000 in
theorem readName_cut1 {R g n cap : Nat} {bs : List Nat} {aU aE : Addr} {i : Nat} {w : World} (h : Ctx w R g n cap bs aU aE i) (x : Nat) (hx : x < 34359738368) (t : List Nat) (ht : t ≠ []) (hd : bs.drop i ++ t = encV x) (hin : i ≤ n) :
    Calls Ybaf.prog 11 #[.iface 30 (.pointer (some ⟨R, 0, none⟩))] w fun e w' => e = .returned (.tuple #[.agg #[.int .i64 0, .int .i64 0], .iface 62 (.pointer (some aU))]) ∧ w.grownBy w' (some R) ∧ Ctx w' R g n cap bs aU aE n := by
  have HD := (show Hid (bs.drop i ++ t = encV x) from hd)
  clear hd
  have h1 := h.kept ((Below.refl _ w).alloc (Nat.le_refl _) (.cells #[.int .i64 0, .int .i64 0] 38))
  go_enter Ybaf.func11, Ybaf.ntmps11
  go_wp2_with fail
  refine (readNumber_cut h1 x hx t ht HD.out hin).mono ?_
  rintro e w2 ⟨rfl, hg1, hC2⟩
  have hR := h.rlt
  have hb2 := grownBy_block hg1 (heap_alloc_new w (.cells #[.int .i64 0, .int .i64 0] 38)) (by simp; omega)
  have k0 : w2.cell? ⟨w.heap.size, 0, none⟩ = some (.int .i64 0) := by rw [cell_of_row _ _ _ _ _ _ hb2]; rfl
  have k1 : w2.cell? ⟨w.heap.size, 1, none⟩ = some (.int .i64 0) := by rw [cell_of_row _ _ _ _ _ _ hb2]; rfl
  have f0 := frozen_of_row w2 w.heap.size 0 _ _ hb2
  have f1 := frozen_of_row w2 w.heap.size 1 _ _ hb2
  clear hb2 h1
  go_wp2
  have hf := h.far
  have hgl := h.glt
  refine bodyPost_ret (v := .tuple #[.agg #[.int .i64 0, .int .i64 0], .iface 62 (.pointer (some aU))]) (by simp [results, Ybaf.results11, go_sem, k0, k1]) rfl ⟨rfl, ?_, ?_⟩
  · exact grownBy_store (grownBy_store (grownBy_of_alloc hg1) (Nat.le_refl _) _) (Nat.le_refl _) _
  · exact (hC2.store (by omega) (by omega) (by omega) _).store (by omega) (by omega) (by omega) _

set_option maxHeartbeats 800000 in
set_option maxRecDepth 100000 in
theorem readName_cut2 {R g n cap : Nat} {bs : List Nat} {aU aE : Addr} {i : Nat} {w : World} (h : Ctx w R g n cap bs aU aE i) (x y : Nat) (hx : x < 34359738368) (hy : y < 34359738368) (r t : List Nat) (ht : t ≠ []) (hd : bs.drop i = encV x ++ r) (hr : r ++ t = encV y) (hin : i ≤ n) :
    Calls Ybaf.prog 11 #[.iface 30 (.pointer (some ⟨R, 0, none⟩))] w fun e w' => e = .returned (.tuple #[.agg #[.int .i64 0, .int .i64 0], .iface 62 (.pointer (some aU))]) ∧ w.grownBy w' (some R) ∧ Ctx w' R g n cap bs aU aE n := by
  have HD := (show Hid (bs.drop i = encV x ++ r) from hd)
  have HD2 : Hid (bs.drop (i + (encV x).length) ++ t = encV y) := by
    show _ = _
    rw [← List.drop_drop, hd]; simp [hr]
  have hle : i + (encV x).length ≤ n := by
    have := congrArg List.length hd
    have := h.nlen
    simp at *
    omega
  clear hd hr
  have h1 := h.kept ((Below.refl _ w).alloc (Nat.le_refl _) (.cells #[.int .i64 0, .int .i64 0] 38))
  go_enter Ybaf.func11, Ybaf.ntmps11
  go_wp2_with fail
  refine (readNumber_ok h1 x hx _ HD.out).mono ?_
  rintro e w1 ⟨rfl, hg1, hC1⟩
  go_wp2_with fail
  refine (readNumber_cut hC1 y hy t ht HD2.out hle).mono ?_
  rintro e w2 ⟨rfl, hg2, hC2⟩
  have hR := h.rlt
  have hb2 := grownBy_block (grownBy_trans hg1 hg2) (heap_alloc_new w (.cells #[.int .i64 0, .int .i64 0] 38)) (by simp; omega)
  have k0 : w2.cell? ⟨w.heap.size, 0, none⟩ = some (.int .i64 0) := by rw [cell_of_row _ _ _ _ _ _ hb2]; rfl
  have k1 : w2.cell? ⟨w.heap.size, 1, none⟩ = some (.int .i64 0) := by rw [cell_of_row _ _ _ _ _ _ hb2]; rfl
  have f0 := frozen_of_row w2 w.heap.size 0 _ _ hb2
  have f1 := frozen_of_row w2 w.heap.size 1 _ _ hb2
  clear hb2 h1
  go_wp2
  have hf := h.far
  have hgl := h.glt
  refine bodyPost_ret (v := .tuple #[.agg #[.int .i64 0, .int .i64 0], .iface 62 (.pointer (some aU))]) (by simp [results, Ybaf.results11, go_sem, k0, k1]) rfl ⟨rfl, ?_, ?_⟩
  · exact grownBy_store (grownBy_store (grownBy_of_alloc (grownBy_trans hg1 hg2)) (Nat.le_refl _) _) (Nat.le_refl _) _
  · exact (hC2.store (by omega) (by omega) (by omega) _).store (by omega) (by omega) (by omega) _

theorem split_cut {a t x y : List Nat} (h : a ++ t = x ++ y) : (∃ s, s ≠ [] ∧ a ++ s = x) ∨ (∃ r, a = x ++ r ∧ r ++ t = y) := by
  rcases List.append_eq_append_iff.1 h with ⟨s, h1, h2⟩ | ⟨r, h1, h2⟩
  · by_cases hs : s = []
    · subst hs
      right
      exact ⟨[], by simpa using h1.symm, by simpa using h2⟩
    · left
      exact ⟨s, hs, h1.symm⟩
  · right
    exact ⟨r, h1, h2.symm⟩

theorem readName_cut {R g n cap : Nat} {bs : List Nat} {aU aE : Addr} {i : Nat} {w : World} (h : Ctx w R g n cap bs aU aE i) (x y : Nat) (hx : x < 34359738368) (hy : y < 34359738368) (t : List Nat) (ht : t ≠ []) (hd : bs.drop i ++ t = encV x ++ encV y) (hin : i ≤ n) :
    Calls Ybaf.prog 11 #[.iface 30 (.pointer (some ⟨R, 0, none⟩))] w fun e w' => e = .returned (.tuple #[.agg #[.int .i64 0, .int .i64 0], .iface 62 (.pointer (some aU))]) ∧ w.grownBy w' (some R) ∧ Ctx w' R g n cap bs aU aE n := by
  rcases split_cut hd with ⟨s, hs, h1⟩ | ⟨r, h1, h2⟩
  · exact readName_cut1 h x hx s hs h1 hin
  · exact readName_cut2 h x y hx hy r t ht h1 h2 hin
end Go.Proofs.YbulkdaisFmt
