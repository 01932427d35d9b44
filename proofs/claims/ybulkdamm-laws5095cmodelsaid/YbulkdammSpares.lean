import Derived.Test.YbulkdammAdd
import Derived.Test.YbulkdammOthers2
import Derived.Deep.CutRange
namespace Go.Proofs.Ybulkdamm
open Go.RowKit
set_option linter.unusedVariables false
set_option linter.unusedSimpArgs false

theorem make47 (W : World) : (Instr.makeSlice 47 (.int .i64 2) (.int .i64 2)).run Yba.prog W = .ok (.slice (some ⟨W.heap.size, 0, none⟩) 2 2) (W.alloc (.cells #[.int .u8 0, .int .u8 0] 5)) := by
  obtain ⟨i0, hi, hz0, hz1, hz2⟩ := info_parts info5
  have := run_make (P := Yba.prog) W 47 5 i0 _ Yba.underlying47 hi hz0 .i64 .i64 2 2 (by omega) (by omega) (by rw [hz2]; omega) (by omega)
  rw [hz1] at this
  have e : madeCells (Value.int .u8 0).cells (Int.toNat 2 * 1) = #[.int .u8 0, .int .u8 0] := by kernel_rfl
  rw [e] at this
  exact this
theorem info33 : (Yba.prog.info? 33).map (fun i => (i.zero, i.size, i.bytes)) = some (some (.slice none 0 0), 1, 24) := by kernel_rfl
theorem make48 (W : World) : (Instr.makeSlice 48 (.int .i64 2) (.int .i64 2)).run Yba.prog W = .ok (.slice (some ⟨W.heap.size, 0, none⟩) 2 2) (W.alloc (.cells #[.slice none 0 0, .slice none 0 0] 33)) := by
  obtain ⟨i0, hi, hz0, hz1, hz2⟩ := info_parts info33
  have := run_make (P := Yba.prog) W 48 33 i0 _ Yba.underlying48 hi hz0 .i64 .i64 2 2 (by omega) (by omega) (by rw [hz2]; omega) (by omega)
  rw [hz1] at this
  have e : madeCells (Value.slice none 0 0).cells (Int.toNat 2 * 1) = #[.slice none 0 0, .slice none 0 0] := by kernel_rfl
  rw [e] at this
  exact this

def zz (g : G) (a : Nat) : Nat := if a = 0 then 0 else g.nZ
def cnt (g : G) (a k : Nat) : Nat := if a = 0 then (if k ≤ g.nZ then k else if unl g = true then g.nZ else g.nZ + g.nB) else (if g.rc = true then min k g.nB else 0)
theorem eqm_yes (W : World) : Sem.run Yba.prog (binOp .eql 52 (.map none) (.map none)) W = .ok (.bool true) W := by
  have := run_eql_map_nil (P := Yba.prog) W 52 9 4 none Yba.underlying52
  simpa using this
theorem eqm_no (W : World) (b : Nat) : Sem.run Yba.prog (binOp .eql 52 (.map (some b)) (.map none)) W = .ok (.bool false) W := by
  have := run_eql_map_nil (P := Yba.prog) W 52 9 4 (some b) Yba.underlying52
  simpa using this
theorem eq33_yes (W : World) : Sem.run Yba.prog (binOp .eql 33 (.slice none 0 0) (.slice none 0 0)) W = .ok (.bool true) W := by kernel_rfl

/-- What a production is to spares: passed over; a terminal ahead of the rule itself; or the rule B ahead of A. -/
theorem kinds {g : G} (hS : Shape g) (a k : Nat) (ha : a < 2) (hk : k < g.np a) :
    (g.en a k = g.st a k + 1 ∧ g.st a k + 1 < g.nS ∧ cnt g a (k + 1) = cnt g a k ∧ a = 1) ∨
    (∃ t : Nat, g.en a k = g.st a k + 2 ∧ g.st a k + 2 < g.nS ∧ g.nx (g.st a k) = -(t : Int) - 1 ∧ g.nx (g.st a k + 1) = (a : Int) ∧ t = zz g a + cnt g a k ∧ cnt g a (k + 1) = cnt g a k + 1 ∧ t < 3000 ∧ (a = 0 → k < g.nZ)) ∨
    (a = 0 ∧ k = g.nZ ∧ g.en a k = g.st a k + 2 ∧ g.st a k + 2 < g.nS ∧ g.nx (g.st a k) = 1 ∧ g.nx (g.st a k + 1) = (a : Int) ∧ cnt g a k = g.nZ ∧ g.st a k = 3 * g.nZ) := by
  have hb := hS.bB
  have hz := hS.bZ
  match a, ha with
  | 0, _ =>
    obtain ⟨h1, h2, h3, h4⟩ := prod0 hS k hk
    rw [hS.n0] at hk
    by_cases h : k < g.nZ
    · refine .inr (.inl ⟨k, by omega, by omega, ?_, ?_, ?_, ?_, by omega, fun _ => h⟩)
      · rw [h1]; exact (hS.z k h).2.2.1
      · rw [h1]; simpa using h3
      · simp only [zz, cnt, if_true]; rw [if_pos (by omega)]; omega
      · simp only [cnt, if_true]; rw [if_pos (by omega), if_pos (by omega)]
    · have e : k = g.nZ := by omega
      subst e
      refine .inr (.inr ⟨rfl, rfl, by omega, by omega, ?_, ?_, ?_, h1⟩)
      · rw [h1]; exact hS.x.2.2.1
      · rw [h1]; simpa using h3
      · simp [cnt]
  | 1, _ =>
    obtain ⟨j, h0, h1, h⟩ := prod1 hS k hk
    rcases h with ⟨rfl, hr, h2, h3, h4⟩ | ⟨h5, h2, h3⟩
    · refine .inr (.inl ⟨g.nZ + k, h3, h2, h1, by simpa using h4, ?_, ?_, by omega, fun e => by omega⟩)
      · simp [zz, cnt, hr]; omega
      · simp [cnt, hr]; omega
    · refine .inl ⟨h3, h2, ?_, rfl⟩
      rcases h5 with ⟨_, hr⟩ | ⟨e, _, hr⟩
      · simp [cnt, hr]
      · simp [cnt, hr]; omega

def SP0 (g : G) (w : World) (H : Nat) (v : Value) (wx : World) : Prop := ∃ X XS XL, v = .pointer (some ⟨X, 0, none⟩) ∧ Below H w wx ∧ TX wx g.p X XS XL 0 ∧ wx.cell? ⟨XS, 0, none⟩ = some (.int .u8 0) ∧ wx.cell? ⟨XL, 0, none⟩ = some (.slice none 0 0) ∧ (∀ i, i < g.nS → wx.cell? ⟨H, i, none⟩ = some (.bool false)) ∧ (∀ o, wx.frozen? ⟨H, o, none⟩ = false) ∧ H < X ∧ H < XS ∧ H < XL ∧ X < wx.heap.size ∧ XS < wx.heap.size ∧ XL < wx.heap.size
theorem sp0_of {g : G} {w wx : World} {H XS XL : Nat} (hH : H = w.heap.size) (hx : H < XS ∧ H < XL ∧ XS < H + 3 ∧ XL < H + 3 ∧ XS ≠ XL) (hb : Below H w wx) (h0 : wx.heap[H]? = some (.cells (falses g.nS) 4)) (h1 : wx.heap[XS]? = some (.cells #[.int .u8 0, .int .u8 0] 5)) (h2 : wx.heap[XL]? = some (.cells #[.slice none 0 0, .slice none 0 0] 33))
    (h3 : wx.heap[H + 3]? = some (.cells #[.pointer (some ⟨g.p, 0, none⟩), .slice (some ⟨XS, 0, none⟩) 2 2, .slice (some ⟨XL, 0, none⟩) 2 2] 50)) : SP0 g w H (.pointer (some ⟨H + 3, 0, none⟩)) wx := by
  have lt : ∀ {k : Nat} {o : Obj}, wx.heap[k]? = some o → k < wx.heap.size := fun {k o} h => (Array.getElem?_eq_some_iff.1 h).1
  refine ⟨H + 3, XS, XL, rfl, hb, ⟨cell_of_row _ _ _ _ _ _ h3, cell_of_row _ _ _ _ _ _ h3, cell_of_row _ _ _ _ _ _ h3, cell_of_row _ _ _ _ _ _ h1, ⟨_, cell_of_row _ _ _ _ _ _ h2⟩, fun o => frozen_of_row _ _ _ _ _ h1, fun o => frozen_of_row _ _ _ _ _ h2, by omega, by omega, hx.2.2.2.2⟩, cell_of_row _ _ _ _ _ _ h1, cell_of_row _ _ _ _ _ _ h2, fun i hi => ?_, fun o => frozen_of_row _ _ _ _ _ h0, by omega, by omega, by omega, lt h3, lt h1, lt h2⟩
  rw [cell_of_row _ _ _ _ _ _ h0]
  have := falses_at w g.nS i hi
  rw [cell_of_row _ _ _ _ _ _ (Deep.blk_alloc_new w (.cells (falses g.nS) 4))] at this
  exact this

theorem spA (g : G) (w : World) (H : Nat) (hH : H = w.heap.size) : SP0 g w H (.pointer (some ⟨H + 3, 0, none⟩)) ((((w.alloc (.cells (falses g.nS) 4)).alloc (.cells #[.int .u8 0, .int .u8 0] 5)).alloc (.cells #[.slice none 0 0, .slice none 0 0] 33)).alloc (.cells #[.pointer (some ⟨g.p, 0, none⟩), .slice (some ⟨H + 1, 0, none⟩) 2 2, .slice (some ⟨H + 2, 0, none⟩) 2 2] 50)).drew := by
  subst hH
  have hb : Below w.heap.size w ((((w.alloc (.cells (falses g.nS) 4)).alloc (.cells #[.int .u8 0, .int .u8 0] 5)).alloc (.cells #[.slice none 0 0, .slice none 0 0] 33)).alloc (.cells #[.pointer (some ⟨g.p, 0, none⟩), .slice (some ⟨w.heap.size + 1, 0, none⟩) 2 2, .slice (some ⟨w.heap.size + 2, 0, none⟩) 2 2] 50)) := ((((Below.refl _ w).alloc (Nat.le_refl _) _).alloc (by simp) _).alloc (by simp; omega) _).alloc (by simp; omega) _
  have h0 : ((((w.alloc (.cells (falses g.nS) 4)).alloc (.cells #[.int .u8 0, .int .u8 0] 5)).alloc (.cells #[.slice none 0 0, .slice none 0 0] 33)).alloc (.cells #[.pointer (some ⟨g.p, 0, none⟩), .slice (some ⟨w.heap.size + 1, 0, none⟩) 2 2, .slice (some ⟨w.heap.size + 2, 0, none⟩) 2 2] 50)).heap[w.heap.size]? = some (.cells (falses g.nS) 4) := by (repeat (first | (apply blk_new; simp; done) | apply blk_past))
  have h1 : ((((w.alloc (.cells (falses g.nS) 4)).alloc (.cells #[.int .u8 0, .int .u8 0] 5)).alloc (.cells #[.slice none 0 0, .slice none 0 0] 33)).alloc (.cells #[.pointer (some ⟨g.p, 0, none⟩), .slice (some ⟨w.heap.size + 1, 0, none⟩) 2 2, .slice (some ⟨w.heap.size + 2, 0, none⟩) 2 2] 50)).heap[w.heap.size + 1]? = some (.cells #[.int .u8 0, .int .u8 0] 5) := by (repeat (first | (apply blk_new; simp; done) | apply blk_past))
  have h2 : ((((w.alloc (.cells (falses g.nS) 4)).alloc (.cells #[.int .u8 0, .int .u8 0] 5)).alloc (.cells #[.slice none 0 0, .slice none 0 0] 33)).alloc (.cells #[.pointer (some ⟨g.p, 0, none⟩), .slice (some ⟨w.heap.size + 1, 0, none⟩) 2 2, .slice (some ⟨w.heap.size + 2, 0, none⟩) 2 2] 50)).heap[w.heap.size + 2]? = some (.cells #[.slice none 0 0, .slice none 0 0] 33) := by (repeat (first | (apply blk_new; simp; done) | apply blk_past))
  have h3 : ((((w.alloc (.cells (falses g.nS) 4)).alloc (.cells #[.int .u8 0, .int .u8 0] 5)).alloc (.cells #[.slice none 0 0, .slice none 0 0] 33)).alloc (.cells #[.pointer (some ⟨g.p, 0, none⟩), .slice (some ⟨w.heap.size + 1, 0, none⟩) 2 2, .slice (some ⟨w.heap.size + 2, 0, none⟩) 2 2] 50)).heap[w.heap.size + 3]? = some (.cells #[.pointer (some ⟨g.p, 0, none⟩), .slice (some ⟨w.heap.size + 1, 0, none⟩) 2 2, .slice (some ⟨w.heap.size + 2, 0, none⟩) 2 2] 50) := by (repeat (first | (apply blk_new; simp; done) | apply blk_past))
  exact sp0_of rfl (by omega) hb.drew h0 h1 h2 h3
theorem spB (g : G) (w : World) (H : Nat) (hH : H = w.heap.size) : SP0 g w H (.pointer (some ⟨H + 3, 0, none⟩)) ((((w.alloc (.cells (falses g.nS) 4)).alloc (.cells #[.slice none 0 0, .slice none 0 0] 33)).alloc (.cells #[.int .u8 0, .int .u8 0] 5)).alloc (.cells #[.pointer (some ⟨g.p, 0, none⟩), .slice (some ⟨H + 2, 0, none⟩) 2 2, .slice (some ⟨H + 1, 0, none⟩) 2 2] 50)).drew := by
  subst hH
  have hb : Below w.heap.size w ((((w.alloc (.cells (falses g.nS) 4)).alloc (.cells #[.slice none 0 0, .slice none 0 0] 33)).alloc (.cells #[.int .u8 0, .int .u8 0] 5)).alloc (.cells #[.pointer (some ⟨g.p, 0, none⟩), .slice (some ⟨w.heap.size + 2, 0, none⟩) 2 2, .slice (some ⟨w.heap.size + 1, 0, none⟩) 2 2] 50)) := ((((Below.refl _ w).alloc (Nat.le_refl _) _).alloc (by simp) _).alloc (by simp; omega) _).alloc (by simp; omega) _
  have h0 : ((((w.alloc (.cells (falses g.nS) 4)).alloc (.cells #[.slice none 0 0, .slice none 0 0] 33)).alloc (.cells #[.int .u8 0, .int .u8 0] 5)).alloc (.cells #[.pointer (some ⟨g.p, 0, none⟩), .slice (some ⟨w.heap.size + 2, 0, none⟩) 2 2, .slice (some ⟨w.heap.size + 1, 0, none⟩) 2 2] 50)).heap[w.heap.size]? = some (.cells (falses g.nS) 4) := by (repeat (first | (apply blk_new; simp; done) | apply blk_past))
  have h1 : ((((w.alloc (.cells (falses g.nS) 4)).alloc (.cells #[.slice none 0 0, .slice none 0 0] 33)).alloc (.cells #[.int .u8 0, .int .u8 0] 5)).alloc (.cells #[.pointer (some ⟨g.p, 0, none⟩), .slice (some ⟨w.heap.size + 2, 0, none⟩) 2 2, .slice (some ⟨w.heap.size + 1, 0, none⟩) 2 2] 50)).heap[w.heap.size + 2]? = some (.cells #[.int .u8 0, .int .u8 0] 5) := by (repeat (first | (apply blk_new; simp; done) | apply blk_past))
  have h2 : ((((w.alloc (.cells (falses g.nS) 4)).alloc (.cells #[.slice none 0 0, .slice none 0 0] 33)).alloc (.cells #[.int .u8 0, .int .u8 0] 5)).alloc (.cells #[.pointer (some ⟨g.p, 0, none⟩), .slice (some ⟨w.heap.size + 2, 0, none⟩) 2 2, .slice (some ⟨w.heap.size + 1, 0, none⟩) 2 2] 50)).heap[w.heap.size + 1]? = some (.cells #[.slice none 0 0, .slice none 0 0] 33) := by (repeat (first | (apply blk_new; simp; done) | apply blk_past))
  have h3 : ((((w.alloc (.cells (falses g.nS) 4)).alloc (.cells #[.slice none 0 0, .slice none 0 0] 33)).alloc (.cells #[.int .u8 0, .int .u8 0] 5)).alloc (.cells #[.pointer (some ⟨g.p, 0, none⟩), .slice (some ⟨w.heap.size + 2, 0, none⟩) 2 2, .slice (some ⟨w.heap.size + 1, 0, none⟩) 2 2] 50)).heap[w.heap.size + 3]? = some (.cells #[.pointer (some ⟨g.p, 0, none⟩), .slice (some ⟨w.heap.size + 2, 0, none⟩) 2 2, .slice (some ⟨w.heap.size + 1, 0, none⟩) 2 2] 50) := by (repeat (first | (apply blk_new; simp; done) | apply blk_past))
  exact sp0_of rfl (by omega) hb.drew h0 h1 h2 h3

/-- Behind the call of texts at a production's head: listed, or not. -/
def R15 (w : World) (H base : Nat) (g : G) (DM X XS XL a k : Nat) (f : Nat → Bool) (pv lv tv ov : Value) (wx : World) : Prop :=
  (∃ m Pb c ta, ov = .bool true ∧ tv = .slice ta m c ∧ (0 < m → ta = some ⟨Pb, 0, none⟩) ∧ m ≤ 1024 ∧ PiecesAt wx Pb 0 m (fun j => zz g a + cnt g a k + j) ∧ cnt g a (k + 1) = cnt g a k + m ∧ (0 < m → pv.ownBlock ≠ some Pb) ∧ AS wx base (zz g a) (cnt g a k) pv lv ∧ KS w wx H base g H DM X XS XL f (a = 0) (a = 0 ∧ k + 1 ≤ g.nZ) ∧ ¬ (a = 0 ∧ k + 1 = g.nZ + 1 ∧ unl g = true)) ∨
  (ov = .bool false ∧ a = 0 ∧ k = g.nZ ∧ unl g = true ∧ AS wx base (zz g a) (cnt g a k) pv lv ∧ KS w wx H base g H DM X XS XL f (a = 0) (a = 0 ∧ k + 1 ≤ g.nZ))

theorem r15_term {w wr : World} {H base : Nat} {g : G} {DM X XS XL a k : Nat} {f : Nat → Bool} {pv lv : Value} {lim : Prop} (has : AS wr base (zz g a) (cnt g a k) pv lv) (hks : KS w wr H base g H DM X XS XL f (a = 0) lim) (hlim : (a = 0 ∧ k + 1 ≤ g.nZ) → lim) (t : Nat) (h5 : t = zz g a + cnt g a k) (h6 : cnt g a (k + 1) = cnt g a k + 1) (h7 : t < 3000) (h8 : a = 0 → k < g.nZ) :
    R15 w H base g DM X XS XL a k f pv lv (.slice (some ⟨wr.heap.size + 1, 0, none⟩) 1 1) (.bool true) ((wr.alloc (.cells #[.int .i32 (t : Int)] 21)).alloc (.cells #[.slice (some ⟨wr.heap.size, 0, none⟩) 1 1] 27)) := by
  have hb1 : Below wr.heap.size wr ((wr.alloc (.cells #[.int .i32 (t : Int)] 21)).alloc (.cells #[.slice (some ⟨wr.heap.size, 0, none⟩) 1 1] 27)) := ((Below.refl _ wr).alloc (Nat.le_refl _) _).alloc (by simp) _
  have z0 : ((wr.alloc (.cells #[.int .i32 (t : Int)] 21)).alloc (.cells #[.slice (some ⟨wr.heap.size, 0, none⟩) 1 1] 27)).heap[wr.heap.size]? = some (.cells #[.int .i32 (t : Int)] 21) := by (repeat (first | (apply blk_new; simp; done) | apply blk_past))
  have z1 : ((wr.alloc (.cells #[.int .i32 (t : Int)] 21)).alloc (.cells #[.slice (some ⟨wr.heap.size, 0, none⟩) 1 1] 27)).heap[wr.heap.size + 1]? = some (.cells #[.slice (some ⟨wr.heap.size, 0, none⟩) 1 1] 27) := by (repeat (first | (apply blk_new; simp; done) | apply blk_past))
  refine .inl ⟨1, wr.heap.size + 1, 1, _, rfl, rfl, fun _ => rfl, by omega, fun i hi => ?_, h6, fun _ e => by obtain ⟨xs, hls⟩ := has.ls; have := (ownLt hls.own e).2; omega, has.keep hb1, hks.keep (hb1.mono hks.sz) hlim, fun h => by have := h8 h.1; omega⟩
  have e : i = 0 := by omega
  subst e
  refine ⟨by show zz g a + cnt g a k + 0 < 16384; omega, wr.heap.size, 1, cell_of_row _ _ _ _ _ _ z1, ?_⟩
  rw [cell_of_row _ _ _ _ _ _ z0]
  simp only [Nat.add_zero]
  rw [← h5]
  rfl
theorem r15_rec {w wr w' : World} {B H base : Nat} {g : G} {DM X XS XL a k : Nat} {f : Nat → Bool} {pv lv tv : Value} (has : AS wr base (zz g a) (cnt g a k) pv lv) (hks : KS w wr H base g H DM X XS XL f (a = 0) (a = 0 ∧ k ≤ g.nZ)) (ha : a = 0) (hk : k = g.nZ) (hu : unl g = true) (hc : Ch B [XS, XL] wr w') : R15 w H base g DM X XS XL a k f pv lv tv (.bool false) w' := by
  obtain ⟨_, ⟨x, hx⟩, la, ll, lc, hl⟩ := hks.tx ⟨ha, by omega⟩
  exact .inr ⟨rfl, ha, hk, hu, has.ch hc hks.hi.2.2.2.1 hks.hi.2.2.2.2 hx hl, hks.ch hc (by omega)⟩
theorem r15_list {w wr w' : World} {B H base : Nat} {g : G} {DM X XS XL a k : Nat} {f : Nat → Bool} {pv lv v : Value} (hS : Shape g) (has : AS wr base (zz g a) (cnt g a k) pv lv) (hks : KS w wr H base g H DM X XS XL f (a = 0) (a = 0 ∧ k ≤ g.nZ)) (ha : a = 0) (hk : k = g.nZ) (hu : unl g = false) (hc : Ch B [XS, XL] wr w') (hv : g.nB = 0 ∧ v = .slice none 0 0 ∨ ∃ Pb c, v = .slice (some ⟨Pb, 0, none⟩) g.nB c ∧ wr.heap.size ≤ Pb ∧ PiecesAt w' Pb 0 g.nB (fun j => g.nZ + j)) : R15 w H base g DM X XS XL a k f pv lv v (.bool true) w' := by
  obtain ⟨_, ⟨x, hx⟩, la, ll, lc, hl⟩ := hks.tx ⟨ha, by omega⟩
  have hb := hS.bB
  have e1 : cnt g a k = g.nZ := by unfold cnt; rw [if_pos ha, if_pos (by omega), hk]
  have e2 : cnt g a (k + 1) = g.nZ + g.nB := by unfold cnt; rw [if_pos ha, if_neg (by omega), if_neg (by rw [hu]; decide)]
  have e3 : zz g a = 0 := by unfold zz; rw [if_pos ha]
  have r1 := has.ch hc hks.hi.2.2.2.1 hks.hi.2.2.2.2 hx hl
  have r2 : KS w w' H base g H DM X XS XL f (a = 0) (a = 0 ∧ k + 1 ≤ g.nZ) := hks.ch hc (by omega)
  rcases hv with ⟨h0, rfl⟩ | ⟨Pb, c, rfl, hPb, hp⟩
  · exact .inl ⟨0, 0, 0, none, rfl, rfl, fun h => by omega, by omega, fun i hi => by omega, by omega, fun h => by omega, r1, r2, fun h => by rw [hu] at h; exact absurd h.2.2 (by decide)⟩
  · refine .inl ⟨g.nB, Pb, c, _, rfl, rfl, fun _ => rfl, by omega, fun i hi => ?_, by omega, fun _ e => by obtain ⟨xs, hls⟩ := has.ls; have := (ownLt hls.own e).2; omega, r1, r2, fun h => by rw [hu] at h; exact absurd h.2.2 (by decide)⟩
    obtain ⟨p1, b, c', p2, p3⟩ := hp i hi
    refine ⟨by show zz g a + cnt g a k + i < 16384; have : g.nZ + i < 16384 := p1; omega, b, c', p2, ?_⟩
    rw [p3, e1, e3, Nat.zero_add]

/-- Behind 'if listed == nil': the map is there. -/
def R18 (w : World) (H base : Nat) (g : G) (DM X XS XL a k m Pb : Nat) (f : Nat → Bool) (pv lv : Value) (wx : World) : Prop :=
  ∃ LM, lv = .map (some LM) ∧ (0 < m → pv.ownBlock ≠ some Pb) ∧ AS wx base (zz g a) (cnt g a k) pv lv ∧ KS w wx H base g H DM X XS XL f (a = 0) (a = 0 ∧ k + 1 ≤ g.nZ) ∧ PiecesAt wx Pb 0 m (fun j => zz g a + cnt g a k + j)
theorem as_map {wr : World} {base z n : Nat} {pv lv : Value} (h : AS wr base z n pv lv) : ∃ r, lv = .map r ∧ (r = none → n = 0) := by
  rcases h.mp with ⟨h0, h1⟩ | ⟨LM, D, h1, _⟩
  · exact ⟨none, h0, fun _ => h1⟩
  · exact ⟨some LM, h1, fun e => by cases e⟩

theorem KS.dirty {w0 wr w' : World} {B0 base : Nat} {g : G} {SP DM X XS XL : Nat} {f : Nat → Bool} {two' lim two'' lim' : Prop} (h : KS w0 wr B0 base g SP DM X XS XL f two' lim) (hg : wr.grownBy w' (some DM)) (hSD : SP ≠ DM) (h1 : ¬ two'') (h2 : ¬ lim') : KS w0 w' B0 base g SP DM X XS XL f two'' lim' := by
  obtain ⟨a1, a2, a3, a4, a5⟩ := h.hi
  have hsz := h.sz
  have hlo := h.lo
  exact ⟨h.below.grown hg (by omega) (fun k hk => by simp at hk; omega), Nat.le_trans h.sz hg.size, fun i hi => hg.cell (h.sp i hi) (by simpa using hSD), fun o => by rw [hg.frozen_far ⟨SP, o, none⟩ (show SP < _ by omega) (by simpa using hSD)]; exact h.spf o, h.lo, h.hi, h.ne, fun t => (h1 t).elim, fun t => (h2 t).elim⟩
theorem KS.mark {w0 wr : World} {B0 base : Nat} {g : G} {SP DM X XS XL : Nat} {f f' : Nat → Bool} {two' lim : Prop} (h : KS w0 wr B0 base g SP DM X XS XL f two' lim) (x : Nat) (b : Bool) (h1 : ¬ two') (h2 : ¬ lim) (hf : ∀ i, i < g.nS → f' i = if i = x then b else f i) : KS w0 (wr.setCell ⟨SP, x, none⟩ (.bool b)) B0 base g SP DM X XS XL f' two' lim := by
  have hlo := h.lo
  refine ⟨h.below.setCell (p := ⟨SP, x, none⟩) hlo.2.1 _, by simpa using h.sz, fun i hi => ?_, fun o => by rw [setCell_frozen]; exact h.spf o, h.lo, h.hi, h.ne, fun t => (h1 t).elim, fun t => (h2 t).elim⟩
  rw [hf i hi]
  by_cases e : i = x
  · subst e; rw [if_pos rfl]; exact setCell_self _ _ _ _ _ (h.sp i hi)
  · rw [if_neg e, setCell_off _ _ _ _ _ e]; exact h.sp i hi
/-- The graph that uses hands back. -/
theorem us_graph {g : G} {w w' : World} {U : Nat} {vs : Nat → Value} (hS : Shape g) (h : US w w' U vs (fun b => usedN g b (g.np b))) : ∃ (ua : Nat → Option Addr) (ub un uc : Nat → Nat) (e : Nat → Nat → Nat),
    (∀ v, v < 2 → w'.cell? ⟨U, v, none⟩ = some (.slice (ua v) (un v) (uc v))) ∧ (∀ v j, v < 2 → j < un v → ua v = some ⟨ub v, 0, none⟩ ∧ e v j < 2 ∧ w'.cell? ⟨ub v, j, none⟩ = some (.int .i32 (e v j))) ∧ (∀ v, v < 2 → un v ≤ 5000) ∧ (∀ v, v < 2 → ub v < w'.heap.size) ∧ g.nZ < un 0 ∧ e 0 g.nZ = 1 ∧ (∀ j, j < un 0 → j ≠ g.nZ → e 0 j = 0) ∧ (∀ j, j < un 1 → e 1 j = 1) := by
  obtain ⟨m, hm, hu1⟩ := used1 hS (g.np 1) (Nat.le_refl _)
  have hu0 := used0_all hS
  have hnp1 := np_le hS 1 (by omega)
  have hbZ := hS.bZ
  have form : ∀ v, v < 2 → ∃ a c b, vs v = .slice a (usedN g v (g.np v)).length c ∧ (0 < (usedN g v (g.np v)).length → a = some ⟨b, 0, none⟩) ∧ b < w'.heap.size ∧ ∀ j, j < (usedN g v (g.np v)).length → w'.cell? ⟨b, j, none⟩ = some (.int .i32 ((usedN g v (g.np v)).getD j 0)) := fun v hv => by
    have ho := h.own v hv
    obtain ⟨a, c, hvs, hac⟩ := owns_form ho
    rcases hac with h0 | ⟨b, h0⟩
    · refine ⟨a, c, 0, hvs, fun hp => ?_, by have := h.lt; omega, fun j hj => ?_⟩
      · rw [hvs, h0] at ho
        obtain ⟨gg, cap, e, _⟩ := ho.form hp
        cases e
      · rw [hvs, h0] at ho
        obtain ⟨gg, cap, e, _⟩ := ho.form (Nat.lt_of_le_of_lt (Nat.zero_le j) hj)
        cases e
    · rw [hvs, h0] at ho
      refine ⟨a, c, b, hvs, fun _ => h0, (ownLt ho (k := b) rfl).2, fun j hj => ?_⟩
      rw [ho.cellAt j (by omega)]
      simp [intsV, hj]
  obtain ⟨a0, c0, b0, f0, f1, f2, f3⟩ := form 0 (by omega)
  obtain ⟨a1, c1, b1, k0, k1, k2, k3⟩ := form 1 (by omega)
  have l0 : (usedN g 0 (g.np 0)).length = g.nZ + 2 := by rw [hu0]; simp
  have l1 : (usedN g 1 (g.np 1)).length = m := by rw [hu1]; simp
  have g0 : ∀ j, j < g.nZ + 2 → (usedN g 0 (g.np 0)).getD j 0 = if j = g.nZ then 1 else 0 := fun j hj => by
    rw [hu0]
    by_cases e : j < g.nZ
    · rw [if_neg (by omega), List.getD_eq_getElem?_getD, List.getElem?_append_left (by simpa using e)]
      simp [List.getElem?_replicate, e]
    · rw [List.getD_eq_getElem?_getD, List.getElem?_append_right (by simp; omega)]
      simp only [List.length_replicate]
      by_cases e2 : j = g.nZ
      · subst e2; simp
      · rw [if_neg e2, show j - g.nZ = 1 by omega]; rfl
  have g1 : ∀ j, j < m → (usedN g 1 (g.np 1)).getD j 0 = 1 := fun j hj => by
    rw [hu1, List.getD_eq_getElem?_getD]
    simp [List.getElem?_replicate, hj]
  refine ⟨fun v => if v = 0 then a0 else a1, fun v => if v = 0 then b0 else b1, fun v => if v = 0 then g.nZ + 2 else m, fun v => if v = 0 then c0 else c1, fun v j => if v = 0 then (if j = g.nZ then 1 else 0) else 1, two ?_ ?_, ?_, two ?_ ?_, two ?_ ?_, ?_, ?_, ?_, ?_⟩
  · have := h.cell 0 (by omega); rw [f0, l0] at this; simpa using this
  · have := h.cell 1 (by omega); rw [k0, l1] at this; simpa using this
  · intro v j hv hj
    match v, hv with
    | 0, _ =>
      have hj' : j < g.nZ + 2 := by simpa using hj
      have hc := f3 j (by omega)
      rw [g0 j hj'] at hc
      refine ⟨by simpa using f1 (by omega), ?_, ?_⟩
      · simp only [if_true]; split <;> omega
      · simp only [if_true]; rw [hc]; split <;> rfl
    | 1, _ =>
      have hj' : j < m := by simpa using hj
      have hc := k3 j (by omega)
      rw [g1 j hj'] at hc
      exact ⟨by simpa using k1 (by omega), by simp, by simpa using hc⟩
  · simp; omega
  · simp; omega
  · simpa using f2
  · simpa using k2
  · simp
  · simp
  · intro j hj hne; simp [hne]
  · intro j hj; simp

/-- In the loop over the texts: j of m are put. -/
def RIN (w : World) (H base : Nat) (g : G) (DM X XS XL a k m Pb LM j : Nat) (f : Nat → Bool) (pv : Value) (wx : World) : Prop :=
  (0 < m → pv.ownBlock ≠ some Pb) ∧ AS wx base (zz g a) (cnt g a k + j) pv (.map (some LM)) ∧ KS w wx H base g H DM X XS XL f (a = 0) (a = 0 ∧ k + 1 ≤ g.nZ) ∧ PiecesAt wx Pb 0 m (fun j => zz g a + cnt g a k + j)
theorem rin_push {w wr w2 w3 w5 : World} {H base : Nat} {g : G} {DM X XS XL a k m Pb LM j g2 cap b cb : Nat} {f : Nat → Bool} {pv : Value} {xs : List Value} {D : DataW Unit} (h : RIN w H base g DM X XS XL a k m Pb LM j f pv wr) (hj : j < m) (hb2 : Below wr.heap.size wr w2) (g3 : w2.grownBy w3 (some LM)) (hLM : base ≤ LM) (hls : LS w3 base (zz g a) (cnt g a k + j) pv xs)
    (hmap : w3.ownsMap Yba.prog 9 (plainElem (H := Unit) Yba.prog 4) LM (cnt g a k + j + 1) D) (noc : ∀ o, w2.cell? ⟨LM, o, none⟩ = none) (hD : ∀ t', t' < 16384 → zz g a + (cnt g a k + j) < 16384 → (∀ i, i < cnt g a k + j → t' ≠ zz g a + i) → t' ≠ zz g a + (cnt g a k + j) → D.atKey (kl t') (.lit (.bool false)) = .lit (.bool false)) (hz : zz g a + (cnt g a k + j) < 16384)
    (hbc : wr.cell? ⟨b, 0, none⟩ = some (.int .i32 ((zz g a + (cnt g a k + j) : Nat) : Int)))
    (ho : w5.ownsRow base 27 1 (.slice (some ⟨g2, 0, none⟩) (cnt g a k + j + 1) cap) (cnt g a k + j + 1) (xs ++ [.slice (some ⟨b, 0, none⟩) 1 cb])) (hg : (w3.alloc (.cells #[.slice (some ⟨b, 0, none⟩) 1 cb] 27)).grownBy w5 pv.ownBlock) (hat : pv.ownBlock = some g2 ∨ g2 = (w3.alloc (.cells #[.slice (some ⟨b, 0, none⟩) 1 cb] 27)).heap.size) :
    RIN w H base g DM X XS XL a k m Pb LM (j + 1) f (.slice (some ⟨g2, 0, none⟩) (cnt g a k + j + 1) cap) w5 := by
  obtain ⟨h0, h1, h2, h3⟩ := h
  have ne : ∀ {b o : Nat} {u : Value}, wr.cell? ⟨b, o, none⟩ = some u → b ≠ LM := fun {b o u} hp e => by
    have := keepW hb2 hp
    subst e
    rw [noc] at this
    cases this
  have k3 : ∀ {b o : Nat} {u : Value}, wr.cell? ⟨b, o, none⟩ = some u → w3.cell? ⟨b, o, none⟩ = some u := fun {b o u} hp => g3.cell (keepW hb2 hp) (fun e => ne hp (by simpa using e))
  have hq : Below w3.heap.size w3 (w3.alloc (.cells #[.slice (some ⟨b, 0, none⟩) 1 cb] 27)) := (Below.refl _ w3).alloc (Nat.le_refl _) _
  have hls' := hls.keep hq
  have hmap' := map_same hmap (hq.block LM hmap.lt)
  have hsz := h2.sz
  have hsz2 := hb2.size
  have hsz3 := g3.size
  have hqs := hq.size
  have hbel : Below base wr w5 := ((((hb2.mono hsz).trans ((Below.refl base w2).grown g3 (by omega) (fun k hk => by simp at hk; omega))).trans (hq.mono (by omega)))).grown hg (by omega) (fun k hk => (ownLt hls'.own hk).1)
  have up : ∀ {x y : Nat} {u : Value}, wr.cell? ⟨x, y, none⟩ = some u → pv.ownBlock ≠ some x → w5.cell? ⟨x, y, none⟩ = some u := fun {x y u} hp hne => hg.cell (keepW hq (k3 hp)) (fun e => hne e.symm)
  have hPb := h0 (by omega)
  refine ⟨fun _ e => ?_, ?_, h2.keep hbel id, fun i hi => ?_⟩
  · simp [Value.ownBlock] at e
    subst e
    rcases hat with e | e
    · exact hPb e
    · obtain ⟨_, b', c', p2, _⟩ := h3 j hj
      have : g2 < wr.heap.size := block_lt_of_cell p2
      omega
  · have := AS.push hls' hmap' hLM (by intro t' a1 a2 a3 a4; exact hD t' a1 a2 a3 a4) hz (keepW hq (k3 hbc)) ho hg
    rw [Nat.add_assoc] at this
    exact this
  · obtain ⟨p1, b', c', p2, p3⟩ := h3 i hi
    obtain ⟨xs1, hls1⟩ := h1.ls
    exact ⟨p1, b', c', up p2 hPb, up p3 (hls1.apart p3)⟩

set_option maxHeartbeats 12800000 in
set_option maxRecDepth 100000 in
theorem spares_any (B : Nat) (g : G) (w : World) (hPV : PV B w g) (hSh : Shape g) (hcs : g.nS ≤ g.sc) (hB : B ≤ w.heap.size) :
    Calls Yba.prog 5 #[.pointer (some ⟨g.p, 0, none⟩)] w fun e w' => ∃ SP, e = .returned (.slice (some ⟨SP, 0, none⟩) g.nS g.nS) ∧ Below w.heap.size w w' ∧ ∀ i, i < g.nS → w'.cell? ⟨SP, i, none⟩ = some (.bool (decide (i = 3 * g.nZ) && wantB g)) := by
  have hmk := run_make34 g.nS (by have := hSh.bS; omega)
  obtain ⟨i1, hi1, hz10, hz11, hz12⟩ := info_parts info21
  have HI1 := hid (And.intro hi1 (And.intro hz10 (And.intro hz11 hz12)))
  obtain ⟨i2, hi2, hz20, hz21, hz22⟩ := info_parts info27
  have HI2 := hid (And.intro hi2 (And.intro hz20 (And.intro hz21 hz22)))
  clear hi1 hz10 hz11 hz12 hi2 hz20 hz21 hz22
  have hmk2 := make47
  have hmk3 := make48
  have hmm := @run_makeMap Yba.prog
  have HPV := hid hPV
  have HSh := hid hSh
  have HB := hid hB
  have k0 := hPV.slots
  have k1 := hPV.prods
  have hpl : g.p < w.heap.size := by have := hPV.bp; omega
  clear hPV hSh hB
  go_enter Yba.func5, Yba.ntmps5
  go_wp2_with fail
  obtain ⟨H, hH⟩ : ∃ H, H = w.heap.size := ⟨_, rfl⟩
  have HH := hid hH
  clear hH
  go_cut [4] from 30 to 44 (fun v wx => SP0 g w H v wx)
  case first =>
    go_region
    all_goals
      go_wp2_with fail
      go_meet
      rw [← HH.out]
      simp only [Nat.add_assoc, Nat.reduceAdd]
      first
        | exact spA g w H HH.out
        | exact spB g w H HH.out
  case rest =>
    obtain ⟨X, XS, XL, rfl, hb, htx, hx0, hl0, hsp, hspf, l1, l2, l3, l4, l5, l6⟩ := hcut
    rw [← HH.out]
    have pvx := HPV.out.below (hb.mono (by rw [HH.out]; exact HB.out))
    have k1x := pvx.prods
    have hplx : g.p < wc.heap.size := by have := hb.size; omega
    have hks : KS w (wc.alloc (.map #[] 0)) H (wc.heap.size + 1) g H wc.heap.size X XS XL (fun _ => false) True True := by
      have hq : Below wc.heap.size wc (wc.alloc (.map #[] 0)) := (Below.refl _ wc).alloc (Nat.le_refl _) _
      have hHw : H ≤ wc.heap.size := by rw [HH.out]; exact hb.size
      refine ⟨hb.trans (hq.mono hHw), by simp, fun i hi => keepW hq (hsp i hi), fun o => by rw [frozenB hq (p := ⟨H, o, none⟩) (by show H < _; omega)]; exact hspf o, by omega, by omega, by omega, fun _ => World.ownsMap_made _ _ _ _, fun _ => ⟨htx.keep hq, ⟨_, keepW hq hx0⟩, _, _, _, keepW hq hl0⟩⟩
    have HKS := hid hks
    clear hmk hmk2 hmk3 k0 k1 hb htx hx0 hl0 hsp hspf pvx hks
    go_wp2_with fail
    clear k1x hplx l1 l2 l3 l4 l5 l6
    obtain ⟨DM, hDM⟩ : ∃ DM, DM = wc.heap.size := ⟨_, rfl⟩
    rw [← hDM] at HKS ⊢
    clear hDM
    obtain ⟨base, hbase⟩ : ∃ base, base = DM + 1 := ⟨_, rfl⟩
    rw [← hbase] at HKS
    clear hbase
    generalize wc.alloc (.map #[] 0) = W at HKS ⊢
    go_loopw [5, 51] (fun uv iv wr => ∃ a : Nat, a ≤ 2 ∧ iv = .int .i64 a ∧ (a = 0 → uv = .slice none 0 0) ∧ KS w wr H base g H DM X XS XL (fun i => decide (0 < a) && (decide (i = 3 * g.nZ) && wantB g)) (a = 0) (a = 0)) (fun _ i _ => 2 - (intOf i).toNat)
    case atStart => exact ⟨0, by omega, rfl, fun _ => rfl, HKS.out.below, HKS.out.sz, fun i hi => by simpa using HKS.out.sp i hi, HKS.out.spf, HKS.out.lo, HKS.out.hi, HKS.out.ne, fun _ => HKS.out.dm trivial, fun _ => HKS.out.tx trivial⟩
    case round =>
      clear HKS
      obtain ⟨a, ha, rfl, huv, hks⟩ := hrel
      have HKS := hid hks
      have HUV := hid huv
      by_cases ha2 : a < 2
      · have pv := HPV.out.below (hks.below.mono (by rw [HH.out]; exact HB.out))
        have r1 := pv.rowP a ha2
        obtain ⟨A, hA⟩ : ∃ A, A = g.pA a := ⟨_, rfl⟩
        rw [← hA] at r1
        have HAA := hid hA
        have b1 : (a : Int) < 2 := by omega
        generalize hf : (fun i => decide (0 < a) && (decide (i = 3 * g.nZ) && wantB g)) = f at *
        have HF := hid hf
        have hnpa := np_le HSh.out a ha2
        clear hks huv pv hA hf
        go_wp2_with fail
        clear r1
        go_loopw [9, 10, 11, 58] (fun pv xv lv iv wr => ∃ k : Nat, k ≤ g.np a ∧ iv = .int .i64 k ∧ AS wr base (zz g a) (cnt g a k) pv lv ∧ (xv = .slice none 0 0 ∧ ¬ (a = 0 ∧ k = g.nZ + 1 ∧ unl g = true) ∨ (a = 0 ∧ k = g.nZ + 1 ∧ unl g = true) ∧ ∃ XB c, xv = .slice (some ⟨XB, 0, none⟩) 1 c ∧ wr.cell? ⟨XB, 0, none⟩ = some (.int .i32 ((3 * g.nZ : Nat) : Int)) ∧ base ≤ XB) ∧ KS w wr H base g H DM X XS XL f (a = 0) (a = 0 ∧ k ≤ g.nZ)) (fun _ _ _ i _ => g.np a - (intOf i).toNat)
        case atStart =>
          refine ⟨0, by omega, rfl, ?_, .inl ⟨rfl, by omega⟩, HKS.out.keep (Below.refl _ _) (fun h => h.1)⟩
          have e : cnt g a 0 = 0 := by unfold cnt; split <;> simp
          rw [e]
          exact AS.start _ _ _
        case round =>
          obtain ⟨k, hk, rfl, has, hxv, hks⟩ := hrel
          have HKS := hid hks
          have HAS := hid has
          have HXV := hid hxv
          by_cases hlt : k < g.np a
          · have pv := HPV.out.below (hks.below.mono (by rw [HH.out]; exact HB.out))
            obtain ⟨e1, _, e3⟩ := pv.atP a k ha2 hlt
            obtain ⟨f1, _, f3⟩ := pv.atE a k ha2 hlt
            have rE := pv.rowE a ha2
            rw [f1] at rE
            have e1' := HAA.out.trans e1
            subst e1'
            have b2 : (k : Int) < (g.np a : Int) := by omega
            have pS := pv.slots
            have pE := pv.ends
            have hbS := HSh.out.bS
            have hbZ := HSh.out.bZ
            have hbB := HSh.out.bB
            rcases kinds HSh.out a k ha2 hlt with ⟨h1, h2, h3, h4⟩ | hT
            · rw [h1] at f3
              have hne : (((g.st a k + 1 : Nat) : Int) != (g.st a k : Int) + 2) = true := by simp
              have hs1 : ((g.st a k : Nat) : Int) < 10000 := by omega
              have P1 := hid (And.intro (show AS wr base (zz g a) (cnt g a (k + 1)) u9 u11 by rw [h3]; exact has) (hks.keep (lim' := (a = 0 ∧ k + 1 ≤ g.nZ)) (Below.refl _ _) (fun h => by omega)))
              have HX2 : Hid (u10 = .slice none 0 0) := by
                rcases hxv with h | h
                · exact h.1
                · omega
              have HA1 := hid h4
              clear has hxv hks pv e1 f1 h1 h3 h4
              generalize g.st a k = st at *
              rw [Int.natCast_add] at f3 hne
              go_wp2_with fail
              refine ⟨⟨k + 1, by omega, by go_num, P1.out.1, .inl ⟨HX2.out, by have := HA1.out; omega⟩, P1.out.2⟩, by simp [intOf]; omega⟩
            · have hen : g.en a k = g.st a k + 2 ∧ g.st a k + 2 < g.nS ∧ g.nx (g.st a k + 1) = (a : Int) := by
                rcases hT with ⟨t, h1, h2, h3, h4, _⟩ | ⟨_, _, h1, h2, h3, h4, _⟩ <;> exact ⟨h1, h2, h4⟩
              rw [hen.1] at f3
              have u1 := (pv.slot (g.st a k) (by omega)).1
              have u2 := (pv.slot (g.st a k + 1) (by omega)).1
              rw [hen.2.2] at u2
              have hs1 : ((g.st a k : Nat) : Int) < 10000 := by omega
              have hs2 : ((g.st a k : Nat) : Int) < (g.nS : Int) := by omega
              have hs3 : ((g.st a k : Nat) : Int) + 1 < (g.nS : Int) := by omega
              have HT := hid hT
              have hxs : u10 = .slice none 0 0 := by
                rcases hxv with h | ⟨⟨h1, h2, _⟩, _⟩
                · exact h.1
                · subst h1; rw [HSh.out.n0] at hlt; omega
              subst hxs
              clear has hxv hks pv e1 f1 hT hen HXV
              generalize hst : g.st a k = st at *
              have HSTT := hid hst
              clear hst
              rw [Int.natCast_add] at f3
              go_upto_region 15 with fail
              go_cut [14, 15] from 59 to 132 (fun tv ov wx => R15 w H base g DM X XS XL a k f u9 u11 tv ov wx)
              case first =>
                rcases HT.out with ⟨t, h1, h2, h3, h4, h5, h6, h7, h8⟩ | ⟨h0, h1, h2, h3, h4, h5, h6, h7⟩
                · rw [h3] at u1
                  have hHT := hid (And.intro h5 (And.intro h6 h8))
                  clear HT h1 h2 h3 h4 h5 h6 h8
                  go_wp2_with fail
                  refine (texts_term _ t 0 _ (by omega)).mono ?_
                  rintro r w2 ⟨rfl, rfl⟩
                  have P1 := hid (r15_term HAS.out HKS.out (fun h => ⟨h.1, Nat.le_of_succ_le h.2⟩) t hHT.out.1 hHT.out.2.1 h7 hHT.out.2.2)
                  clear hHT HAS HKS
                  go_wp2_with fail
                  go_meet
                  exact P1.out
                · rw [h4] at u1
                  have hz := hid (And.intro h0 h1)
                  have htx := (HKS.out.tx ⟨h0, by omega⟩).1
                  have pv := HPV.out.below (HKS.out.below.mono (by rw [HH.out]; exact HB.out))
                  have hBw : B ≤ wr.heap.size := by have := HKS.out.below.size; have := HB.out; omega
                  have hlo := HKS.out.lo
                  have hBH : B ≤ H := by rw [HH.out]; exact HB.out
                  have hcall : Calls Yba.prog 7 #[.pointer (some ⟨X, 0, none⟩), .int .i32 1, .int .i64 0] wr fun e w' => ∃ tv ov, e = .returned (.tuple #[tv, ov]) ∧ R15 w H base g DM X XS XL a k f u9 u11 tv ov w' := by
                    by_cases hrec : g.rc = true ∧ 0 < g.nB
                    · refine (texts_rec B X XS XL g wr pv HSh.out htx hBw (by omega) (by omega) hrec.1 hrec.2).mono ?_
                      rintro e w' ⟨rfl, hc⟩
                      exact ⟨_, _, rfl, r15_rec HAS.out HKS.out h0 h1 (by simp [unl, hrec.1, hrec.2]) hc⟩
                    · have hor : g.rc = false ∨ g.nB = 0 := by
                        cases hr : g.rc with
                        | false => exact .inl rfl
                        | true => exact .inr (by rw [hr] at hrec; simp at hrec; exact hrec)
                      refine (texts_list B X XS XL g wr pv HSh.out htx hBw (by omega) (by omega) hor).mono ?_
                      rintro e w' ⟨hc, ⟨h64, rfl⟩ | ⟨h64, v, rfl, hv⟩⟩
                      · exact ⟨_, _, rfl, r15_rec HAS.out HKS.out h0 h1 (by simp [unl, h64]; omega) hc⟩
                      · refine ⟨_, _, rfl, r15_list HSh.out HAS.out HKS.out h0 h1 ?_ hc hv⟩
                        rcases hor with h | h
                        · simp [unl, h]; omega
                        · simp [unl, h]
                  have HCALL := hid hcall
                  clear HT h0 h1 h2 h3 h4 h5 h6 h7 htx pv hcall hlo HAS HKS
                  go_wp2_with fail
                  refine HCALL.out.mono ?_
                  rintro r w2 ⟨tv, ov, rfl, hR⟩
                  have HR := hid hR
                  clear hR HCALL
                  go_wp2_with fail
                  go_meet
                  exact HR.out
              case rest =>
                have HR := hid hcut
                clear hcut HT u1 u2 f3 e3 rE pS pE
                rcases HR.out with ⟨m, Pb, c, ta, rfl, rfl, hta, hm, hpc, hcn, hpv, has, hks, hnx⟩ | ⟨rfl, ha0, hkz, hun, has, hks⟩
                · obtain ⟨r, hr, hr0⟩ := as_map has
                  subst hr
                  have heq := fun W => run_eql_map_nil (P := Yba.prog) W 52 9 4 r Yba.underlying52
                  have HAS := hid has
                  have HKS := hid hks
                  have HPC := hid hpc
                  have HCN := hid hcn
                  have HNX := hid hnx
                  have HTA := hid hta
                  have HR0 := hid hr0
                  have HPB := hid hpv
                  clear has hks hpc hcn hnx hta HR hr0 hpv
                  go_upto_if 110 with fail
                  clear heq
                  go_cut [11] from 59 to 132 (fun lv wx => R18 w H base g DM X XS XL a k m Pb f u9 lv wx)
                  case first =>
                    cases r with
                    | none =>
                      have hn0 := HR0.out rfl
                      have P1 : Hid (R18 w H base g DM X XS XL a k m Pb f u9 (.map (some wc.heap.size)) (wc.alloc (.map #[] 0))) := by
                        have hq : Below wc.heap.size wc (wc.alloc (.map #[] 0)) := (Below.refl _ wc).alloc (Nat.le_refl _) _
                        have has := HAS.out
                        refine ⟨_, rfl, HPB.out, ?_, HKS.out.keep (hq.mono HKS.out.sz) id, HPC.out.below hq⟩
                        rw [hn0] at has ⊢
                        exact has.made HKS.out.sz
                      clear HAS HKS HPC hn0
                      go_wp2_with fail
                      go_meet
                      exact P1.out
                    | some LM =>
                      have P1 : Hid (R18 w H base g DM X XS XL a k m Pb f u9 (.map (some LM)) wc) := ⟨LM, rfl, HPB.out, HAS.out, HKS.out, HPC.out⟩
                      clear HAS HKS HPC
                      go_wp2_with fail
                      go_meet
                      exact P1.out
                  case rest =>
                    clear HAS HKS HPC HPB
                    obtain ⟨LM, rfl, hpb, has, hks, hpc⟩ := hcut
                    have HAS := hid has
                    have HKS := hid hks
                    have HPC := hid hpc
                    have R0 : Hid (RIN w H base g DM X XS XL a k m Pb LM 0 f u9 wc) := ⟨hpb, by rw [Nat.add_zero]; exact has, hks, hpc⟩
                    clear has hks hpc hpb HAS HKS HPC
                    go_wp2_with fail
                    go_loopw [9, 114] (fun pv iv wx => ∃ j : Nat, j ≤ m ∧ iv = .int .i64 j ∧ RIN w H base g DM X XS XL a k m Pb LM j f pv wx) (fun _ i _ => m - (intOf i).toNat)
                    case atStart => exact ⟨0, by omega, rfl, R0.out⟩
                    case round =>
                      clear R0
                      obtain ⟨j, hj, rfl, hrin⟩ := hrel
                      have HRIN := hid hrin
                      clear hrin
                      by_cases hjm : j < m
                      · have hta := HTA.out (Nat.lt_of_le_of_lt (Nat.zero_le j) hjm)
                        subst hta
                        obtain ⟨p1, b, cb, p2, p3⟩ := HRIN.out.2.2.2 j hjm
                        rw [Nat.zero_add] at p2
                        obtain ⟨t, ht⟩ : ∃ t, t = zz g a + cnt g a k + j := ⟨_, rfl⟩
                        have ht2 : t < 16384 := by rw [ht]; exact p1
                        have p3' : wr.cell? ⟨b, 0, none⟩ = some (.int .i32 (t : Int)) := by rw [ht]; exact p3
                        have hb1 : Below wr.heap.size wr (wr.alloc (.cells #[.slice (some ⟨b, 0, none⟩) 1 cb] 27)) := (Below.refl _ wr).alloc (Nat.le_refl _) _
                        have hkey := key_any wr.heap.size 0 1 1 (fun _ => t) (wr.alloc (.cells #[.slice (some ⟨b, 0, none⟩) 1 cb] 27)) (Nat.le_refl _) (by omega) (fun i hi => by
                          have e : i = 0 := by omega
                          subst e
                          refine ⟨ht2, b, cb, ?_, keepW hb1 p3'⟩
                          rw [cell_of_row _ _ _ _ _ _ (Deep.blk_alloc_new wr (.cells #[.slice (some ⟨b, 0, none⟩) 1 cb] 27))]
                          rfl)
                        have HK := hid hkey
                        have HB1 := hid hb1
                        have HTT := hid ht
                        have HP3 := hid p3'
                        have bj : (j : Int) < (m : Int) := by omega
                        have hPl : Pb < wr.heap.size := block_lt_of_cell p2
                        have HCB : Hid (cnt g a k + j < 5000) := by
                          have := HSh.out.bZ
                          have := HSh.out.bB
                          have h := HRIN.out.2.1
                          show cnt g a k + j < 5000
                          have : cnt g a k ≤ g.nZ + g.nB := by unfold cnt; split <;> split <;> (try split) <;> omega
                          omega
                        clear p1 p3 p3' hb1 hkey ht
                        go_wp2_with fail
                        refine HK.out.mono ?_
                        rintro r w2 ⟨rfl, hb2⟩
                        have hbw2 := HB1.out.trans (hb2.mono HB1.out.size)
                        have has2 := HRIN.out.2.1.keep hbw2
                        have hne : ∀ i, i < cnt g a k + j → t ≠ zz g a + i := fun i hi => by have := HTT.out; omega
                        have hlook := has2.look t ht2 hne
                        obtain ⟨w3, hrun, g3, hLM, ⟨xs, hls⟩, D, hmap, hD⟩ := has2.put t (Nat.lt_trans HCB.out (by decide))
                        have hnoc : ∀ o, w2.cell? ⟨LM, o, none⟩ = none := fun o => by
                          rcases has2.mp with ⟨h0, _⟩ | ⟨LM', D', h1, _, h3, _⟩
                          · cases h0
                          · cases h1; exact map_no_cell h3 o
                        obtain ⟨va, vc, hva, _⟩ := owns_form hls.own
                        subst hva
                        have hlt3 : base ≤ w3.heap.size := Nat.le_trans HRIN.out.2.2.1.sz (Nat.le_trans hbw2.size g3.size)
                        have OA := hid (hls.own.alloc (.cells #[.slice (some ⟨b, 0, none⟩) 1 cb] 27))
                        have HALL := hid (And.intro hbw2 (And.intro g3 (And.intro hLM (And.intro hls (And.intro hmap (And.intro hnoc hD))))))
                        clear hb2 hbw2 has2 hne g3 hLM hls hmap hnoc hD HK HB1
                        generalize keyS (fun _ => t) 1 = KY at hlook hrun ⊢
                        generalize hN : cnt g a k + j = N at *
                        have HN := hid hN
                        clear hN
                        go_wp2_with (first | (at_builtin; refine wpList_append_lies _ rfl (.tmp 127) (.tmp 129) 33 rfl base 27 i2 (.slice none 0 0) 1 24 Yba.underlying33 HI2.out.1 HI2.out.2.1 HI2.out.2.2.1 HI2.out.2.2.2 rfl (by decide) (.slice va N vc) N xs ?c0 OA.out ⟨w3.heap.size, 0, none⟩ 1 1 [.slice (some ⟨b, 0, none⟩) 1 cb] ?c8 ?c1 ?c2 ?c3 ?c4 ?c5 ?c6 ?c7 _ rfl ?_))
                        case c0 => rfl
                        case c8 => rfl
                        case c1 => rfl
                        case c2 => exact World.news_of_block (t := 27) (fr := (0, 0)) (cs := #[.slice (some ⟨b, 0, none⟩) 1 cb]) (Deep.blk_alloc_new w3 _)
                        case c3 => intro u hu; simp at hu; subst hu; rfl
                        case c4 => omega
                        case c5 => have := HCB.out; unfold maxLen; omega
                        case c6 => have := HCB.out; omega
                        case c7 => simp; omega
                        intro g5 cap5 w5 own5 gr5 at5 lt5
                        have hP : RIN w H base g DM X XS XL a k m Pb LM (j + 1) f (.slice (some ⟨g5, 0, none⟩) (N + 1) cap5) w5 := by
                          obtain ⟨hbw2, g3, hLM, hls, hmap, hnoc, hD⟩ := HALL.out
                          have hNN := HN.out
                          subst hNN
                          have htt := HTT.out
                          have e9 : t = zz g a + (cnt g a k + j) := by omega
                          refine rin_push HRIN.out hjm hbw2 g3 hLM hls hmap hnoc (fun t' a1 a2 a3 a4 => hD t' a1 ht2 a3 (by omega)) (by omega) (by rw [← e9]; exact HP3.out) own5 gr5 (by simpa using at5)
                        have P1 := hid hP
                        clear own5 gr5 at5 hP HALL OA hlook hrun HRIN
                        go_wp2_with fail
                        refine ⟨⟨j + 1, by omega, by go_num, P1.out⟩, by simp [intOf]; omega⟩
                      · have hjm' : j = m := by omega
                        subst hjm'
                        have P1 : Hid (AS wr base (zz g a) (cnt g a (k + 1)) u9 (.map (some LM)) ∧ KS w wr H base g H DM X XS XL f (a = 0) (a = 0 ∧ k + 1 ≤ g.nZ)) := ⟨by rw [HCN.out]; exact HRIN.out.2.1, HRIN.out.2.2.1⟩
                        clear HRIN
                        go_wp2_with fail
                        refine ⟨⟨k + 1, by omega, by go_num, P1.out.1, .inl ⟨rfl, HNX.out⟩, P1.out.2⟩, by simp [intOf]; omega⟩
                · have HZ := hid (And.intro ha0 (And.intro hkz hun))
                  have HAS := hid has
                  have HKS := hid hks
                  have hszb : base ≤ wc.heap.size := hks.sz
                  clear ha0 hkz hun has hks HR
                  go_wp2_with (first | (at_builtin; refine wpList_append_lies _ rfl (.tmp 105) (.tmp 107) 27 rfl base 21 i1 (.int .i32 0) 1 4 Yba.underlying27 HI1.out.1 HI1.out.2.1 HI1.out.2.2.1 HI1.out.2.2.2 rfl (by decide) (.slice none 0 0) 0 [] ?c0 (World.ownsRow_nil _ _ _ _) ⟨wc.heap.size, 0, none⟩ 1 1 [.int .i32 (st : Int)] ?c8 ?c1 ?c2 ?c3 ?c4 ?c5 ?c6 ?c7 _ rfl ?_))
                  case c0 => rfl
                  case c8 => rfl
                  case c1 => rfl
                  case c2 => exact World.news_of_block (t := 21) (fr := (0, 0)) (cs := #[.int .i32 (st : Int)]) (Deep.blk_alloc_new wc _)
                  case c3 => intro u hu; simp at hu; subst hu; rfl
                  case c4 => omega
                  case c5 => unfold maxLen; omega
                  case c6 => omega
                  case c7 => simp; omega
                  intro g5 cap5 w5 own5 gr5 at5 lt5
                  have P1 : Hid (∃ (c : Nat), (Value.slice (some ⟨g5, 0, none⟩) (0 + 1) cap5 = .slice (some ⟨g5, 0, none⟩) 1 c) ∧ (a = 0 ∧ k + 1 = g.nZ + 1 ∧ unl g = true) ∧ AS w5 base (zz g a) (cnt g a (k + 1)) u9 u11 ∧ w5.cell? ⟨g5, 0, none⟩ = some (.int .i32 ((3 * g.nZ : Nat) : Int)) ∧ base ≤ g5 ∧ KS w w5 H base g H DM X XS XL f (a = 0) (a = 0 ∧ k + 1 ≤ g.nZ)) := by
                    obtain ⟨ha0, hkz, hun⟩ := HZ.out
                    have hb5 : Below wc.heap.size wc w5 := ((Below.refl _ wc).alloc (Nat.le_refl _) _).grown gr5 (by simp) (fun k hk => by simp [Value.ownBlock] at hk)
                    have hst : (st : Int) = ((3 * g.nZ : Nat) : Int) := by
                      have h1 := HSTT.out
                      rw [ha0, hkz, HSh.out.x.1] at h1
                      rw [h1]
                    have e : cnt g a (k + 1) = cnt g a k := by unfold cnt; rw [if_pos ha0, if_pos ha0, if_neg (by omega), if_pos hun, if_pos (by omega), hkz]
                    have z := own5.cellAt 0 (by omega)
                    refine ⟨cap5, rfl, ⟨ha0, by omega, hun⟩, by rw [e]; exact HAS.out.keep hb5, ?_, (ownLt own5 (k := g5) rfl).1, HKS.out.keep (hb5.mono hszb) id⟩
                    rw [z, ← hst]; rfl
                  clear own5 gr5 at5 HAS HKS
                  go_wp2_with fail
                  obtain ⟨c5, q1, q2, q3, q4, q5, q6⟩ := P1.out
                  refine ⟨⟨k + 1, by omega, by go_num, q3, .inr ⟨q2, g5, c5, by simpa using q1, q4, q5⟩, q6⟩, by simp [intOf]; omega⟩
          · have hkn : k = g.np a := by omega
            have HKN := hid hkn
            obtain ⟨xs9, hls9⟩ := has.ls
            obtain ⟨va, vc, hva, _⟩ := owns_form hls9.own
            subst hva
            rcases hxv with ⟨rfl, hnf⟩ | ⟨hfull, XB, cX, rfl, hXB, hXBb⟩
            · have P1 : Hid (KS w wr H base g H DM X XS XL (fun i => decide (0 < a + 1) && (decide (i = 3 * g.nZ) && wantB g)) (a + 1 = 0) (a + 1 = 0)) := by
                have hfe : ∀ i, f i = (decide (0 < a + 1) && (decide (i = 3 * g.nZ) && wantB g)) := fun i => by
                  rw [← HF.out]
                  rcases Nat.eq_zero_or_pos a with h0 | h0
                  · have hu : unl g = false := by
                      cases hu : unl g with
                      | false => rfl
                      | true => subst h0; rw [HSh.out.n0] at hkn; exact absurd ⟨rfl, hkn, hu⟩ hnf
                    simp [wantB, hu]
                  · simp [h0]
                exact ⟨hks.below, hks.sz, fun i hi => by rw [← hfe i]; exact hks.sp i hi, hks.spf, hks.lo, hks.hi, hks.ne, fun h => by omega, fun h => by omega⟩
              generalize cnt g a k = N at *
              by_cases hN : N = 0
              · subst hN
                clear has hks hls9 hkn HKN HKS HAS HXV hnf
                go_wp2_with fail
                refine ⟨⟨a + 1, by omega, by go_num, fun h => by omega, P1.out⟩, by simp [intOf]; omega⟩
              · have hN2 : ((N : Int) == 0) = false := by simp; omega
                clear has hks hls9 hkn HKN HKS HAS HXV hnf
                go_wp2_with fail
                refine ⟨⟨a + 1, by omega, by go_num, fun h => by omega, P1.out⟩, by simp [intOf]; omega⟩
            · obtain ⟨ha0, hk1, hun⟩ := hfull
              have hN : cnt g a k = g.nZ := by unfold cnt; rw [if_pos ha0, if_neg (by omega), if_pos hun]
              have hzz : zz g a = 0 := by unfold zz; rw [if_pos ha0]
              have hu5 := HUV.out ha0
              subst hu5
              rw [hN] at hls9 ⊢
              have hbZ := HSh.out.bZ
              have hbS := HSh.out.bS
              have hx2 := HSh.out.x2
              by_cases hz0 : g.nZ = 0
              · have P1 : Hid (KS w wr H base g H DM X XS XL (fun i => decide (0 < a + 1) && (decide (i = 3 * g.nZ) && wantB g)) (a + 1 = 0) (a + 1 = 0)) := by
                  have hfe : ∀ i, f i = (decide (0 < a + 1) && (decide (i = 3 * g.nZ) && wantB g)) := fun i => by
                    rw [← HF.out]
                    simp [wantB, hz0]
                  exact ⟨hks.below, hks.sz, fun i hi => by rw [← hfe i]; exact hks.sp i hi, hks.spf, hks.lo, hks.hi, hks.ne, fun h => by omega, fun h => by omega⟩
                have hz1 : ((g.nZ : Int) == 0) = true := by simp [hz0]
                clear has hks hls9 hkn HKN HKS HAS HXV ha0 hk1 hun hN hzz hz0 hXB
                go_wp2_with fail
                refine ⟨⟨a + 1, by omega, by go_num, fun h => by omega, P1.out⟩, by simp [intOf]; omega⟩
              · have hz2 : ((g.nZ : Int) == 0) = false := by simp; omega
                obtain ⟨Pb, c, hv, _, hpc⟩ := hls9.pieces (by omega) (by omega)
                simp only [Value.slice.injEq, true_and] at hv
                obtain ⟨rfl, rfl⟩ := hv
                have hpc2 : PiecesAt wr Pb 0 g.nZ (fun i => i) := by
                  have e : (fun j => zz g a + j) = (fun i : Nat => i) := by funext j; rw [hzz, Nat.zero_add]
                  rw [← e]; exact hpc
                have hkey := key_any Pb 0 g.nZ vc (fun i => i) wr (by omega) (by omega) hpc2
                have hsS : H ≠ DM := fun e => by
                  have h1 := hks.sp (3 * g.nZ) (by omega)
                  rw [e, map_no_cell (hks.dm ha0)] at h1
                  cases h1
                have hKL : (keyS (fun i => i) g.nZ).size ≤ maxLen := by
                  have := keyL_length (fun i => i) g.nZ
                  simp [keyS, ByteArray.size]
                  unfold maxLen
                  omega
                have hkk := WideMaps.keyOf_string_mk (P := Yba.prog) Yba.underlying9 hKL
                have HK := hid hkey
                have HKS := hid hks
                have HPC := hid hpc2
                have HZ := hid (And.intro ha0 (And.intro hun hsS))
                have HXB := hid hXB
                have HKK := hid hkk
                have heq33 := eq33_yes
                have hz3 : 0 < g.nZ := by omega
                clear has hks hls9 hkn HKN HAS HXV ha0 hk1 hun hN hzz hXB hkey hpc hpc2 hsS hkk hKL hz0
                go_wp2_with fail
                refine HK.out.mono ?_
                rintro r w1 ⟨rfl, hb1⟩
                have ks1 := HKS.out.keep (hb1.mono HKS.out.sz) (lim' := False) (fun h => h.elim)
                have dm1 := ks1.dm HZ.out.1
                obtain ⟨v0, ps0, hlook, _⟩ := dm1.look_ok (Maps.string_keyed Yba.underlying9) Yba.underlying51 (z := .slice none 0 0) (by kernel_rfl) rfl HKK.out
                have hhas : Maps.has (DataW.map [] : DataW Unit) (Lit.string (keyS (fun i => i) g.nZ).data.toList) = false := rfl
                rw [hhas] at hlook
                have HB1 := hid hb1
                have KS1 := hid ks1
                have pv1 := HPV.out.below (ks1.below.mono (by rw [HH.out]; exact HB.out))
                have hBw1 : B ≤ w1.heap.size := by have := ks1.below.size; have := HB.out; omega
                have hus := uses_any B g w1 pv1 hBw1 (fun a ha => np_le HSh.out a ha) (fun a k ha hk => st_en HSh.out a k ha hk) hbS hcs (fun a k ha hk => by
                  match a, ha with
                  | 0, _ =>
                    by_cases h : k ≤ g.nZ
                    · rw [used0 HSh.out k h]; simp; omega
                    · have e : k = g.np 0 := by rw [HSh.out.n0] at hk ⊢; omega
                      rw [e, used0_all HSh.out]; simp; omega
                  | 1, _ =>
                    obtain ⟨m, hm, he⟩ := used1 HSh.out k hk
                    have := np_le HSh.out 1 (by omega)
                    rw [he]; simp; omega)
                have HUS := hid hus
                have HDM := hid dm1
                clear hb1 ks1 dm1 pv1 hus HK hhas
                generalize keyS (fun i => i) g.nZ = KY at *
                go_wp2_with (first | (at_len; refine wpList_len_own _ rfl _ 51 rfl 9 34 Yba.underlying51 _ DM 0 _ rfl HDM.out ?_))
                refine HUS.out.mono ?_
                rintro r w2 ⟨vs, rfl, us2⟩
                obtain ⟨ua, ub, un, uc, e, g1, g2, g3, g4, g5, g6, g7, g8⟩ := us_graph HSh.out us2
                have hb2 := us2.below
                have pv2 := HPV.out.below ((KS1.out.below.trans (hb2.mono (by have := KS1.out.below.size; have := HH.out; omega))).mono (by rw [HH.out]; exact HB.out))
                have hoth := others_any B Pb vc w1.heap.size g.nZ g w2 pv2 HSh.out hcs (Nat.le_trans hBw1 hb2.size) ((HPC.out.below HB1.out).below hb2) hz3 ua ub un uc e g1 g2 g3 g4 g5 g6 g7 g8 (fun a ha => np_le HSh.out a ha) (fun a k ha hk => st_en HSh.out a k ha hk) (fun a k j ha hk hj => nx_low HSh.out a k j ha hk hj)
                have HOTH := hid hoth
                have HB2 := hid hb2
                clear us2 g1 g2 g3 g4 g5 g6 g7 g8 pv2 hoth hb2 HUS hlook heq33
                go_wp2_with fail
                refine HOTH.out.mono ?_
                rintro r w3 ⟨D, b0, oth, rfl, hb3, d0, d1, hsaid⟩
                rw [hit1 HSh.out oth hsaid] at d1
                have hbw3 : Below wr.heap.size wr w3 := (HB1.out.trans (HB2.out.mono HB1.out.size)).trans (hb3.mono (Nat.le_trans HB1.out.size HB2.out.size))
                have ks3 := HKS.out.keep (hbw3.mono HKS.out.sz) (lim' := False) (fun h => h.elim)
                obtain ⟨w4, hrun, hown4, gr4⟩ := (ks3.dm HZ.out.1).update (Maps.string_keyed Yba.underlying9) Yba.underlying51 (by unfold maxLen; omega) HKK.out (val := .slice (some ⟨D, 0, none⟩) 2 2) rfl
                have hXB3 := keepW hbw3 HXB.out
                have hnoc : ∀ o, w3.cell? ⟨DM, o, none⟩ = none := fun o => map_no_cell (ks3.dm HZ.out.1) o
                have k4 : ∀ {x y : Nat} {u : Value}, w3.cell? ⟨x, y, none⟩ = some u → w4.cell? ⟨x, y, none⟩ = some u := fun {x y u} hp => gr4.cell hp (fun e => by
                  simp at e
                  subst e
                  rw [hnoc] at hp
                  cases hp)
                have d1' := k4 d1
                have hXB4 := k4 hXB3
                have ks4 : KS w w4 H base g H DM X XS XL f (a + 1 = 0) (a + 1 = 0) := ks3.dirty gr4 HZ.out.2.2 (by omega) (by omega)
                have pv4 := HPV.out.below (ks4.below.mono (by rw [HH.out]; exact HB.out))
                have pS4 := pv4.slots
                have u4 := (pv4.slot (3 * g.nZ) (by omega)).1
                rw [HSh.out.x.2.2.1] at u4
                have s4 := ks4.sp (3 * g.nZ) (by omega)
                have sf4 := ks4.spf (3 * g.nZ)
                have hwb : wantB g = !anyD g g.nB := by simp [wantB, hz3, HZ.out.2.1]
                have ks5 : KS w (w4.setCell ⟨H, 3 * g.nZ, none⟩ (.bool (!anyD g g.nB))) H base g H DM X XS XL (fun i => decide (0 < a + 1) && (decide (i = 3 * g.nZ) && wantB g)) (a + 1 = 0) (a + 1 = 0) := ks4.mark (3 * g.nZ) (!anyD g g.nB) (by omega) (by omega) (fun i hi => by
                  have hfi : f i = false := by rw [← HF.out]; simp [HZ.out.1]
                  rw [hfi, hwb]
                  by_cases e : i = 3 * g.nZ
                  · rw [if_pos e]; simp [e]
                  · rw [if_neg e]; simp [e])
                have P1 := hid ks5
                have hz4 : ((3 * g.nZ : Nat) : Int) < (g.nS : Int) := by omega
                have hz5 : ((3 * g.nZ : Nat) : Int) < 10000 := by omega
                generalize hX3 : 3 * g.nZ = x3 at *
                have HX3 := hid hX3
                generalize anyD g g.nB = AD at *
                clear hb3 d0 d1 hsaid hbw3 ks3 hown4 gr4 hXB3 hnoc k4 ks4 pv4 hwb ks5 hX3 HOTH HB1 HB2 KS1 HKS HPC HDM HXB HKK
                go_wp2_with fail
                refine wp_loop_rounds 2 ?_
                rw [rounds_succ]
                go_wp2_with fail
                rw [rounds_succ]
                go_wp2_with fail
                refine ⟨⟨a + 1, by omega, by go_num, fun h => by omega, by rw [HX3.out]; exact P1.out⟩, by simp [intOf]; omega⟩
      · have ha' : a = 2 := by omega
        have R1 : Hid (Below w.heap.size w wr ∧ ∀ i, i < g.nS → wr.cell? ⟨H, i, none⟩ = some (.bool (decide (i = 3 * g.nZ) && wantB g))) := by
          refine ⟨by rw [← HH.out]; exact hks.below, fun i hi => ?_⟩
          have := hks.sp i hi
          rw [ha'] at this
          simpa using this
        clear hks huv HKS HUV
        go_wp2_with fail
        go_ret
        exact ⟨H, rfl, R1.out.1, R1.out.2⟩
end Go.Proofs.Ybulkdamm
