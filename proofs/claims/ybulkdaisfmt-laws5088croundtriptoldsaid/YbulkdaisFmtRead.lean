import Derived.Test.YbulkdaisFmtPut
import Derived.Deep.QuietTactic
import Derived.BigQuiet
import Derived.RegionTactic
import Derived.LaidEql
namespace Go.Proofs.YbulkdaisFmt
open Go.RowKit

theorem grownBy_refl (w : World) (r : Option Nat) : w.grownBy w r := ⟨rfl, rfl, rfl, Nat.le_refl _, fun _ _ _ => rfl⟩
theorem grownBy_trans {a b c : World} {r : Option Nat} (h : a.grownBy b r) (k : b.grownBy c r) : a.grownBy c r :=
  ⟨k.os.trans h.os, k.tape.trans h.tape, k.output.trans h.output, Nat.le_trans h.size k.size, fun i hi hne => (k.block i (Nat.lt_of_lt_of_le hi h.size) hne).trans (h.block i hi hne)⟩
theorem grownBy_drewN {a b : World} {r : Option Nat} (h : a.grownBy b r) (n : Nat) : a.grownBy (b.drewN n) r := ⟨h.os, h.tape, h.output, h.size, h.block⟩
theorem grownBy_setCell (w : World) (R o : Nat) (v : Value) : w.grownBy (w.setCell ⟨R, o, none⟩ v) (some R) :=
  ⟨rfl, rfl, rfl, by simp [World.setCell], fun k _ hne => heap_setCell_other _ _ _ _ (fun e => hne (by rw [e]))⟩

/-- The reader lies in block R and stands at i; its bytes are bs, in block g; the two sentinels of io lie where they lie. -/
structure Ctx (w : World) (R g n cap : Nat) (bs : List Nat) (aU aE : Addr) (i : Nat) : Prop where
  rd : w.heap[R]? = some (.cells #[.slice (some ⟨g, 0, none⟩) n cap, .int .i64 i] 32 (0, 0))
  cells : ∀ j, j < n → w.cell? ⟨g, j, none⟩ = some (bv (bs.getD j 0))
  gne : g ≠ R
  gU : w.cell? ⟨0, 0, none⟩ = some (.iface 62 (.pointer (some aU)))
  gE : w.cell? ⟨2, 0, none⟩ = some (.iface 62 (.pointer (some aE)))
  far : 2 < R
  nle : n ≤ 1000000
  nlen : n = bs.length
  glt : g < w.heap.size

theorem Ctx.rlt {w : World} {R g n cap : Nat} {bs : List Nat} {aU aE : Addr} {i : Nat} (h : Ctx w R g n cap bs aU aE i) : R < w.heap.size := lt_of_block h.rd

theorem Ctx.step {w w' : World} {R g n cap : Nat} {bs : List Nat} {aU aE : Addr} {i i' : Nat} (h : Ctx w R g n cap bs aU aE i) (hg : w.grownBy w' (some R))
    (hr : w'.heap[R]? = some (.cells #[.slice (some ⟨g, 0, none⟩) n cap, .int .i64 i'] 32 (0, 0))) : Ctx w' R g n cap bs aU aE i' := by
  have hR := h.far
  refine ⟨hr, fun j hj => hg.cell (h.cells j hj) (by have := h.gne; simpa using this), h.gne, hg.cell h.gU (by simp; omega), hg.cell h.gE (by simp; omega), h.far, h.nle, h.nlen, Nat.lt_of_lt_of_le h.glt hg.size⟩

/-- A step that writes other rows than the reader's, made behind w. -/
theorem Ctx.kept {w w' : World} {R g n cap : Nat} {bs : List Nat} {aU aE : Addr} {i : Nat} (h : Ctx w R g n cap bs aU aE i) (hb : Below w.heap.size w w') : Ctx w' R g n cap bs aU aE i := by
  have hR := h.rlt
  have hf := h.far
  refine ⟨by rw [hb.block R hR]; exact h.rd, fun j hj => ?_, h.gne, ?_, ?_, h.far, h.nle, h.nlen, Nat.lt_of_lt_of_le h.glt hb.size⟩
  · have := h.cells j hj; rw [hb.cell (p := ⟨g, j, none⟩) (block_lt_of_cell this)]; exact this
  · have := h.gU; rw [hb.cell (p := ⟨0, 0, none⟩) (block_lt_of_cell this)]; exact this
  · have := h.gE; rw [hb.cell (p := ⟨2, 0, none⟩) (block_lt_of_cell this)]; exact this

theorem Ctx.c0 {w : World} {R g n cap : Nat} {bs : List Nat} {aU aE : Addr} {i : Nat} (h : Ctx w R g n cap bs aU aE i) : w.cell? ⟨R, 0, none⟩ = some (.slice (some ⟨g, 0, none⟩) n cap) := by
  rw [cell_of_row w R 0 _ _ _ h.rd]; rfl
theorem Ctx.c1 {w : World} {R g n cap : Nat} {bs : List Nat} {aU aE : Addr} {i : Nat} (h : Ctx w R g n cap bs aU aE i) : w.cell? ⟨R, 1, none⟩ = some (.int .i64 i) := by
  rw [cell_of_row w R 1 _ _ _ h.rd]; rfl
theorem Ctx.fr {w : World} {R g n cap : Nat} {bs : List Nat} {aU aE : Addr} {i : Nat} (h : Ctx w R g n cap bs aU aE i) (o : Nat) : w.frozen? ⟨R, o, none⟩ = false :=
  frozen_of_row w R o _ _ h.rd

set_option maxHeartbeats 800000 in
set_option maxRecDepth 100000 in
theorem readByte_ok0 (R g n cap i : Nat) (c : Int) (w : World) (h0 : w.cell? ⟨R, 0, none⟩ = some (.slice (some ⟨g, 0, none⟩) n cap)) (h1 : w.cell? ⟨R, 1, none⟩ = some (.int .i64 i))
    (hf : w.frozen? ⟨R, 1, none⟩ = false) (hi : (i : Int) < (n : Int)) (hn : (n : Int) ≤ 1000000) (hc : w.cell? ⟨g, i, none⟩ = some (.int .u8 c)) :
    Calls Ybaf.prog 32 #[.pointer (some ⟨R, 0, none⟩)] w fun e w' => e = .returned (.tuple #[.int .u8 c, .nilIface]) ∧ ∃ k, w' = (w.setCell ⟨R, 1, none⟩ (.int .i64 (i + 1))).drewN k := by
  have hi0 : (0 : Int) ≤ (i : Int) := by omega
  go_enter Ybaf.func32, Ybaf.ntmps32
  go_wp2
  go_quiet (fail)
  go_wp2
  go_quiet (fail)
  go_wp2
  go_ret2
  exact ⟨rfl, _, rfl⟩

set_option maxHeartbeats 800000 in
set_option maxRecDepth 100000 in
theorem readByte_eof0 (R g n cap : Nat) (aE : Addr) (w : World) (h0 : w.cell? ⟨R, 0, none⟩ = some (.slice (some ⟨g, 0, none⟩) n cap)) (h1 : w.cell? ⟨R, 1, none⟩ = some (.int .i64 n))
    (hE : w.cell? ⟨2, 0, none⟩ = some (.iface 62 (.pointer (some aE)))) :
    Calls Ybaf.prog 32 #[.pointer (some ⟨R, 0, none⟩)] w fun e w' => e = .returned (.tuple #[.int .u8 0, .iface 62 (.pointer (some aE))]) ∧ ∃ k l, w' = (w.drewN k).drewN l := by
  go_enter Ybaf.func32, Ybaf.ntmps32
  go_wp2
  go_quiet (fail)
  go_wp2
  go_quiet (fail)
  go_wp2
  go_ret2
  exact ⟨rfl, _, _, rfl⟩

theorem readByte_ok {R g n cap : Nat} {bs : List Nat} {aU aE : Addr} {i : Nat} {w : World} (h : Ctx w R g n cap bs aU aE i) (hi : i < n) :
    Calls Ybaf.prog 32 #[.pointer (some ⟨R, 0, none⟩)] w fun e w' => e = .returned (.tuple #[.int .u8 ((bs.getD i 0 : Nat) : Int), .nilIface]) ∧ w.grownBy w' (some R) ∧ Ctx w' R g n cap bs aU aE (i + 1) := by
  refine (readByte_ok0 R g n cap i _ w h.c0 h.c1 (h.fr 1) (by omega) (by have := h.nle; omega) (h.cells i hi)).mono ?_
  rintro e w' ⟨rfl, k, rfl⟩
  have hg := grownBy_drewN (grownBy_setCell w R 1 (.int .i64 (i + 1))) k
  refine ⟨rfl, hg, h.step hg ?_⟩
  show (w.setCell ⟨R, 1, none⟩ (.int .i64 (i + 1))).heap[R]? = _
  rw [heap_setCell_same w R 1 _ _ _ h.rd]
  simp

theorem readByte_eof {R g n cap : Nat} {bs : List Nat} {aU aE : Addr} {w : World} (h : Ctx w R g n cap bs aU aE n) :
    Calls Ybaf.prog 32 #[.pointer (some ⟨R, 0, none⟩)] w fun e w' => e = .returned (.tuple #[.int .u8 0, .iface 62 (.pointer (some aE))]) ∧ w.grownBy w' (some R) ∧ Ctx w' R g n cap bs aU aE n := by
  refine (readByte_eof0 R g n cap aE w h.c0 h.c1 h.gE).mono ?_
  rintro e w' ⟨rfl, k, l, rfl⟩
  have hg := grownBy_drewN (grownBy_drewN (grownBy_refl w (some R)) k) l
  exact ⟨rfl, hg, h.step hg h.rd⟩
end Go.Proofs.YbulkdaisFmt
