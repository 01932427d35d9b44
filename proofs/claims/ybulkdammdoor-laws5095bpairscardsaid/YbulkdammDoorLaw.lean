import Derived.Test.YbulkdammDoorPair2
namespace Go.Proofs.YbulkdammDoor
open Go.RowKit
set_option linter.unusedVariables false

def zeros (C : Nat) : Array Value := madeCells (Value.int .i32 0).cells C
theorem run_make23 (C : Nat) (h : C ≤ 100) (w : World) : (Instr.makeSlice 23 (.int .i64 C) (.int .i64 C)).run Ybad.prog w = .ok (.slice (some ⟨w.heap.size, 0, none⟩) C C) (w.alloc (.cells (zeros C) 21)) := by
  obtain ⟨i0, hi, hz0, hz1, hz2⟩ := info_parts info21
  have := run_make (P := Ybad.prog) w 23 21 i0 _ Ybad.underlying23 hi hz0 .i64 .i64 C C (by omega) (by omega) (by rw [hz2]; omega) (by omega)
  rw [hz1, Int.toNat_natCast, Nat.mul_one] at this
  exact this

def cellsA (b C : Nat) : Array Value :=
  #[.slice (some ⟨b, 0, none⟩) C C, .slice none 0 0, .int .u32 0, .int .i64 0, .int .i64 0, .slice none 0 0, .slice none 0 0, .slice none 0 0, .int .u32 0, .int .i64 0, .int .i64 0,
    .slice none 0 0, .int .u32 0, .int .i64 0, .int .i64 0, .slice none 0 0, .int .i32 0, .int .i32 0, .slice none 0 0, .slice none 0 0, .slice none 0 0, .slice none 0 0, .int .u32 0,
    .int .i64 0, .int .i64 0, .slice none 0 0, .slice none 0 0, .slice none 0 0, .slice none 0 0, .slice none 0 0, .slice none 0 0]
def fA (b C : Nat) : Nat → Value := fun i => (cellsA b C).getD i undef

theorem start_st (C : Nat) (w : World) (hb1 : 1 < w.heap.size) (hG : w.cell? ⟨1, 63, none⟩ = some (.int .u8 6)) :
    St w.heap.size (w.heap.size + 1) C 1 ((w.alloc (.cells (zeros C) 21)).alloc (.cells (cellsA w.heap.size C) 34)) (fA w.heap.size C) := by
  have hblk := Deep.blk_alloc_new (w.alloc (.cells (zeros C) 21)) (.cells (cellsA w.heap.size C) 34)
  rw [World.size_alloc] at hblk
  have hch : Ch 0 [] w ((w.alloc (.cells (zeros C) 21)).alloc (.cells (cellsA w.heap.size C) 34)) := ((Ch.refl 0 [] w).alloc (Nat.zero_le _) _).alloc (Nat.zero_le _) _
  have h31 : (cellsA w.heap.size C).size = 31 := rfl
  refine ⟨by omega, hb1, ?_, ⟨fun i hi => ?_, fun o => ?_⟩, ⟨_, _, rfl⟩, World.ownsRow_nil _ _ _ _, World.ownsRow_nil _ _ _ _, ⟨0, [], World.ownsRow_nil _ _ _ _⟩, .inl ⟨rfl, rfl, rfl, rfl, rfl⟩, ⟨rfl, rfl, rfl, rfl⟩, ?_, ?_, ?_, ?_, ?_⟩
  · rw [hch.cell (p := ⟨1, 63, none⟩) hb1 (by simp)]; exact hG
  · rw [cell_of_row _ _ _ _ _ _ hblk]
    rw [fA, Array.getD_eq_getD_getElem?, Array.getElem?_eq_getElem (by rw [h31]; exact hi)]
    rfl
  · have := World.frozen?_alloc_new (w.alloc (.cells (zeros C) 21)) (cellsA w.heap.size C) 34 o
    rwa [World.size_alloc] at this
  · intro e; cases e
  · intro e; cases e
  · intro e; cases e
  · intro k e; cases e
  · intro k e; cases e

theorem unite_step2 (base M C g : Nat) (f : Nat → Value) (w : World) (hS : St base M C g w f) (hg : 1 ≤ g) (hg2 : g ≤ 31) (hC : 31 ≤ C) :
    Calls Ybad.prog 4 #[.pointer (some ⟨M, 0, none⟩), .int .i32 (ug g), .int .i32 g] w fun e w' => e = .returned (.tuple #[.int .i32 (-2 - ((g : Int) - 1)), .bool true]) ∧ (∃ f', St base M C (g + 1) w' f') ∧ Below base w w' := by
  have := unite_step base M C g f w hS hg hg2 hC
  rwa [show ((g - 1 : Nat) : Int) = (g : Int) - 1 from by omega] at this

set_option maxHeartbeats 3200000 in
set_option maxRecDepth 100000 in
theorem law_walk (x y C h : Nat) (w : World) (hx : x < 256) (hy : y < 256) (hC : 31 + x % 3 = C) (hh : 32 + y % 16 = h) (hb1 : 1 < w.heap.size) (hG : w.cell? ⟨1, 63, none⟩ = some (.int .u8 6)) :
    Calls Ybad.prog 3 #[.int .u8 x, .int .u8 y] w fun e w' => e = .returned (.bool true) ∧ Below w.heap.size w w' := by
  have hmk := run_make23 C (by omega)
  have hCi : 31 + (x : Int) % 3 = (C : Int) := by omega
  have hhi : 32 + (y : Int) % 16 = (h : Int) := by omega
  go_enter Ybad.func3, Ybad.ntmps3
  go_wp2_with fail
  have s0 := start_st C w hb1 hG
  have c0 : Below w.heap.size w ((w.alloc (.cells (zeros C) 21)).alloc (.cells (cellsA w.heap.size C) 34)) := ((Below.refl _ w).alloc (Nat.le_refl _) _).alloc (by simp) _
  have S0 := hid s0
  have C0 := hid c0
  clear s0 c0 hmk
  go_loopw [7, 8] (fun u gv wr => ∃ (g : Nat) (f : Nat → Value), 1 ≤ g ∧ g ≤ 32 ∧ u = .int .i32 (ug g) ∧ gv = .int .i32 g ∧ St w.heap.size (w.heap.size + 1) C g wr f ∧ Below w.heap.size w wr) (fun _ gv _ => 32 - (intOf gv).toNat)
  case atStart => exact ⟨1, _, by omega, by omega, rfl, rfl, S0.out, C0.out⟩
  case round =>
    obtain ⟨g, f, hg1, hg, rfl, rfl, hs, hc⟩ := hrel
    have HS := hid hs
    have HC := hid hc
    clear hs hc
    by_cases hlt : g < 32
    · have hlt2 : (g : Int) < 32 := by omega
      go_wp2_with fail
      refine (unite_step2 _ _ C g f wr HS.out hg1 (by omega) (by omega)).mono ?_
      rintro e w1 ⟨rfl, ⟨f1, s1⟩, c1⟩
      have S1 := hid s1
      have C1 := hid (HC.out.trans c1)
      clear s1 c1
      go_wp2_with fail
      have e : ug (g + 1) = -2 - ((g : Int) - 1) := by
        unfold ug
        rw [if_neg (by omega)]
        omega
      exact ⟨⟨g + 1, f1, by omega, by omega, by rw [e], by simp, S1.out, C1.out⟩, by simp [intOf]; omega⟩
    · have hg32 : g = 32 := by omega
      subst hg32
      have hug : ug 32 = -32 := rfl
      rw [hug]
      by_cases hC31 : C = 31
      · go_wp2_with fail
        refine (unite_full _ _ C h f wr HS.out (by omega) (by omega) hC31).mono ?_
        rintro e w1 ⟨rfl, ⟨f1, s1⟩, c1⟩
        have C1 := HC.out.trans c1
        obtain ⟨uv, uc, hv5⟩ : ∃ uv uc, f1 5 = .slice uv 31 uc := by
          rcases s1.un.2 with ⟨h0, h1⟩ | ⟨b, cap, cur, h0, _⟩
          · exact absurd h1 (by decide)
          · exact ⟨_, _, h0⟩
        have q5 := s1.mb.cell 5 (by omega)
        rw [hv5] at q5
        have hCi31 : (C : Int) = 31 := by omega
        clear s1 hv5
        go_wp2
        go_ret
        exact ⟨by simp, C1⟩
      · go_wp2_with fail
        refine (unite_pair _ _ C h f wr HS.out (by omega) (by omega) (by omega)).mono ?_
        rintro e w1 ⟨rfl, ⟨f1, U, uc, B, mc, T, p1⟩, c1⟩
        have C1 := hid (HC.out.trans c1)
        have P1 := hid p1
        have k5 := p1.core.mb.cell 5 (by omega)
        rw [p1.core.e5] at k5
        have u0 := p1.u31 0 (by omega)
        have u1 := p1.u31 1 (by omega)
        have u2 := p1.u31 2 (by omega)
        have u3 := p1.u31 3 (by omega)
        have u4 := p1.u31 4 (by omega)
        have u5 := p1.u31 5 (by omega)
        simp only [uni, List.getElem?_cons_zero, List.getElem?_cons_succ, Nat.add_zero, Nat.reduceAdd] at u0 u1 u2 u3 u4 u5
        have hCi31 : ((C : Int) == 31) = false := beq_eq_false_iff_ne.2 (by omega)
        clear p1 c1
        go_wp2_with fail
        have chA := (Ch.refl w.heap.size [] w1).alloc P1.out.core.hbw (.cells #[.int .i32 (-32), .int .i32 h, .int .i32 0, .int .i32 0, .int .i32 0, .int .i32 (-1)] 38)
        refine (unite_again _ _ h U uc B mc T f1 _ (P1.out.ch chA) (by omega) (by omega)).mono ?_
        rintro e w2 ⟨rfl, ⟨f2, p2⟩, c2⟩
        have C2 := hid ((C1.out.trans chA.below).trans c2)
        have P2 := hid p2
        clear p2 c2 chA
        go_wp2_with fail
        refine (unite_last _ _ h U uc B mc T f2 _ P2.out (by omega) (by omega)).mono ?_
        rintro e w3 ⟨rfl, ⟨f3, p3⟩, c3⟩
        have C3 := C2.out.trans c3
        have k5' := p3.core.mb.cell 5 (by omega)
        rw [p3.core.e5] at k5'
        clear p3 c3
        go_wp2
        go_ret
        exact ⟨by simp, C3⟩
end Go.Proofs.YbulkdammDoor
