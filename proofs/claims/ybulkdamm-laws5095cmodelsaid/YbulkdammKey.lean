import Derived.Test.YbulkdammLeaf
namespace Go.Proofs.Ybulkdamm
open Go.RowKit
set_option linter.unusedVariables false

theorem info5 : (Yba.prog.info? 5).map (fun i => (i.zero, i.size, i.bytes)) = some (some (.int .u8 0), 1, 1) := by kernel_rfl
theorem info_parts5 : ∃ i, Yba.prog.info? 5 = some i ∧ i.zero = some (.int .u8 0) ∧ i.size = 1 ∧ i.bytes = 1 := by
  have h := info5
  cases hi : Yba.prog.info? 5 with
  | none => rw [hi] at h; cases h
  | some i => rw [hi] at h; simp at h; exact ⟨i, rfl, h⟩

/-- The variable-length form of a number below 16384. -/
def uv (x : Nat) : List Nat := if x < 128 then [x] else [x % 128 + 128, x / 128]
def bytesV (l : List Nat) : List Value := l.map fun (b : Nat) => Value.int .u8 (b : Int)
theorem uv_inj {x y : Nat} (hx : x < 16384) (hy : y < 16384) (h : uv x = uv y) : x = y := by
  unfold uv at h
  split at h <;> split at h <;> simp at h <;> omega

theorem or128 (x : Nat) : bits .or .u8 ((x : Int) % 256) 128 = ((x % 128 + 128 : Nat) : Int) := by
  have h : ∀ a : Fin 256, bits .or .u8 (a.1 : Int) 128 = ((a.1 % 128 + 128 : Nat) : Int) := by decide +kernel
  have := h ⟨x % 256, Nat.mod_lt _ (by decide)⟩
  simp only at this
  rw [show ((x : Int) % 256) = ((x % 256 : Nat) : Int) from by omega, this]
  congr 1
  omega

set_option maxHeartbeats 1600000 in
set_option maxRecDepth 100000 in
theorem append_byte {base : Nat} {w : World} {v : Value} {n : Nat} {xs : List Value} (hown : w.ownsRow base 5 1 v n xs) : ∃ a c, v = .slice a n c := by
  rcases hown.2 with ⟨h0, h1⟩ | ⟨g, cap, cur, h0, _⟩
  · exact ⟨none, 0, by rw [h0, h1]⟩
  · exact ⟨_, _, h0⟩

set_option maxHeartbeats 1600000 in
set_option maxRecDepth 100000 in
theorem uv_small (base x n : Nat) (v : Value) (xs : List Value) (w : World) (hown : w.ownsRow base 5 1 v n xs) (hx : x < 128) (hbw : base ≤ w.heap.size) (hn : n ≤ 1000000) :
    Calls Yba.prog 12 #[v, .int .u64 x] w fun e w' => ∃ v', e = .returned v' ∧ w'.ownsRow base 5 1 v' (n + 1) (xs ++ [.int .u8 (x : Int)]) ∧ Below base w w' := by
  obtain ⟨i0, hi, hz0, hz1, hz2⟩ := info_parts5
  obtain ⟨a, c, rfl⟩ := append_byte hown
  have HO := hid (hown.alloc (.cells #[.int .u8 (x : Int)] 5))
  have hlt := hown.lt
  have hx0 : ((x : Int) % 256) = x := by omega
  have hx1 : decide ((128 : Int) ≤ (x : Int)) = false := by simp; omega
  have hx2 : (x : Int) < 128 := by omega
  clear hown
  go_enter Yba.func12, Yba.ntmps12
  go_wp2
  refine wp_loop_rounds 1 ?_
  rw [rounds_succ]
  go_wp2_with (first | (at_builtin; refine wpList_append_lies _ rfl (.tmp 15) (.tmp 18) 47 rfl base 5 i0 (.int .u8 0) 1 1 Yba.underlying47 hi hz0 hz1 hz2 rfl (by decide) (.slice a n c) n xs ?c0 HO.out ⟨w.heap.size, 0, none⟩ 1 1 [.int .u8 (x : Int)] ?c8 ?c1 ?c2 ?c3 ?c4 ?c5 ?c6 ?c7 _ rfl ?_))
  case c0 => rfl
  case c8 => rfl
  case c1 => rfl
  case c2 => exact World.news_of_block (t := 5) (fr := (0, 0)) (cs := #[.int .u8 (x : Int)]) (Deep.blk_alloc_new w _)
  case c3 => intro u hu; simp at hu; subst hu; rfl
  case c4 => omega
  case c5 => unfold maxLen; omega
  case c6 => omega
  case c7 => simp; omega
  intro g cap w1 own1 gr1 at1 lt1
  have hb : Below base w w1 := ((Below.refl base w).alloc hbw _).grown gr1 (by simp; omega) (fun k hk => (hlt k hk).1)
  have HO1 := hid own1
  have HB1 := hid hb
  clear own1 gr1 at1 hb
  go_wp2
  go_ret
  exact ⟨_, rfl, HO1.out, HB1.out⟩

set_option maxHeartbeats 1600000 in
set_option maxRecDepth 100000 in
theorem uv_big (base x n : Nat) (v : Value) (xs : List Value) (w : World) (hown : w.ownsRow base 5 1 v n xs) (hx : 128 ≤ x) (hx2 : x < 16384) (hbw : base ≤ w.heap.size) (hn : n ≤ 1000000) :
    Calls Yba.prog 12 #[v, .int .u64 x] w fun e w' => ∃ v', e = .returned v' ∧ w'.ownsRow base 5 1 v' (n + 2) (xs ++ [.int .u8 ((x % 128 + 128 : Nat) : Int), .int .u8 ((x / 128 : Nat) : Int)]) ∧ Below base w w' := by
  obtain ⟨i0, hi, hz0, hz1, hz2⟩ := info_parts5
  obtain ⟨a, c, rfl⟩ := append_byte hown
  obtain ⟨y, hy⟩ : ∃ y : Nat, x % 128 + 128 = y := ⟨_, rfl⟩
  obtain ⟨z, hz⟩ : ∃ z : Nat, x / 128 = z := ⟨_, rfl⟩
  rw [hy, hz]
  have HO := hid (hown.alloc (.cells #[.int .u8 (y : Int)] 5))
  have hlt := hown.lt
  have hor : bits .or .u8 ((x : Int) % 256) 128 = (y : Int) := by rw [or128, hy]
  have hzi : (x : Int) / 128 = (z : Int) := by omega
  have hx1 : decide ((128 : Int) ≤ (x : Int)) = true := by simp; omega
  have hz1' : decide ((128 : Int) ≤ (z : Int)) = false := by simp; omega
  have hz2' : (z : Int) < 128 := by omega
  have hz3 : ((z : Int) % 256) = z := by omega
  have hxi : (128 : Int) ≤ x := by omega
  have hxi2 : (x : Int) < 16384 := by omega
  clear hown hy hz hx
  go_enter Yba.func12, Yba.ntmps12
  go_wp2
  refine wp_loop_rounds 2 ?_
  rw [rounds_succ]
  go_wp2_with (first | (at_builtin; refine wpList_append_lies _ rfl (.tmp 7) (.tmp 11) 47 rfl base 5 i0 (.int .u8 0) 1 1 Yba.underlying47 hi hz0 hz1 hz2 rfl (by decide) (.slice a n c) n xs ?c0 HO.out ⟨w.heap.size, 0, none⟩ 1 1 [.int .u8 (y : Int)] ?c8 ?c1 ?c2 ?c3 ?c4 ?c5 ?c6 ?c7 _ rfl ?_))
  case c0 => rfl
  case c8 => rfl
  case c1 => rfl
  case c2 => exact World.news_of_block (t := 5) (fr := (0, 0)) (cs := #[.int .u8 (y : Int)]) (Deep.blk_alloc_new w _)
  case c3 => intro u hu; simp at hu; subst hu; rfl
  case c4 => omega
  case c5 => unfold maxLen; omega
  case c6 => omega
  case c7 => simp; omega
  intro g cap w1 own1 gr1 at1 lt1
  have hb : Below base w w1 := ((Below.refl base w).alloc hbw _).grown gr1 (by simp; omega) (fun k hk => (hlt k hk).1)
  have hbw1 : base ≤ w1.heap.size := Nat.le_trans hbw hb.size
  have HO1 := hid (own1.alloc (.cells #[.int .u8 (z : Int)] 5))
  have hlt1 := own1.lt
  have HB1 := hid hb
  clear own1 gr1 at1 hb HO hlt
  go_wp2
  rw [rounds_succ]
  go_wp2_with (first | (at_builtin; refine wpList_append_lies _ rfl (.tmp 15) (.tmp 18) 47 rfl base 5 i0 (.int .u8 0) 1 1 Yba.underlying47 hi hz0 hz1 hz2 rfl (by decide) (.slice (some ⟨g, 0, none⟩) (n + 1) cap) (n + 1) (xs ++ [.int .u8 (y : Int)]) ?c0 HO1.out ⟨w1.heap.size, 0, none⟩ 1 1 [.int .u8 (z : Int)] ?c8 ?c1 ?c2 ?c3 ?c4 ?c5 ?c6 ?c7 _ rfl ?_))
  case c0 => rfl
  case c8 => rfl
  case c1 => rfl
  case c2 => exact World.news_of_block (t := 5) (fr := (0, 0)) (cs := #[.int .u8 (z : Int)]) (Deep.blk_alloc_new w1 _)
  case c3 => intro u hu; simp at hu; subst hu; rfl
  case c4 => omega
  case c5 => unfold maxLen; omega
  case c6 => omega
  case c7 => simp; omega
  intro g2 cap2 w2 own2 gr2 at2 lt2
  have hb2 : Below base w w2 := (HB1.out.alloc hbw1 _).grown gr2 (by simp; omega) (fun k hk => (hlt1 k hk).1)
  have HO2 := hid own2
  have HB2 := hid hb2
  clear own2 gr2 at2 hb2
  go_wp2
  go_ret
  refine ⟨_, rfl, ?_, HB2.out⟩
  have := HO2.out
  simpa using this
end Go.Proofs.Ybulkdamm
