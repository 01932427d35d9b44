import Derived.Test.YbulkdammUses
import Derived.Test.YbulkdammKey2
import Derived.Test.YbulkdammNot
namespace Go.Proofs.Ybulkdamm
open Go.RowKit
set_option linter.unusedVariables false

theorem slice_clip (W : World) : Sem.run Yba.prog (Instr.sliceAt 27 (.slice none 0 0) none (some (.int .i64 0)) (some (.int .i64 0))) W = .ok (.slice none 0 0) W := by kernel_rfl

set_option maxHeartbeats 800000 in
set_option maxRecDepth 100000 in
theorem clip_nil (w : World) : Calls Yba.prog 18 #[.slice none 0 0] w fun e w' => e = .returned (.slice none 0 0) ∧ w' = w := by
  have hsl := slice_clip
  go_enter Yba.func18, Yba.ntmps18
  go_wp2
  go_ret
  exact ⟨by simp, rfl⟩

theorem make33c (W : World) : (Instr.makeSlice 33 (.int .i64 0) (.int .i64 1)).run Yba.prog W = .ok (.slice (some ⟨W.heap.size, 0, none⟩) 0 1) (W.alloc (.cells #[.slice none 0 0] 27)) := by
  obtain ⟨i0, hi, hz0, hz1, hz2⟩ := info_parts info27
  have := run_make (P := Yba.prog) W 33 27 i0 _ Yba.underlying33 hi hz0 .i64 .i64 0 1 (by omega) (by omega) (by rw [hz2]; omega) (by omega)
  rw [hz1] at this
  have e : madeCells (Value.slice none 0 0).cells (Int.toNat 1 * 1) = #[.slice none 0 0] := by kernel_rfl
  rw [e] at this
  exact this

set_option maxHeartbeats 1600000 in
set_option maxRecDepth 100000 in
theorem texts_term (x : Value) (t : Nat) (d : Int) (w : World) (ht : t < 100000) : Calls Yba.prog 7 #[x, .int .i32 (-(t : Int) - 1), .int .i64 d] w fun e w' => e = .returned (.tuple #[.slice (some ⟨w.heap.size + 1, 0, none⟩) 1 1, .bool true]) ∧ w' = (w.alloc (.cells #[.int .i32 (t : Int)] 21)).alloc (.cells #[.slice (some ⟨w.heap.size, 0, none⟩) 1 1] 27) := by
  have hb := i32_back t (by omega)
  have hn : decide (-(t : Int) - 1 < 0) = true := by simp; omega
  go_enter Yba.func7, Yba.ntmps7
  go_wp2
  go_ret2
  exact ⟨rfl, rfl⟩

set_option maxHeartbeats 1600000 in
set_option maxRecDepth 100000 in
theorem texts_busy (X XS : Nat) (d : Int) (w : World) (h1 : w.cell? ⟨X, 1, none⟩ = some (.slice (some ⟨XS, 0, none⟩) 2 2)) (h2 : w.cell? ⟨XS, 1, none⟩ = some (.int .u8 1)) : Calls Yba.prog 7 #[.pointer (some ⟨X, 0, none⟩), .int .i32 1, .int .i64 d] w fun e w' => e = .returned (.tuple #[.slice none 0 0, .bool false]) ∧ w' = w := by
  go_enter Yba.func7, Yba.ntmps7
  go_wp2
  go_ret2
  exact ⟨rfl, rfl⟩

set_option maxHeartbeats 3200000 in
set_option maxRecDepth 100000 in
theorem joined_one (A P Q c : Nat) (t : Int) (w : World) (h1 : w.cell? ⟨A, 0, none⟩ = some (.slice none 0 0)) (h2 : w.cell? ⟨P, 0, none⟩ = some (.slice (some ⟨Q, 0, none⟩) 1 c)) (h3 : w.cell? ⟨Q, 0, none⟩ = some (.int .i32 t)) :
    Calls Yba.prog 11 #[.slice (some ⟨A, 0, none⟩) 1 1, .slice (some ⟨P, 0, none⟩) 1 1] w fun e w' => ∃ N M cN cM, e = .returned (.tuple #[.slice (some ⟨N, 0, none⟩) 1 cN, .bool true]) ∧ Below w.heap.size w w' ∧ w'.cell? ⟨N, 0, none⟩ = some (.slice (some ⟨M, 0, none⟩) 1 cM) ∧ w'.cell? ⟨M, 0, none⟩ = some (.int .i32 t) := by
  have hmk := make33c
  obtain ⟨i1, hi1, hz10, hz11, hz12⟩ := info_parts info21
  have HI1 := hid (And.intro hi1 (And.intro hz10 (And.intro hz11 hz12)))
  obtain ⟨i2, hi2, hz20, hz21, hz22⟩ := info_parts info27
  have HI2 := hid (And.intro hi2 (And.intro hz20 (And.intro hz21 hz22)))
  have hAl : A < w.heap.size := block_lt_of_cell h1
  have hPl : P < w.heap.size := block_lt_of_cell h2
  have hQl : Q < w.heap.size := block_lt_of_cell h3
  clear hi1 hz10 hz11 hz12 hi2 hz20 hz21 hz22
  go_enter Yba.func11, Yba.ntmps11
  go_wp2_with fail
  refine wp_loop_rounds 2 ?_
  rw [rounds_succ]
  go_wp2_with fail
  refine wp_loop_rounds 2 ?_
  rw [rounds_succ]
  go_wp2_with fail
  refine (clip_nil _).mono ?_
  rintro r w1 ⟨rfl, rfl⟩
  have HN := hid (show (w.alloc (.cells #[.slice none 0 0] 27)).ownsRow w.heap.size 27 1 (.slice (some ⟨w.heap.size, 0, none⟩) 0 1) 0 [] from by
    have := World.ownsRow_made (e := 27) (size := 1) (base := w.heap.size) w #[.slice none 0 0] 1 (Nat.le_refl _) (by unfold maxLen; omega) rfl
    exact this)
  have HB0 := hid (show Below w.heap.size w (w.alloc (.cells #[.slice none 0 0] 27)) from (Below.refl _ w).alloc (Nat.le_refl _) _)
  have h3' : (w.alloc (.cells #[.slice none 0 0] 27)).cell? ⟨Q, 0, none⟩ = some (.int .i32 t) := keepW HB0.out h3
  have hsz0 : (w.alloc (.cells #[.slice none 0 0] 27)).heap.size = w.heap.size + 1 := by simp
  have H3 := hid h3'
  have HSZ := hid hsz0
  clear h1 h2 h3 h3' hmk hsz0
  generalize (w.alloc (.cells #[.slice none 0 0] 27)) = W at *
  go_wp2_with (first | (at_builtin; refine wpList_append_lies _ rfl (.tmp 43) (.tmp 44) 27 rfl w.heap.size 21 i1 (.int .i32 0) 1 4 Yba.underlying27 HI1.out.1 HI1.out.2.1 HI1.out.2.2.1 HI1.out.2.2.2 rfl (by decide) (.slice none 0 0) 0 [] ?c0 (World.ownsRow_nil _ _ _ _) ⟨Q, 0, none⟩ 1 c [.int .i32 t] ?c8 ?c1 ?c2 ?c3 ?c4 ?c5 ?c6 ?c7 _ rfl ?_))
  case c0 => rfl
  case c8 => rfl
  case c1 => rfl
  case c2 =>
    intro j u hu
    match j, hu with
    | 0, hu => simp at hu; subst hu; exact H3.out
    | j + 1, hu => simp at hu
  case c3 => intro u hu; simp at hu; subst hu; rfl
  case c4 => omega
  case c5 => unfold maxLen; omega
  case c6 => omega
  case c7 => have := HSZ.out; omega
  intro g cap w2 own2 gr2 at2 lt2
  have hg2 : g = W.heap.size := by rcases at2 with h | h; · simp [Value.ownBlock] at h
                                   · exact h
  have hn2 := HN.out.kept gr2 (.inr (by simp [Value.ownBlock]))
  have hbw2 : Below w.heap.size w w2 := HB0.out.grown gr2 HB0.out.size (fun k hk => by simp [Value.ownBlock] at hk)
  have hn3 := hn2.alloc (.cells #[.slice (some ⟨g, 0, none⟩) 1 cap] 27)
  have ho3 := own2.alloc (.cells #[.slice (some ⟨g, 0, none⟩) 1 cap] 27)
  have hb3 : Below w.heap.size w (w2.alloc (.cells #[.slice (some ⟨g, 0, none⟩) 1 cap] 27)) := hbw2.alloc hbw2.size _
  have HG2 := hid hg2
  have HN3 := hid hn3
  have HO3 := hid ho3
  have HB3 := hid hb3
  clear own2 gr2 at2 hn2 hn3 ho3 hb3 hg2
  go_wp2_with (first | (at_builtin; refine wpList_append_lies _ rfl (.tmp 41) (.tmp 46) 33 rfl w.heap.size 27 i2 (.slice none 0 0) 1 24 Yba.underlying33 HI2.out.1 HI2.out.2.1 HI2.out.2.2.1 HI2.out.2.2.2 rfl (by decide) (.slice (some ⟨w.heap.size, 0, none⟩) 0 1) 0 [] ?c0 HN3.out ⟨w2.heap.size, 0, none⟩ 1 1 [.slice (some ⟨g, 0, none⟩) 1 cap] ?c8 ?c1 ?c2 ?c3 ?c4 ?c5 ?c6 ?c7 _ rfl ?_))
  case c0 => rfl
  case c8 => rfl
  case c1 => rfl
  case c2 => exact World.news_of_block (t := 27) (fr := (0, 0)) (cs := #[.slice (some ⟨g, 0, none⟩) 1 cap]) (Deep.blk_alloc_new w2 _)
  case c3 => intro u hu; simp at hu; subst hu; rfl
  case c4 => omega
  case c5 => unfold maxLen; omega
  case c6 => omega
  case c7 => have := HB3.out.size; exact this
  intro g3 cap3 w3 own3 gr3 at3 lt3
  have hgn : g ≠ w.heap.size := by have := HG2.out; have := HSZ.out; omega
  have ho4 := HO3.out.kept gr3 (.inr (by simp [Value.ownBlock, hgn]))
  have hb4 : Below w.heap.size w w3 := HB3.out.grown gr3 HB3.out.size (fun k hk => by simp [Value.ownBlock] at hk; omega)
  have z1 := own3.cellAt 0 (by omega)
  have z2 := ho4.cellAt 0 (by omega)
  have R1 := hid (And.intro hb4 (And.intro z1 z2))
  clear own3 gr3 at3 ho4 hb4 z1 z2 HO3 HB3 HN3
  go_wp2_with fail
  rw [rounds_succ]
  go_wp2_with fail
  rw [rounds_succ]
  go_wp2_with fail
  go_ret2
  exact ⟨g3, g, cap3, cap, rfl, R1.out.1, R1.out.2.1, R1.out.2.2⟩
end Go.Proofs.Ybulkdamm
