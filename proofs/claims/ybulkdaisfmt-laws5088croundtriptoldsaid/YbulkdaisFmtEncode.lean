import Derived.Test.YbulkdaisFmtBuild
namespace Go.Proofs.YbulkdaisFmt
open Go.RowKit
set_option linter.unusedVariables false

theorem info3 : (Ybaf.prog.info? 3).map (fun i => (i.zero, i.size, i.bytes)) = some (some (.int .i64 0), 1, 8) := by kernel_rfl

/-- The place behind pair k. -/
def ends (L : List (Nat × Nat)) (k : Nat) : Nat := (encV L.length).length + (encL (L.take (k + 1))).length

def encAll (L : List (Nat × Nat)) : List Nat := encV L.length ++ encL L

/-- The first k ends. -/
def endsTo (L : List (Nat × Nat)) : Nat → List Value
  | 0 => []
  | k + 1 => endsTo L k ++ [.int .i64 (ends L k : Nat)]
theorem endsTo_length (L : List (Nat × Nat)) (k : Nat) : (endsTo L k).length = k := by
  induction k with
  | zero => rfl
  | succ k ih => simp [endsTo, ih]
theorem endsTo_get (L : List (Nat × Nat)) (k j : Nat) (h : j < k) : (endsTo L k)[j]? = some (.int .i64 (ends L j : Nat)) := by
  induction k with
  | zero => omega
  | succ k ih =>
    simp only [endsTo]
    by_cases hj : j < k
    · rw [List.getElem?_append_left (by rw [endsTo_length]; exact hj)]
      exact ih hj
    · have : j = k := by omega
      subst this
      rw [List.getElem?_append_right (by rw [endsTo_length]; omega), endsTo_length]
      simp

theorem run_make3 (n : Nat) (hn : n ≤ 1024) (w : World) : (Instr.makeSlice 27 (.int .i64 0) (.int .i64 n)).run Ybaf.prog w = .ok (.slice (some ⟨w.heap.size, 0, none⟩) 0 n) (w.alloc (.cells (List.replicate n (.int .i64 0)).toArray 3)) := by
  obtain ⟨i0, hi, hz0, hz1, hz2⟩ := info_parts info3
  have := run_make (P := Ybaf.prog) w 27 3 i0 _ Ybaf.underlying27 hi hz0 .i64 .i64 0 n (by omega) (by omega) (by rw [hz2]; omega) (by omega)
  rw [Int.toNat_natCast, hz1, Nat.mul_one] at this
  have e : madeCells (Value.int .i64 0).cells n = (List.replicate n (.int .i64 0)).toArray := by
    have := toList_madeCells_one (.int .i64 0) n
    rw [← this]
    rfl
  rw [e] at this
  exact this

/-- A row that grew leaves another row's value as it was. -/
theorem below_of_grown {B : Nat} {a w w' : World} {q : Option Nat} (h : Below B a w) (hg : w.grownBy w' q) (hB : B ≤ w.heap.size) (hq : ∀ k, q = some k → B ≤ k) : Below B a w' := h.grown hg hB hq

set_option maxHeartbeats 1600000 in
set_option maxRecDepth 100000 in
theorem encode_any (B cap : Nat) (L : List (Nat × Nat)) (w : World) (hn : L.length ≤ 1024) (hL : ∀ p ∈ L, p.1 < 34359738368 ∧ p.2 < 34359738368)
    (hblk : w.heap[B]? = some (.cells (msgs L).toArray 38 (0, 0))) :
    Calls Ybaf.prog 7 #[.slice (some ⟨B, 0, none⟩) L.length cap] w fun e w' => ∃ g c h, e = .returned (.tuple #[.slice (some ⟨g, 0, none⟩) (encAll L).length c, .slice (some ⟨h, 0, none⟩) L.length L.length]) ∧
      w'.ownsRow w.heap.size 5 1 (.slice (some ⟨g, 0, none⟩) (encAll L).length c) (encAll L).length ((encAll L).map bv) ∧
      (∀ k, k < L.length → w'.cell? ⟨h, k, none⟩ = some (.int .i64 (ends L k : Nat))) ∧ w.heap.size ≤ h ∧ Below w.heap.size w w' := by
  obtain ⟨i0, hi, hz0, hz1, hz2⟩ := info_parts info3
  have HL : Hid (∀ p ∈ L, p.1 < 34359738368 ∧ p.2 < 34359738368) := hL
  clear hL
  have hmk := run_make3 L.length hn
  have hBlt : B < w.heap.size := lt_of_block hblk
  go_enter Ybaf.func7, Ybaf.ntmps7
  go_wp2_with (go_at_call 9; refine (put_any w.heap.size L.length (by omega) _ 0 [] _ (World.ownsRow_nil _ _ _ _) (Nat.le_refl _) (by omega)).mono ?_; rintro e w1 ⟨g1, c1, rfl, hown1, hg1, hat1⟩)
  have hbel1 : Below w.heap.size w w1 := (Below.refl _ w).grown hg1 (Nat.le_refl _) (by simp [Value.ownBlock])
  have hg1lt := hown1.lt g1 rfl
  go_loopw [4, 5, 6] (fun bb ee c wr => ∃ (k g cc n : Nat), k ≤ L.length ∧ c = .int .i64 k ∧ bb = .slice (some ⟨g, 0, none⟩) n cc ∧ n = (encV L.length ++ encL (L.take k)).length ∧
      wr.ownsRow w.heap.size 5 1 (.slice (some ⟨g, 0, none⟩) n cc) n ((encV L.length ++ encL (L.take k)).map bv) ∧ ee = .slice (some ⟨w1.heap.size, 0, none⟩) k L.length ∧
      wr.ownsRow w.heap.size 3 1 (.slice (some ⟨w1.heap.size, 0, none⟩) k L.length) k (endsTo L k) ∧ g ≠ w1.heap.size ∧ Below w.heap.size w wr)
    (fun _ _ c _ => L.length - (intOf c).toNat)
  case atStart =>
    refine ⟨0, g1, c1, (encV L.length).length, by omega, rfl, by simp, by simp [encL], ?_, rfl, ?_, by omega, hbel1.alloc hbel1.size _⟩
    · have := hown1.alloc (.cells (List.replicate L.length (.int .i64 0)).toArray 3)
      simpa [encL] using this
    · exact World.ownsRow_made w1 _ _ hbel1.size (by unfold maxLen; omega) (by simp)
  case round =>
    obtain ⟨k, g, cc, n, hk, rfl, rfl, hneq, hownb, rfl, hownE, hgne, hbel⟩ := hrel
    by_cases hlt : k < L.length
    · obtain ⟨x, y, hxy⟩ : ∃ x y, L[k] = (x, y) := ⟨_, _, rfl⟩
      have hbx := HL.out L[k] (List.getElem_mem hlt)
      rw [hxy] at hbx
      have htk : L.take (k + 1) = L.take k ++ [(x, y)] := by rw [List.take_succ_eq_append_getElem hlt, hxy]
      have hmg := msgs_get L k hlt
      rw [hxy] at hmg
      have hcx : wr.cell? ⟨B, k * 2, none⟩ = some (.int .i64 x) := by
        rw [hbel.cell (p := ⟨B, k * 2, none⟩) hBlt, cell_of_row _ _ _ _ _ _ hblk]; simpa using hmg.1
      have hcy : w.cell? ⟨B, k * 2 + 1, none⟩ = some (.int .i64 y) := by
        rw [cell_of_row _ _ _ _ _ _ hblk]; simpa using hmg.2
      have hnb : n ≤ 20000 := by
        have h1 := encL_length_le (L.take k)
        have h2 := encV_length L.length
        simp at h1 hneq
        omega
      have HN : Hid (n + (encV x).length + (encV y).length = (encV L.length ++ encL (L.take (k + 1))).length) := by
        show _ = _
        rw [hneq, htk, encL_snoc]; simp; omega
      have HX : Hid ((encV L.length ++ encL (L.take k)).map bv ++ (encV x).map bv ++ (encV y).map bv = (encV L.length ++ encL (L.take (k + 1))).map bv) := by
        show _ = _
        rw [htk, encL_snoc]; simp
      have HE : Hid (ends L k = n + (encV x).length + (encV y).length) := by
        show ends L k = _
        rw [HN.out]; simp [ends]
      have hl5x := encV_length x
      have hl5y := encV_length y
      have hglt := hownb.lt g rfl
      have hElt := hownE.lt w1.heap.size rfl
      have hszr := hbel.size
      clear htk hxy hmg hneq
      go_wp2_with fail
      refine (put_any w.heap.size x hbx.1 _ n _ _ hownb hszr (by omega)).mono ?_
      rintro e w2 ⟨g2, c2, rfl, hown2, hg2, hat2⟩
      have hbel2 : Below w.heap.size w w2 := hbel.grown hg2 hszr (by simp [Value.ownBlock]; omega)
      have hcy2 : w2.cell? ⟨B, k * 2 + 1, none⟩ = some (.int .i64 y) := by rw [hbel2.cell (p := ⟨B, k * 2 + 1, none⟩) hBlt]; exact hcy
      have hownE2 := hownE.kept hg2 (Or.inr (by simp [Value.ownBlock]; omega))
      have hg2ne : g2 ≠ w1.heap.size := by
        rcases hat2 with h | h
        · simp [Value.ownBlock] at h; omega
        · omega
      clear hcx
      go_wp2_with fail
      refine (put_any w.heap.size y hbx.2 _ _ _ _ hown2 hbel2.size (by omega)).mono ?_
      rintro e w3 ⟨g3, c3, rfl, hown3, hg3, hat3⟩
      have hg2lt := hown2.lt g2 rfl
      have hE2lt := hownE2.lt w1.heap.size rfl
      have hbel3 : Below w.heap.size w w3 := hbel2.grown hg3 hbel2.size (by simp [Value.ownBlock]; omega)
      have hownE3 := hownE2.kept hg3 (Or.inr (by simp [Value.ownBlock]; omega))
      have hg3ne : g3 ≠ w1.heap.size := by
        rcases hat3 with h | h
        · simp [Value.ownBlock] at h; omega
        · omega
      have hszw3 := hbel3.size
      have hE3lt := hownE3.lt w1.heap.size rfl
      clear hcy2 hown2 hownE2 hg2 hg3 hat2 hat3 hcy hownb hownE
      go_wp2_with (at_builtin; refine wpList_append_fits _ rfl _ _ 27 rfl w.heap.size 3 i0 1 Ybaf.underlying27 hi hz1 w1.heap.size k L.length _ rfl (hownE3.alloc _) ⟨w3.heap.size, 0, none⟩ 1 1 [.int .i64 (n + (encV x).length + (encV y).length : Nat)] rfl rfl ?c1 ?c2 ?c3 ?_)
      case c1 => exact news1 _ _ _ _ (by go_num)
      case c2 => intro u hu; simp at hu; subst hu; rfl
      case c3 => omega
      · intro w4 hown4 hg4
        have hbel4 : Below w.heap.size w w4 := (hbel3.alloc hszw3 _).grown hg4 (by simp; omega) (by simp; omega)
        have hownb4 := World.ownsRow.kept (hown3.alloc _) hg4 (Or.inr (by simp [Value.ownBlock]; omega))
        clear hg4 hown3 hownE3
        go_wp2
        have hne' := HE.out
        refine ⟨⟨k + 1, g3, c3, _, by omega, by go_num, rfl, HN.out, ?_, rfl, ?_, hg3ne, hbel4⟩, by simp [intOf]; omega⟩
        · rw [← HX.out]; exact hownb4
        · simp only [endsTo, hne']; exact hown4
    · have hkn : k = L.length := by omega
      subst hkn
      go_wp2
      go_ret2
      simp only [List.take_length] at hneq hownb
      subst hneq
      refine ⟨g, cc, w1.heap.size, rfl, hownb, fun j hj => ?_, hbel1.size, hbel⟩
      have := hownE.cells rfl j _ (endsTo_get L _ j hj)
      rw [Addr.add_lit] at this
      simpa using this
end Go.Proofs.YbulkdaisFmt
