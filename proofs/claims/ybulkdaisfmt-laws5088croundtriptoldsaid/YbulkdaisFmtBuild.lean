import Derived.Test.YbulkdaisFmtNames
namespace Go.Proofs.YbulkdaisFmt
open Go.RowKit
set_option linter.unusedVariables false

/-- The k-th sender. -/
def snd (ds : List Nat) : Nat → Nat
  | 0 => ds.getD 0 0
  | k + 1 => snd ds k + ds.getD (k + 1) 0 + 1
/-- The first k messages. -/
def bldTo (ds ss : List Nat) : Nat → List (Nat × Nat)
  | 0 => []
  | k + 1 => bldTo ds ss k ++ [(snd ds k, ss.getD k 0)]

theorem bldTo_length (ds ss : List Nat) (k : Nat) : (bldTo ds ss k).length = k := by
  induction k with
  | zero => rfl
  | succ k ih => simp [bldTo, ih]
theorem bldTo_get (ds ss : List Nat) (k j : Nat) (h : j < k) (h' : j < (bldTo ds ss k).length) : (bldTo ds ss k)[j] = (snd ds j, ss.getD j 0) := by
  induction k with
  | zero => omega
  | succ k ih =>
    simp only [bldTo]
    by_cases hj : j < k
    · rw [List.getElem_append_left (by rw [bldTo_length]; exact hj)]
      exact ih hj _
    · have : j = k := by omega
      subst this
      rw [List.getElem_append_right (by rw [bldTo_length]; omega)]
      simp [bldTo_length]
theorem snd_lt (ds : List Nat) (hd : ∀ j, ds.getD j 0 < 65536) (k : Nat) : snd ds k < 65537 * (k + 1) := by
  induction k with
  | zero => have := hd 0; simp [snd]; simp at this; omega
  | succ k ih => have := hd (k + 1); simp only [snd]; omega
theorem snd_inc (ds : List Nat) (k : Nat) : snd ds k < snd ds (k + 1) := by simp [snd]; omega

def zero2 (k : Nat) : List Value := List.replicate (k * 2) (.int .i64 0)

theorem made2 (k : Nat) : madeCells (Value.agg #[.int .i64 0, .int .i64 0]).cells (k * 2) = (zero2 k).toArray := by
  apply Array.ext
  · simp [madeCells, zero2]
  · intro i h1 h2
    simp only [madeCells, Value.cells, Array.getElem_map, Array.getElem_range, zero2, List.getElem_toArray, List.getElem_replicate]
    have : i % 2 = 0 ∨ i % 2 = 1 := by omega
    rcases this with h | h <;> simp [h]

theorem set_two (A : List (Nat × Nat)) (m : Nat) (x y : Nat) :
    (((msgs A ++ zero2 (m + 1)).toArray.setIfInBounds (A.length * 2) (.int .i64 x)).setIfInBounds (A.length * 2 + 1) (.int .i64 y)) = (msgs (A ++ [(x, y)]) ++ zero2 m).toArray := by
  have hl := msgs_length A
  have e : zero2 (m + 1) = .int .i64 0 :: .int .i64 0 :: zero2 m := by
    simp only [zero2]
    rw [show (m + 1) * 2 = m * 2 + 1 + 1 from by omega]
    simp [List.replicate_succ]
  rw [e, msgs_append]
  simp only [List.setIfInBounds_toArray]
  congr 1
  rw [List.set_append_right _ _ (by omega), hl]
  simp only [Nat.sub_self, List.set_cons_zero]
  rw [List.set_append_right _ _ (by omega), hl]
  rw [show A.length * 2 + 1 - A.length * 2 = 1 from by omega]
  simp [msgs]

theorem info38b : (Ybaf.prog.info? 38).map (fun i => (i.zero, i.size, i.bytes)) = some (some (.agg #[.int .i64 0, .int .i64 0]), 2, 16) := info38

theorem run_make38 (n : Nat) (hn : n ≤ 1024) (w : World) : (Instr.makeSlice 25 (.int .i64 n) (.int .i64 n)).run Ybaf.prog w = .ok (.slice (some ⟨w.heap.size, 0, none⟩) n n) (w.alloc (.cells (zero2 n).toArray 38)) := by
  obtain ⟨i0, hi, hz0, hz1, hz2⟩ := info_parts info38
  have := run_make (P := Ybaf.prog) w 25 38 i0 _ Ybaf.underlying25 hi hz0 .i64 .i64 n n (by omega) (by omega) (by rw [hz2]; omega) (by omega)
  rw [Int.toNat_natCast, hz1, made2] at this
  exact this

set_option maxHeartbeats 1600000 in
set_option maxRecDepth 100000 in
theorem build_some (b off dc n : Nat) (sa : Option Addr) (sn sc : Nat) (ds ss : List Nat) (w : World) (hn : n ≤ 1024) (hs : sn ≤ 1024)
    (hb : b < w.heap.size) (hd : ∀ j, ds.getD j 0 < 65536) (hq : ∀ j, ss.getD j 0 < 4294967296) (HQ : Hid (∀ j, sn ≤ j → ss.getD j 0 = 0))
    (hcd : ∀ j, j < n → w.cell? ⟨b, off + j, none⟩ = some (.int .u16 (ds.getD j 0 : Nat)))
    (hcs : sn = 0 ∨ ∃ b2 off2, sa = some ⟨b2, off2, none⟩ ∧ b2 < w.heap.size ∧ ∀ j, j < sn → w.cell? ⟨b2, off2 + j, none⟩ = some (.int .u32 (ss.getD j 0 : Nat))) :
    Calls Ybaf.prog 6 #[.slice (some ⟨b, off, none⟩) n dc, .slice sa sn sc] w fun e w' => e = .returned (.slice (some ⟨w.heap.size, 0, none⟩) n n) ∧
      w'.heap[w.heap.size]? = some (.cells (msgs (bldTo ds ss n)).toArray 38 (0, 0)) ∧ Below w.heap.size w w' := by
  have hmk := run_make38 n hn
  have HCD : Hid (∀ j, j < n → w.cell? ⟨b, off + j, none⟩ = some (.int .u16 (ds.getD j 0 : Nat))) := hcd
  have HCS : Hid (sn = 0 ∨ ∃ b2 off2, sa = some ⟨b2, off2, none⟩ ∧ b2 < w.heap.size ∧ ∀ j, j < sn → w.cell? ⟨b2, off2 + j, none⟩ = some (.int .u32 (ss.getD j 0 : Nat))) := hcs
  have HHD : Hid (∀ j, ds.getD j 0 < 65536) := hd
  have HHQ : Hid (∀ j, ss.getD j 0 < 4294967296) := hq
  clear hcd hcs hd hq
  go_enter Ybaf.func6, Ybaf.ntmps6
  go_wp2
  go_loopw [6, 7] (fun sd c wr => ∃ k : Nat, k ≤ n ∧ c = .int .i64 k ∧ (0 < k → sd = .int .i64 (snd ds (k - 1) : Nat)) ∧ wr.heap[w.heap.size]? = some (.cells (msgs (bldTo ds ss k) ++ zero2 (n - k)).toArray 38 (0, 0)) ∧ Below w.heap.size w wr)
    (fun _ c _ => n - (intOf c).toNat)
  case atStart => exact ⟨0, by omega, rfl, by omega, heap_alloc_new _ _, (Below.refl _ w).alloc (Nat.le_refl _) _⟩
  case round =>
    obtain ⟨k, hk, rfl, hsd, hblk, hbel⟩ := hrel
    by_cases hlt : k < n
    · obtain ⟨dk, hdk⟩ : ∃ dk, ds.getD k 0 = dk := ⟨_, rfl⟩
      obtain ⟨sk, hsk⟩ : ∃ sk, ss.getD k 0 = sk := ⟨_, rfl⟩
      have hdlt : dk < 65536 := by rw [← hdk]; exact HHD.out k
      have hslt : sk < 4294967296 := by rw [← hsk]; exact HHQ.out k
      have hcell : wr.cell? ⟨b, off + k, none⟩ = some (.int .u16 dk) := by
        rw [hbel.cell (p := ⟨b, off + k, none⟩) hb, HCD.out k hlt, hdk]
      have hB : w.heap.size < wr.heap.size := lt_of_block hblk
      have hl1 : (bldTo ds ss k).length = k := bldTo_length _ _ _
      have hml : (msgs (bldTo ds ss k) ++ zero2 (n - k)).length = n * 2 := by
        simp [msgs_length, hl1, zero2]; omega
      have e0 : ∃ v, wr.cell? ⟨w.heap.size, k * 2, none⟩ = some v := by
        rw [cell_of_row _ _ _ _ _ _ hblk]
        exact ⟨_, by rw [List.getElem?_toArray, List.getElem?_eq_getElem (by omega)]⟩
      have e1 : ∃ v, wr.cell? ⟨w.heap.size, k * 2 + 1, none⟩ = some v := by
        rw [cell_of_row _ _ _ _ _ _ hblk]
        exact ⟨_, by rw [List.getElem?_toArray, List.getElem?_eq_getElem (by omega)]⟩
      obtain ⟨v0, hv0⟩ := e0
      obtain ⟨v1, hv1⟩ := e1
      have f0 := frozen_of_row wr w.heap.size (k * 2) _ _ hblk
      have f1 := frozen_of_row wr w.heap.size (k * 2 + 1) _ _ hblk
      have HNew : ∀ sd sq : Int, sd = (snd ds k : Nat) → sq = (sk : Nat) → Hid (((wr.setCell ⟨w.heap.size, k * 2, none⟩ (.int .i64 sd)).setCell ⟨w.heap.size, k * 2 + 1, none⟩ (.int .i64 sq)).heap[w.heap.size]? = some (.cells (msgs (bldTo ds ss (k + 1)) ++ zero2 (n - (k + 1))).toArray 38 (0, 0))) := by
        intro sd sq hsd hsq
        subst hsd
        subst hsq
        show _ = _
        rw [heap_setCell_same _ _ _ _ _ _ (heap_setCell_same _ _ _ _ _ _ hblk)]
        have := set_two (bldTo ds ss k) (n - (k + 1)) (snd ds k) sk
        rw [hl1, show n - (k + 1) + 1 = n - k from by omega] at this
        rw [this]
        simp only [bldTo, hsk]
      have HBl : ∀ u v, Hid (Below w.heap.size w ((wr.setCell ⟨w.heap.size, k * 2, none⟩ u).setCell ⟨w.heap.size, k * 2 + 1, none⟩ v)) := fun u v => ((hbel.setCell (Nat.le_refl _) u).setCell (Nat.le_refl _) v)
      clear hblk hml hl1
      have hsz := hbel.size
      by_cases hk0 : k = 0
      · subst hk0
        have hcell0 : wr.cell? ⟨b, off, none⟩ = some (.int .u16 dk) := hcell
        have HS0 : Hid (snd ds 0 = dk) := hdk
        by_cases hss : 0 < sn
        · rcases HCS.out with h | ⟨b2, off2, rfl, hb2, hc2⟩
          · omega
          have hcell2 : wr.cell? ⟨b2, off2, none⟩ = some (.int .u32 sk) := by
            rw [hbel.cell (p := ⟨b2, off2, none⟩) hb2]; exact (hc2 0 hss).trans (by rw [hsk])
          clear hdk hsk hc2
          go_wp2
          refine ⟨⟨1, by omega, by go_num, fun _ => by rw [show snd ds (1 - 1) = dk from HS0.out], ?_, ?_⟩, by simp [intOf]; omega⟩
          · exact (HNew dk sk (by rw [HS0.out]) rfl).out
          · exact (HBl _ _).out
        · have HS1 : Hid (sk = 0) := by rw [← hsk]; exact HQ.out 0 (by omega)
          clear hdk hsk
          go_wp2
          refine ⟨⟨1, by omega, by go_num, fun _ => by rw [show snd ds (1 - 1) = dk from HS0.out], ?_, ?_⟩, by simp [intOf]; omega⟩
          · exact (HNew dk 0 (by rw [HS0.out]) (by rw [HS1.out]; rfl)).out
          · exact (HBl _ _).out
      · obtain ⟨p, hp⟩ : ∃ p, snd ds (k - 1) = p := ⟨_, rfl⟩
        have hplt : p < 67109888 := by
          have := snd_lt ds HHD.out (k - 1)
          omega
        have HS0 : Hid (snd ds k = p + dk + 1) := by
          show _ = _
          obtain ⟨m, rfl⟩ : ∃ m, k = m + 1 := ⟨k - 1, by omega⟩
          simp only [Nat.add_sub_cancel] at hp
          simp only [snd, hp, hdk]
        have hsd2 := hsd (by omega)
        rw [hp] at hsd2
        subst hsd2
        have hne : ((k : Int) == 0) = false := by rw [beq_eq_false_iff_ne]; omega
        by_cases hss : k < sn
        · rcases HCS.out with h | ⟨b2, off2, rfl, hb2, hc2⟩
          · omega
          have hcell2 : wr.cell? ⟨b2, off2 + k, none⟩ = some (.int .u32 sk) := by
            rw [hbel.cell (p := ⟨b2, off2 + k, none⟩) hb2]; exact (hc2 k hss).trans (by rw [hsk])
          clear hdk hsk hc2 hp hsd
          go_wp2
          refine ⟨⟨k + 1, by omega, by go_num, fun _ => ?_, ?_, ?_⟩, by simp [intOf]; omega⟩
          · rw [show snd ds (k + 1 - 1) = p + dk + 1 from HS0.out]; go_num
          · exact (HNew _ sk (by rw [HS0.out]; omega) rfl).out
          · exact (HBl _ _).out
        · have HS1 : Hid (sk = 0) := by rw [← hsk]; exact HQ.out k (by omega)
          clear hdk hsk hp hsd
          go_wp2
          refine ⟨⟨k + 1, by omega, by go_num, fun _ => ?_, ?_, ?_⟩, by simp [intOf]; omega⟩
          · rw [show snd ds (k + 1 - 1) = p + dk + 1 from HS0.out]; go_num
          · exact (HNew _ 0 (by rw [HS0.out]; omega) (by rw [HS1.out]; rfl)).out
          · exact (HBl _ _).out
    · have hkn : k = n := by omega
      subst hkn
      go_wp2
      go_ret
      exact ⟨rfl, by simpa [zero2] using hblk, hbel⟩

set_option maxHeartbeats 1600000 in
set_option maxRecDepth 100000 in
theorem build_zero (da sa : Option Addr) (dc sn sc : Nat) (ds ss : List Nat) (w : World) :
    Calls Ybaf.prog 6 #[.slice da 0 dc, .slice sa sn sc] w fun e w' => e = .returned (.slice (some ⟨w.heap.size, 0, none⟩) 0 0) ∧
      w'.heap[w.heap.size]? = some (.cells (msgs (bldTo ds ss 0)).toArray 38 (0, 0)) ∧ Below w.heap.size w w' := by
  have hmk : ∀ w : World, (Instr.makeSlice 25 (.int .i64 0) (.int .i64 0)).run Ybaf.prog w = .ok (.slice (some ⟨w.heap.size, 0, none⟩) 0 0) (w.alloc (.cells (zero2 0).toArray 38)) := run_make38 0 (by omega)
  go_enter Ybaf.func6, Ybaf.ntmps6
  go_wp2
  refine wp_loop_rounds 1 ?_
  rw [rounds_succ]
  go_wp2
  go_ret
  exact ⟨rfl, heap_alloc_new _ _, (Below.refl _ w).alloc (Nat.le_refl _) _⟩

/-- A slice of numbers of kind k that came in: nothing, or the cells of xs. -/
def Came (w : World) (k : IntKind) (a : Option Addr) (n : Nat) (xs : List Nat) : Prop :=
  n = 0 ∨ ∃ b off, a = some ⟨b, off, none⟩ ∧ b < w.heap.size ∧ ∀ j, j < n → w.cell? ⟨b, off + j, none⟩ = some (.int k (xs.getD j 0 : Nat))

theorem build_any (da sa : Option Addr) (n dc sn sc : Nat) (ds ss : List Nat) (w : World) (hn : n ≤ 1024) (hs : sn ≤ 1024) (hd : ∀ j, ds.getD j 0 < 65536) (hq : ∀ j, ss.getD j 0 < 4294967296)
    (hq0 : ∀ j, sn ≤ j → ss.getD j 0 = 0) (hcd : Came w .u16 da n ds) (hcs : Came w .u32 sa sn ss) :
    Calls Ybaf.prog 6 #[.slice da n dc, .slice sa sn sc] w fun e w' => e = .returned (.slice (some ⟨w.heap.size, 0, none⟩) n n) ∧
      w'.heap[w.heap.size]? = some (.cells (msgs (bldTo ds ss n)).toArray 38 (0, 0)) ∧ Below w.heap.size w w' := by
  rcases hcd with rfl | ⟨b, off, rfl, hb, hc⟩
  · exact build_zero da sa dc sn sc ds ss w
  · exact build_some b off dc n sa sn sc ds ss w hn hs hb hd hq hq0 hc hcs
end Go.Proofs.YbulkdaisFmt
