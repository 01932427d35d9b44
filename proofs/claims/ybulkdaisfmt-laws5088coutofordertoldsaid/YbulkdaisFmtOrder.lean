import Derived.Test.YbulkdaisFmtFmt
import Derived.Test.YbulkdaisFmtNames
import Derived.Deep.RegionHeld3
namespace Go.Proofs.YbulkdaisFmt
open Go.RowKit Go.Extern.Stop Go.Stop Go.Extern
set_option linter.unusedVariables false
attribute [local go_sem] call16 guardF fmt0 fmt0r op3_100 op3_100w ptr62 elem62 isError62

set_option maxHeartbeats 800000 in
set_option maxRecDepth 100000 in
theorem outOfOrder_any (x y : Int) (w : World) :
    Calls Ybaf.prog 12 #[.int .i64 x, .int .i64 y] w fun e w' => e = .returned (.iface 62 (.pointer (some ⟨w.heap.size + 1, 0, none⟩))) ∧ ∃ o s, w' = ((w.alloc o).alloc (.cells #[.string s] 64)).drew := by
  go_enter Ybaf.func12, Ybaf.ntmps12
  go_wp2
  go_ret
  exact ⟨rfl, _, _, rfl⟩

theorem ooo_end {w wr w2 : World} {R g n cap : Nat} {bs : List Nat} {aU aE : Addr} {i i' : Nat} {o1 o4 : Obj} {s : ByteArray} {k : Nat} (h : Ctx w R g n cap bs aU aE i) (hgr : w.grownBy wr (some R)) (hg2 : wr.grownBy w2 (some R)) (hC2 : Ctx w2 R g n cap bs aU aE i') :
    w.heap.size ≤ w2.heap.size + 1 + 1 ∧ (∃ s', (((((w2.alloc o1).drewN k).alloc o4).alloc (.cells #[.string s] 64)).drew).heap[w2.heap.size + 1 + 1]? = some (.cells #[.string s'] 64 (0, 0))) ∧
      w.grownBy ((((w2.alloc o1).drewN k).alloc o4).alloc (.cells #[.string s] 64)).drew (some R) ∧ Ctx ((((w2.alloc o1).drewN k).alloc o4).alloc (.cells #[.string s] 64)).drew R g n cap bs aU aE i' := by
  have s1 := hgr.size
  have s2 := hg2.size
  have G : ∀ r, w2.grownBy ((((w2.alloc o1).drewN k).alloc o4).alloc (.cells #[.string s] 64)).drew r := fun r => by
    have g1 := grownBy_drewN (World.grownBy_alloc w2 o1 r) k
    have g2 := grownBy_trans g1 (World.grownBy_alloc _ o4 r)
    have g3 := grownBy_trans g2 (World.grownBy_alloc _ (.cells #[.string s] 64) r)
    exact ⟨g3.os, g3.tape, g3.output, g3.size, g3.block⟩
  refine ⟨by omega, ⟨s, ?_⟩, grownBy_trans (grownBy_trans hgr hg2) (G _), hC2.other (G none) (by simp)⟩
  have := heap_alloc_new (((w2.alloc o1).drewN k).alloc o4) (.cells #[.string s] 64)
  have e : (((w2.alloc o1).drewN k).alloc o4).heap.size = w2.heap.size + 1 + 1 := by simp
  rw [e] at this
  exact this

set_option maxHeartbeats 1600000 in
set_option maxRecDepth 100000 in
theorem readNames_ooo {R g n cap : Nat} {bs : List Nat} {aU aE : Addr} {w : World} (h : Ctx w R g n cap bs aU aE 0) (L : List (Nat × Nat)) (N : Nat) (rest : List Nat) (x0 y0 : Nat) (hN : N ≤ 1024) (hMN : L.length < N) (hx0 : x0 < 34359738368) (hy0 : y0 < 34359738368) (rest0 : List Nat) (hM : 0 < L.length) (hle : x0 ≤ (L[L.length - 1]'(by omega)).1) (hcut : rest = encV x0 ++ (encV y0 ++ rest0))
    (hb : ∀ p ∈ L, p.1 < 34359738368 ∧ p.2 < 34359738368) (hinc : ∀ j (hj : j + 1 < L.length), (L[j]'(by omega)).1 < L[j + 1].1)
    (hd : bs = encV N ++ (encL L ++ rest)) :
    Calls Ybaf.prog 8 #[.iface 30 (.pointer (some ⟨R, 0, none⟩))] w fun e w' => ∃ E, e = .returned (.tuple #[.slice none 0 0, .iface 62 (.pointer (some ⟨E, 0, none⟩))]) ∧ w.heap.size ≤ E ∧ (∃ s, w'.heap[E]? = some (.cells #[.string s] 64 (0, 0))) ∧
      w.grownBy w' (some R) ∧ Ctx w' R g n cap bs aU aE ((encV N).length + (encL L).length + (encV x0).length + (encV y0).length) := by
  obtain ⟨i0, hi, hz0, hz1, hz2⟩ := info_parts info38
  have HD := (show Hid (bs = encV N ++ (encL L ++ rest)) from hd)
  have HD0 : Hid (bs.drop 0 = encV N ++ (encL L ++ rest)) := by rw [List.drop_zero]; exact hd
  have HCut : Hid (rest = encV x0 ++ (encV y0 ++ rest0)) := hcut
  clear hd hcut
  go_enter Ybaf.func8, Ybaf.ntmps8
  go_wp2_with fail
  refine (readNumber_ok h N (by omega) _ HD0.out).mono ?_
  rintro e w1 ⟨rfl, hg1, hC1⟩
  go_wp2
  go_loopw [6, 19] (fun v c wr => ∃ j : Nat, j ≤ L.length ∧ c = .int .i64 j ∧ wr.ownsRow w.heap.size 38 2 v j (msgs (L.take j)) ∧ (j = 0 → v = .slice none 0 0) ∧ w.grownBy wr (some R) ∧
      Ctx wr R g n cap bs aU aE ((encV N).length + (encL (L.take j)).length))
    (fun _ c _ => N - (intOf c).toNat)
  case atStart => exact ⟨0, by omega, rfl, World.ownsRow_nil _ _ _ _, fun _ => rfl, hg1, by simpa [encL] using hC1⟩
  case round =>
    obtain ⟨j, hj, rfl, hown, hnil, hgr, hC⟩ := hrel
    by_cases hlt : j < L.length
    · obtain ⟨x, y, hxy⟩ : ∃ x y, L[j] = (x, y) := ⟨_, _, rfl⟩
      have hbx := hb L[j] (List.getElem_mem hlt)
      rw [hxy] at hbx
      have htk : L.take (j + 1) = L.take j ++ [(x, y)] := by rw [List.take_succ_eq_append_getElem hlt, hxy]
      have HP : Hid (bs.drop ((encV N).length + (encL (L.take j)).length) = encV x ++ (encV y ++ (encL (L.drop (j + 1)) ++ rest))) := by
        show _ = _
        have e : L = L.take j ++ ((x, y) :: L.drop (j + 1)) := by
          conv => lhs; rw [← List.take_append_drop (j + 1) L, htk]
          simp
        rw [HD.out]
        rw [show encL L = encL (L.take j) ++ encL ((x, y) :: L.drop (j + 1)) from by rw [← encL_append, ← e]]
        simp [encL]
      have HT : Hid (L.take (j + 1) = L.take j ++ [(x, y)]) := htk
      clear htk
      have HPos : Hid ((encV N).length + (encL (L.take j)).length + (encV x).length + (encV y).length = (encV N).length + (encL (L.take (j + 1))).length) := by
        show _ = _
        rw [HT.out, encL_snoc]; simp; omega
      have HM : Hid (msgs (L.take (j + 1)) = msgs (L.take j) ++ [.int .i64 x, .int .i64 y]) := by
        show _ = _
        rw [HT.out, msgs_append]; rfl
      have hsz := hgr.size
      cases j with
      | zero =>
        have hv0 := hnil rfl
        subst hv0
        go_wp2_with (go_at_call 11; refine (readName_ok hC x y hbx.1 hbx.2 _ HP.out).mono ?_; rintro e w2 ⟨rfl, hg2, hC2⟩)
        go_quiet (fail)
        have hsz2 := hg2.size
        go_wp2_with (at_builtin; refine wpList_append_lies _ rfl _ _ 25 rfl w.heap.size 38 i0 (.agg #[.int .i64 0, .int .i64 0]) 2 16 Ybaf.underlying25 hi hz0 hz1 hz2 rfl (by decide) _ _ _ rfl (World.ownsRow_nil _ _ _ _) ⟨w2.heap.size + 1, 0, none⟩ 1 1 [.int .i64 x, .int .i64 y] rfl rfl ?c1 ?c2 (by omega) ?c3 ?c4 ?c5 (w2.heap.size + 2) (by simp) ?_)
        case c1 => exact news2 _ _ _ _ _ (by simp)
        case c2 => intro u hu; simp at hu; rcases hu with rfl | rfl <;> rfl
        case c3 => unfold maxLen; omega
        case c4 => omega
        case c5 => simp; omega
        · intro g3 cap3 w3 hown3 hg3 _ _
          have hS := names_step h hgr hg2 hC2 hg3 (by simp [Value.ownBlock])
          rw [HPos.out] at hS
          clear hg3 hC2 hg2 hC hgr hown
          go_wp2
          have hm := HM.out
          simp only [Nat.zero_add, List.take_zero, msgs, List.nil_append] at hm
          refine ⟨⟨1, by omega, by go_num, by rw [hm]; exact hown3, by omega, hS.1, by simpa using hS.2⟩, by simp [intOf]; omega⟩
      | succ j =>
        obtain ⟨z, hz⟩ : ∃ z, (L[j]'(by omega)).1 = z := ⟨_, rfl⟩
        have hlz : (z : Int) < (x : Int) := by
          have h1 := hinc j hlt
          have h2 : L[j + 1] = (x, y) := hxy
          rw [hz, h2] at h1
          simpa using h1
        obtain ⟨g4, cap4, rfl, hg4, hg4'⟩ := hown.form (by omega)
        have hcz : wr.cell? ⟨g4, j * 2, none⟩ = some (.int .i64 z) := by
          have h1 := (msgs_get (L.take (j + 1)) j (by simp; omega)).1
          have h2 := hown.cells rfl (j * 2) _ h1
          rw [Addr.add_lit] at h2
          simpa [hz] using h2
        clear hxy hz
        go_wp2_with (go_at_call 11; refine (readName_ok hC x y hbx.1 hbx.2 _ HP.out).mono ?_; rintro e w2 ⟨rfl, hg2, hC2⟩)
        have hcz2 := hg2.cell hcz (by have := h.rlt; simp; omega)
        have hg2lt : g4 < w2.heap.size := by have := hg2.size; omega
        have hown2 := hown.kept hg2 (Or.inr (by have := h.rlt; simp [Value.ownBlock]; omega))
        clear hcz hown
        go_quiet (fail)
        have hsz2 := hg2.size
        have hown3 := fun o1 nq o2 => World.ownsRow.alloc (ownsRow_drewN (hown2.alloc o1) nq) o2
        go_wp2_with (at_builtin; refine wpList_append_lies _ rfl _ _ 25 rfl w.heap.size 38 i0 (.agg #[.int .i64 0, .int .i64 0]) 2 16 Ybaf.underlying25 hi hz0 hz1 hz2 rfl (by decide) _ _ _ rfl (hown3 _ _ _) ⟨w2.heap.size + 1, 0, none⟩ 1 1 [.int .i64 x, .int .i64 y] rfl rfl ?d1 ?d2 (by omega) ?d3 ?d4 ?d5 (w2.heap.size + 2) (by simp) ?_)
        case d1 => exact news2 _ _ _ _ _ (by simp)
        case d2 => intro u hu; simp at hu; rcases hu with rfl | rfl <;> rfl
        case d3 => unfold maxLen; omega
        case d4 => omega
        case d5 => simp; omega
        · intro g3 cap3 w3 hown4 hg3 _ _
          have hS := names_step h hgr hg2 hC2 hg3 (by simp [Value.ownBlock]; omega)
          rw [HPos.out] at hS
          clear hg3 hC2 hg2 hC hgr hown2 hown3
          go_wp2
          refine ⟨⟨j + 2, by omega, by go_num, by rw [HM.out]; exact hown4, by omega, hS.1, by simpa using hS.2⟩, by simp [intOf]; omega⟩
    · obtain ⟨m, hm⟩ : ∃ m, L.length = m + 1 := ⟨L.length - 1, by omega⟩
      have hje : j = m + 1 := by omega
      subst hje
      obtain ⟨z, hz⟩ : ∃ z, (L[m]'(by omega)).1 = z := ⟨_, rfl⟩
      have hlz : (x0 : Int) ≤ (z : Int) := by
        have h1 := hle
        simp only [hm, Nat.add_sub_cancel, hz] at h1
        omega
      obtain ⟨g4, cap4, rfl, hg4, hg4'⟩ := hown.form (by omega)
      have hcz : wr.cell? ⟨g4, m * 2, none⟩ = some (.int .i64 z) := by
        have h1 := (msgs_get (L.take (m + 1)) m (by simp; omega)).1
        have h2 := hown.cells rfl (m * 2) _ h1
        rw [Addr.add_lit] at h2
        simpa [hz] using h2
      have HB : Hid (bs.drop ((encV N).length + (encL (L.take (m + 1))).length) = encV x0 ++ (encV y0 ++ rest0)) := by
        show _ = _
        rw [HD.out, ← HCut.out, ← hm]; simp
      have HPos : Hid ((encV N).length + (encL (L.take (m + 1))).length = (encV N).length + (encL L).length) := by
        show _ = _
        rw [← hm]; simp
      clear hz hnil hle
      have hmN : m + 1 < N := by omega
      clear hinc hb hm hM hMN hj hlt
      go_wp2_with (go_at_call 11; refine (readName_ok hC x0 y0 hx0 hy0 _ HB.out).mono ?_; rintro e w2 ⟨rfl, hg2, hC2⟩)
      have hcz2 := hg2.cell hcz (by have := h.rlt; simp; omega)
      have hg2lt : g4 < w2.heap.size := by have := hg2.size; omega
      clear hcz hown
      go_quiet (fail)
      go_wp2
      have hb0 : (0 : Int) ≤ (m : Int) := by omega
      have hb1 : (m : Int) < ((m + 1 : Nat) : Int) := by omega
      go_region_with (go_at_call 12; refine (outOfOrder_any _ _ _).mono ?_; rintro e w4 ⟨rfl, o4, s4, rfl⟩)
      all_goals go_wp2
      all_goals go_ret2
      all_goals
        rw [HPos.out] at hC2
        exact ⟨_, rfl, ooo_end h hgr hg2 hC2⟩
end Go.Proofs.YbulkdaisFmt
