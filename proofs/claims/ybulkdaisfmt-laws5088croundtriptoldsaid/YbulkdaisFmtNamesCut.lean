import Derived.Test.YbulkdaisFmtNames
namespace Go.Proofs.YbulkdaisFmt
open Go.RowKit
set_option linter.unusedVariables false

set_option maxHeartbeats 1600000 in
set_option maxRecDepth 100000 in
theorem readNames_cut {R g n cap : Nat} {bs : List Nat} {aU aE : Addr} {w : World} (h : Ctx w R g n cap bs aU aE 0) (L : List (Nat × Nat)) (N : Nat) (rest t : List Nat) (x0 y0 : Nat) (hN : N ≤ 1024) (hMN : L.length < N) (hx0 : x0 < 34359738368) (hy0 : y0 < 34359738368) (ht : t ≠ []) (hcut : rest ++ t = encV x0 ++ encV y0)
    (hb : ∀ p ∈ L, p.1 < 34359738368 ∧ p.2 < 34359738368) (hinc : ∀ j (hj : j + 1 < L.length), (L[j]'(by omega)).1 < L[j + 1].1)
    (hd : bs = encV N ++ (encL L ++ rest)) :
    Calls Ybaf.prog 8 #[.iface 30 (.pointer (some ⟨R, 0, none⟩))] w fun e w' => e = .returned (.tuple #[.slice none 0 0, .iface 62 (.pointer (some aU))]) ∧ w.grownBy w' (some R) ∧ Ctx w' R g n cap bs aU aE n := by
  obtain ⟨i0, hi, hz0, hz1, hz2⟩ := info_parts info38
  have HD := (show Hid (bs = encV N ++ (encL L ++ rest)) from hd)
  have HD0 : Hid (bs.drop 0 = encV N ++ (encL L ++ rest)) := by rw [List.drop_zero]; exact hd
  have HCut : Hid (rest ++ t = encV x0 ++ encV y0) := hcut
  clear hd hcut
  go_enter Ybaf.func8, Ybaf.ntmps8
  go_wp2_with fail
  refine (readNumber_ok h N (by omega) _ HD0.out).mono ?_
  rintro e w1 ⟨rfl, hg1, hC1⟩
  go_wp2
  go_loopw [6, 19] (fun v c wr => ∃ j : Nat, j ≤ L.length ∧ c = .int .i64 j ∧ wr.ownsRow w.heap.size 38 2 v j (msgs (L.take j)) ∧ (j = 0 → v = .slice none 0 0) ∧ w.grownBy wr (some R) ∧
      Ctx wr R g n cap bs aU aE ((encV N).length + (encL (L.take j)).length))
    (fun _ c _ => N - (intOf c).toNat)
  case atStart => exact ⟨0, by omega, rfl, World.ownsRow_nil _ _ _ _, fun _ => rfl, hg1, by simpa [encL] using hC1⟩
  case round =>
    obtain ⟨j, hj, rfl, hown, hnil, hgr, hC⟩ := hrel
    by_cases hlt : j < L.length
    · obtain ⟨x, y, hxy⟩ : ∃ x y, L[j] = (x, y) := ⟨_, _, rfl⟩
      have hbx := hb L[j] (List.getElem_mem hlt)
      rw [hxy] at hbx
      have htk : L.take (j + 1) = L.take j ++ [(x, y)] := by rw [List.take_succ_eq_append_getElem hlt, hxy]
      have HP : Hid (bs.drop ((encV N).length + (encL (L.take j)).length) = encV x ++ (encV y ++ (encL (L.drop (j + 1)) ++ rest))) := by
        show _ = _
        have e : L = L.take j ++ ((x, y) :: L.drop (j + 1)) := by
          conv => lhs; rw [← List.take_append_drop (j + 1) L, htk]
          simp
        rw [HD.out]
        rw [show encL L = encL (L.take j) ++ encL ((x, y) :: L.drop (j + 1)) from by rw [← encL_append, ← e]]
        simp [encL]
      have HT : Hid (L.take (j + 1) = L.take j ++ [(x, y)]) := htk
      clear htk
      have HPos : Hid ((encV N).length + (encL (L.take j)).length + (encV x).length + (encV y).length = (encV N).length + (encL (L.take (j + 1))).length) := by
        show _ = _
        rw [HT.out, encL_snoc]; simp; omega
      have HM : Hid (msgs (L.take (j + 1)) = msgs (L.take j) ++ [.int .i64 x, .int .i64 y]) := by
        show _ = _
        rw [HT.out, msgs_append]; rfl
      have hsz := hgr.size
      cases j with
      | zero =>
        have hv0 := hnil rfl
        subst hv0
        go_wp2_with (go_at_call 11; refine (readName_ok hC x y hbx.1 hbx.2 _ HP.out).mono ?_; rintro e w2 ⟨rfl, hg2, hC2⟩)
        go_quiet (fail)
        have hsz2 := hg2.size
        go_wp2_with (at_builtin; refine wpList_append_lies _ rfl _ _ 25 rfl w.heap.size 38 i0 (.agg #[.int .i64 0, .int .i64 0]) 2 16 Ybaf.underlying25 hi hz0 hz1 hz2 rfl (by decide) _ _ _ rfl (World.ownsRow_nil _ _ _ _) ⟨w2.heap.size + 1, 0, none⟩ 1 1 [.int .i64 x, .int .i64 y] rfl rfl ?c1 ?c2 (by omega) ?c3 ?c4 ?c5 (w2.heap.size + 2) (by simp) ?_)
        case c1 => exact news2 _ _ _ _ _ (by simp)
        case c2 => intro u hu; simp at hu; rcases hu with rfl | rfl <;> rfl
        case c3 => unfold maxLen; omega
        case c4 => omega
        case c5 => simp; omega
        · intro g3 cap3 w3 hown3 hg3 _ _
          have hS := names_step h hgr hg2 hC2 hg3 (by simp [Value.ownBlock])
          rw [HPos.out] at hS
          clear hg3 hC2 hg2 hC hgr hown
          go_wp2
          have hm := HM.out
          simp only [Nat.zero_add, List.take_zero, msgs, List.nil_append] at hm
          refine ⟨⟨1, by omega, by go_num, by rw [hm]; exact hown3, by omega, hS.1, by simpa using hS.2⟩, by simp [intOf]; omega⟩
      | succ j =>
        obtain ⟨z, hz⟩ : ∃ z, (L[j]'(by omega)).1 = z := ⟨_, rfl⟩
        have hlz : (z : Int) < (x : Int) := by
          have h1 := hinc j hlt
          have h2 : L[j + 1] = (x, y) := hxy
          rw [hz, h2] at h1
          simpa using h1
        obtain ⟨g4, cap4, rfl, hg4, hg4'⟩ := hown.form (by omega)
        have hcz : wr.cell? ⟨g4, j * 2, none⟩ = some (.int .i64 z) := by
          have h1 := (msgs_get (L.take (j + 1)) j (by simp; omega)).1
          have h2 := hown.cells rfl (j * 2) _ h1
          rw [Addr.add_lit] at h2
          simpa [hz] using h2
        clear hxy hz
        go_wp2_with (go_at_call 11; refine (readName_ok hC x y hbx.1 hbx.2 _ HP.out).mono ?_; rintro e w2 ⟨rfl, hg2, hC2⟩)
        have hcz2 := hg2.cell hcz (by have := h.rlt; simp; omega)
        have hg2lt : g4 < w2.heap.size := by have := hg2.size; omega
        have hown2 := hown.kept hg2 (Or.inr (by have := h.rlt; simp [Value.ownBlock]; omega))
        clear hcz hown
        go_quiet (fail)
        have hsz2 := hg2.size
        have hown3 := fun o1 nq o2 => World.ownsRow.alloc (ownsRow_drewN (hown2.alloc o1) nq) o2
        go_wp2_with (at_builtin; refine wpList_append_lies _ rfl _ _ 25 rfl w.heap.size 38 i0 (.agg #[.int .i64 0, .int .i64 0]) 2 16 Ybaf.underlying25 hi hz0 hz1 hz2 rfl (by decide) _ _ _ rfl (hown3 _ _ _) ⟨w2.heap.size + 1, 0, none⟩ 1 1 [.int .i64 x, .int .i64 y] rfl rfl ?d1 ?d2 (by omega) ?d3 ?d4 ?d5 (w2.heap.size + 2) (by simp) ?_)
        case d1 => exact news2 _ _ _ _ _ (by simp)
        case d2 => intro u hu; simp at hu; rcases hu with rfl | rfl <;> rfl
        case d3 => unfold maxLen; omega
        case d4 => omega
        case d5 => simp; omega
        · intro g3 cap3 w3 hown4 hg3 _ _
          have hS := names_step h hgr hg2 hC2 hg3 (by simp [Value.ownBlock]; omega)
          rw [HPos.out] at hS
          clear hg3 hC2 hg2 hC hgr hown2 hown3
          go_wp2
          refine ⟨⟨j + 2, by omega, by go_num, by rw [HM.out]; exact hown4, by omega, hS.1, by simpa using hS.2⟩, by simp [intOf]; omega⟩
    · have hje : j = L.length := by omega
      subst hje
      have HB : Hid (bs.drop ((encV N).length + (encL (L.take L.length)).length) ++ t = encV x0 ++ encV y0 ∧ (encV N).length + (encL (L.take L.length)).length ≤ n) := by
        have e1 := HD.out
        have e2 := h.nlen
        constructor
        · rw [← HCut.out, e1]; simp
        · rw [e2, e1]; simp
      clear hown hnil
      go_wp2_with (go_at_call 11; refine (readName_cut hC x0 y0 hx0 hy0 t ht HB.out.1 HB.out.2).mono ?_; rintro e w2 ⟨rfl, hg2, hC2⟩)
      go_ret2
      have G := grownBy_trans hgr hg2
      exact ⟨rfl, grownBy_trans G (World.grownBy_alloc _ _ _), hC2.kept ((Below.refl _ w2).alloc (Nat.le_refl _) _)⟩

set_option maxHeartbeats 1600000 in
set_option maxRecDepth 100000 in
theorem readNames_cut0 {R g n cap : Nat} {bs : List Nat} {aU aE : Addr} {w : World} (h : Ctx w R g n cap bs aU aE 0) (N : Nat) (t : List Nat) (hN : N ≤ 1024) (ht : t ≠ []) (hd : bs ++ t = encV N) :
    Calls Ybaf.prog 8 #[.iface 30 (.pointer (some ⟨R, 0, none⟩))] w fun e w' => e = .returned (.tuple #[.slice none 0 0, .iface 62 (.pointer (some aU))]) ∧ w.grownBy w' (some R) ∧ Ctx w' R g n cap bs aU aE n := by
  have HD : Hid (bs.drop 0 ++ t = encV N) := by rw [List.drop_zero]; exact hd
  clear hd
  go_enter Ybaf.func8, Ybaf.ntmps8
  go_wp2_with fail
  refine (readNumber_cut h N (by omega) t ht HD.out (Nat.zero_le _)).mono ?_
  rintro e w1 ⟨rfl, hg1, hC1⟩
  go_wp2
  go_ret2
  exact ⟨rfl, hg1, hC1⟩
end Go.Proofs.YbulkdaisFmt
