import Derived.Test.YbulkdaisFmtName
namespace Go.Proofs.YbulkdaisFmt
open Go.RowKit
set_option linter.unusedVariables false

theorem info38 : (Ybaf.prog.info? 38).map (fun i => (i.zero, i.size, i.bytes)) = some (some (.agg #[.int .i64 0, .int .i64 0]), 2, 16) := by kernel_rfl

/-- The cells of a list of messages. -/
def msgs : List (Nat × Nat) → List Value
  | [] => []
  | p :: r => .int .i64 p.1 :: .int .i64 p.2 :: msgs r

theorem msgs_append (a b : List (Nat × Nat)) : msgs (a ++ b) = msgs a ++ msgs b := by
  induction a with
  | nil => rfl
  | cons p r ih => simp [msgs, ih]
theorem msgs_length (a : List (Nat × Nat)) : (msgs a).length = a.length * 2 := by
  induction a with
  | nil => rfl
  | cons p r ih => simp [msgs, ih]; omega
theorem msgs_get (a : List (Nat × Nat)) (j : Nat) (h : j < a.length) : (msgs a)[j * 2]? = some (.int .i64 (a[j].1)) ∧ (msgs a)[j * 2 + 1]? = some (.int .i64 (a[j].2)) := by
  induction a generalizing j with
  | nil => simp at h
  | cons p r ih =>
    cases j with
    | zero => simp [msgs]
    | succ j =>
      have := ih j (by simpa using h)
      rw [show (j + 1) * 2 = j * 2 + 2 from by omega]
      simpa [msgs] using this

theorem ownsRow_drewN {w : World} {base : Nat} {e : TypeId} {size : Nat} {v : Value} {n : Nat} {xs : List Value} (h : w.ownsRow base e size v n xs) (k : Nat) : (w.drewN k).ownsRow base e size v n xs := h

theorem Ctx.other {w w' : World} {R g n cap : Nat} {bs : List Nat} {aU aE : Addr} {i : Nat} {q : Option Nat} (h : Ctx w R g n cap bs aU aE i) (hg : w.grownBy w' q) (hq : ∀ k, q = some k → k ≠ R ∧ k ≠ g ∧ 2 < k) : Ctx w' R g n cap bs aU aE i := by
  refine ⟨grownBy_block hg h.rd (fun e => (hq R e.symm).1 rfl), fun j hj => hg.cell (h.cells j hj) (fun e => (hq g e.symm).2.1 rfl), h.gne, hg.cell h.gU (fun e => ?_), hg.cell h.gE (fun e => ?_), h.far, h.nle, h.nlen, Nat.lt_of_lt_of_le h.glt hg.size⟩
  · have := (hq 0 e.symm).2.2; omega
  · have := (hq 2 e.symm).2.2; omega

/-- What one round of readNames does to the world, put together. -/
theorem names_step {w wr w2 w3 : World} {R g n cap : Nat} {bs : List Nat} {aU aE : Addr} {i i' : Nat} {q : Option Nat} {o1 o2 : Obj} {nq : Nat} (h : Ctx w R g n cap bs aU aE i)
    (hgr : w.grownBy wr (some R)) (hg2 : wr.grownBy w2 (some R)) (hC2 : Ctx w2 R g n cap bs aU aE i') (hg3 : (((w2.alloc o1).drewN nq).alloc o2).grownBy w3 q) (hq : ∀ k, q = some k → w.heap.size ≤ k) :
    w.grownBy w3 (some R) ∧ Ctx w3 R g n cap bs aU aE i' := by
  have h1 := h.rlt
  have h2 := h.glt
  have h3 := h.far
  have G : ∀ r, w2.grownBy (((w2.alloc o1).drewN nq).alloc o2) r := fun r => grownBy_trans (grownBy_drewN (World.grownBy_alloc w2 o1 r) nq) (World.grownBy_alloc _ o2 r)
  have G3 : w2.grownBy w3 q := grownBy_trans (G q) hg3
  refine ⟨⟨G3.os.trans (hg2.os.trans hgr.os), G3.tape.trans (hg2.tape.trans hgr.tape), G3.output.trans (hg2.output.trans hgr.output), Nat.le_trans hgr.size (Nat.le_trans hg2.size G3.size), fun k hk hne => ?_⟩,
    hC2.other G3 (fun k hk => by have := hq k hk; exact ⟨by omega, by omega, by omega⟩)⟩
  have s1 := hgr.size
  have s2 := hg2.size
  rw [G3.block k (by omega) (fun e => by have := hq k e.symm; omega)]
  exact (grownBy_trans hgr hg2).block k hk hne

theorem news2 (w : World) (x y : Value) (e : TypeId) (b : Nat) (hb : b = w.heap.size) : ∀ j u, [x, y][j]? = some u → (w.alloc (.cells #[x, y] e)).cell? (({ block := b, off := 0 } : Addr).add j) = some u := by
  subst hb
  exact cell_two_new _ _ _ _

set_option maxHeartbeats 1600000 in
set_option maxRecDepth 100000 in
theorem readNames_ok {R g n cap : Nat} {bs : List Nat} {aU aE : Addr} {w : World} (h : Ctx w R g n cap bs aU aE 0) (L : List (Nat × Nat)) (rest : List Nat) (hN : L.length ≤ 1024)
    (hb : ∀ p ∈ L, p.1 < 34359738368 ∧ p.2 < 34359738368) (hinc : ∀ j (hj : j + 1 < L.length), (L[j]'(by omega)).1 < L[j + 1].1)
    (hd : bs = encV L.length ++ (encL L ++ rest)) :
    Calls Ybaf.prog 8 #[.iface 30 (.pointer (some ⟨R, 0, none⟩))] w fun e w' => ∃ v, e = .returned (.tuple #[v, .nilIface]) ∧ w'.ownsRow w.heap.size 38 2 v L.length (msgs L) ∧ (L.length = 0 → v = .slice none 0 0) ∧
      w.grownBy w' (some R) ∧ Ctx w' R g n cap bs aU aE ((encV L.length).length + (encL L).length) := by
  obtain ⟨i0, hi, hz0, hz1, hz2⟩ := info_parts info38
  have HD := (show Hid (bs = encV L.length ++ (encL L ++ rest)) from hd)
  have HD0 : Hid (bs.drop 0 = encV L.length ++ (encL L ++ rest)) := by rw [List.drop_zero]; exact hd
  clear hd
  go_enter Ybaf.func8, Ybaf.ntmps8
  go_wp2_with fail
  refine (readNumber_ok h L.length (by omega) _ HD0.out).mono ?_
  rintro e w1 ⟨rfl, hg1, hC1⟩
  go_wp2
  go_loopw [6, 19] (fun v c wr => ∃ j : Nat, j ≤ L.length ∧ c = .int .i64 j ∧ wr.ownsRow w.heap.size 38 2 v j (msgs (L.take j)) ∧ (j = 0 → v = .slice none 0 0) ∧ w.grownBy wr (some R) ∧
      Ctx wr R g n cap bs aU aE ((encV L.length).length + (encL (L.take j)).length))
    (fun _ c _ => L.length - (intOf c).toNat)
  case atStart => exact ⟨0, by omega, rfl, World.ownsRow_nil _ _ _ _, fun _ => rfl, hg1, by simpa [encL] using hC1⟩
  case round =>
    obtain ⟨j, hj, rfl, hown, hnil, hgr, hC⟩ := hrel
    by_cases hlt : j < L.length
    · obtain ⟨x, y, hxy⟩ : ∃ x y, L[j] = (x, y) := ⟨_, _, rfl⟩
      have hbx := hb L[j] (List.getElem_mem hlt)
      rw [hxy] at hbx
      have htk : L.take (j + 1) = L.take j ++ [(x, y)] := by rw [List.take_succ_eq_append_getElem hlt, hxy]
      have HP : Hid (bs.drop ((encV L.length).length + (encL (L.take j)).length) = encV x ++ (encV y ++ (encL (L.drop (j + 1)) ++ rest))) := by
        show _ = _
        have e : L = L.take j ++ ((x, y) :: L.drop (j + 1)) := by
          conv => lhs; rw [← List.take_append_drop (j + 1) L, htk]
          simp
        rw [HD.out]
        rw [show encL L = encL (L.take j) ++ encL ((x, y) :: L.drop (j + 1)) from by rw [← encL_append, ← e]]
        simp [encL]
      have HT : Hid (L.take (j + 1) = L.take j ++ [(x, y)]) := htk
      clear htk
      have HPos : Hid ((encV L.length).length + (encL (L.take j)).length + (encV x).length + (encV y).length = (encV L.length).length + (encL (L.take (j + 1))).length) := by
        show _ = _
        rw [HT.out, encL_snoc]; simp; omega
      have HM : Hid (msgs (L.take (j + 1)) = msgs (L.take j) ++ [.int .i64 x, .int .i64 y]) := by
        show _ = _
        rw [HT.out, msgs_append]; rfl
      have hsz := hgr.size
      cases j with
      | zero =>
        have hv0 := hnil rfl
        subst hv0
        go_wp2_with (go_at_call 11; refine (readName_ok hC x y hbx.1 hbx.2 _ HP.out).mono ?_; rintro e w2 ⟨rfl, hg2, hC2⟩)
        go_quiet (fail)
        have hsz2 := hg2.size
        go_wp2_with (at_builtin; refine wpList_append_lies _ rfl _ _ 25 rfl w.heap.size 38 i0 (.agg #[.int .i64 0, .int .i64 0]) 2 16 Ybaf.underlying25 hi hz0 hz1 hz2 rfl (by decide) _ _ _ rfl (World.ownsRow_nil _ _ _ _) ⟨w2.heap.size + 1, 0, none⟩ 1 1 [.int .i64 x, .int .i64 y] rfl rfl ?c1 ?c2 (by omega) ?c3 ?c4 ?c5 (w2.heap.size + 2) (by simp) ?_)
        case c1 => exact news2 _ _ _ _ _ (by simp)
        case c2 => intro u hu; simp at hu; rcases hu with rfl | rfl <;> rfl
        case c3 => unfold maxLen; omega
        case c4 => omega
        case c5 => simp; omega
        · intro g3 cap3 w3 hown3 hg3 _ _
          have hS := names_step h hgr hg2 hC2 hg3 (by simp [Value.ownBlock])
          rw [HPos.out] at hS
          clear hg3 hC2 hg2 hC hgr hown
          go_wp2
          have hm := HM.out
          simp only [Nat.zero_add, List.take_zero, msgs, List.nil_append] at hm
          refine ⟨⟨1, by omega, by go_num, by rw [hm]; exact hown3, by omega, hS.1, by simpa using hS.2⟩, by simp [intOf]; omega⟩
      | succ j =>
        obtain ⟨z, hz⟩ : ∃ z, (L[j]'(by omega)).1 = z := ⟨_, rfl⟩
        have hlz : (z : Int) < (x : Int) := by
          have h1 := hinc j hlt
          have h2 : L[j + 1] = (x, y) := hxy
          rw [hz, h2] at h1
          simpa using h1
        obtain ⟨g4, cap4, rfl, hg4, hg4'⟩ := hown.form (by omega)
        have hcz : wr.cell? ⟨g4, j * 2, none⟩ = some (.int .i64 z) := by
          have h1 := (msgs_get (L.take (j + 1)) j (by simp; omega)).1
          have h2 := hown.cells rfl (j * 2) _ h1
          rw [Addr.add_lit] at h2
          simpa [hz] using h2
        clear hxy hz
        go_wp2_with (go_at_call 11; refine (readName_ok hC x y hbx.1 hbx.2 _ HP.out).mono ?_; rintro e w2 ⟨rfl, hg2, hC2⟩)
        have hcz2 := hg2.cell hcz (by have := h.rlt; simp; omega)
        have hg2lt : g4 < w2.heap.size := by have := hg2.size; omega
        have hown2 := hown.kept hg2 (Or.inr (by have := h.rlt; simp [Value.ownBlock]; omega))
        clear hcz hown
        go_quiet (fail)
        have hsz2 := hg2.size
        have hown3 := fun o1 nq o2 => World.ownsRow.alloc (ownsRow_drewN (hown2.alloc o1) nq) o2
        go_wp2_with (at_builtin; refine wpList_append_lies _ rfl _ _ 25 rfl w.heap.size 38 i0 (.agg #[.int .i64 0, .int .i64 0]) 2 16 Ybaf.underlying25 hi hz0 hz1 hz2 rfl (by decide) _ _ _ rfl (hown3 _ _ _) ⟨w2.heap.size + 1, 0, none⟩ 1 1 [.int .i64 x, .int .i64 y] rfl rfl ?d1 ?d2 (by omega) ?d3 ?d4 ?d5 (w2.heap.size + 2) (by simp) ?_)
        case d1 => exact news2 _ _ _ _ _ (by simp)
        case d2 => intro u hu; simp at hu; rcases hu with rfl | rfl <;> rfl
        case d3 => unfold maxLen; omega
        case d4 => omega
        case d5 => simp; omega
        · intro g3 cap3 w3 hown4 hg3 _ _
          have hS := names_step h hgr hg2 hC2 hg3 (by simp [Value.ownBlock]; omega)
          rw [HPos.out] at hS
          clear hg3 hC2 hg2 hC hgr hown2 hown3
          go_wp2
          refine ⟨⟨j + 2, by omega, by go_num, by rw [HM.out]; exact hown4, by omega, hS.1, by simpa using hS.2⟩, by simp [intOf]; omega⟩
    · have hje : j = L.length := by omega
      subst hje
      go_wp2
      go_ret2
      refine ⟨_, rfl, by simpa using hown, hnil, hgr, by simpa using hC⟩
end Go.Proofs.YbulkdaisFmt
