import Derived.Test.YbulkdammTextsB
namespace Go.Proofs.Ybulkdamm
open Go.RowKit
set_option linter.unusedVariables false

/-- The texts listed so far: k of them, the i-th the terminal nZ + i. -/
structure LS (wr : World) (base z k : Nat) (all : Value) (xs : List Value) : Prop where
  own : wr.ownsRow base 27 1 all k xs
  nil : k = 0 → all = .slice none 0 0
  at' : ∀ i, i < k → ∃ b c, xs[i]? = some (.slice (some ⟨b, 0, none⟩) 1 c) ∧ wr.cell? ⟨b, 0, none⟩ = some (.int .i32 ((z + i : Nat) : Int))
theorem LS.apart {wr : World} {base z k : Nat} {all : Value} {xs : List Value} (h : LS wr base z k all xs) {M : Nat} {t : Int} (hM : wr.cell? ⟨M, 0, none⟩ = some (.int .i32 t)) : all.ownBlock ≠ some M := by
  intro e
  rcases Nat.eq_zero_or_pos k with h0 | h0
  · rw [h.nil h0] at e; simp [Value.ownBlock] at e
  · obtain ⟨b, c, h1, _⟩ := h.at' 0 h0
    obtain ⟨g, cap, rfl, _, _⟩ := h.own.form h0
    simp [Value.ownBlock] at e
    subst e
    have := h.own.cellAt 0 (by omega)
    rw [h1, hM] at this
    simp at this
theorem LS.keep {wr w' : World} {base z k : Nat} {all : Value} {xs : List Value} (h : LS wr base z k all xs) (hb : Below wr.heap.size wr w') : LS w' base z k all xs :=
  ⟨owns_below h.own hb, h.nil, fun i hi => by obtain ⟨b, c, h1, h2⟩ := h.at' i hi; exact ⟨b, c, h1, keepW hb h2⟩⟩
theorem LS.push {wr w5 : World} {base z k g cap M cM : Nat} {all : Value} {xs : List Value} (h : LS wr base z k all xs) (hM : wr.cell? ⟨M, 0, none⟩ = some (.int .i32 ((z + k : Nat) : Int))) (ho : w5.ownsRow base 27 1 (.slice (some ⟨g, 0, none⟩) (k + 1) cap) (k + 1) (xs ++ [.slice (some ⟨M, 0, none⟩) 1 cM])) (hg : wr.grownBy w5 all.ownBlock) :
    LS w5 base z (k + 1) (.slice (some ⟨g, 0, none⟩) (k + 1) cap) (xs ++ [.slice (some ⟨M, 0, none⟩) 1 cM]) := by
  have hl : xs.length = k := by have := h.own.1; omega
  refine ⟨ho, fun e => by omega, fun i hi => ?_⟩
  by_cases e : i = k
  · subst e
    refine ⟨M, cM, by rw [List.getElem?_append_right (by omega), hl]; simp, ?_⟩
    exact hg.cell hM (fun e => h.apart hM e.symm)
  · obtain ⟨b, c, h1, h2⟩ := h.at' i (by omega)
    exact ⟨b, c, by rw [List.getElem?_append_left (by omega)]; exact h1, hg.cell h2 (fun e => h.apart h2 e.symm)⟩
theorem LS.pieces {wr : World} {base z k : Nat} {all : Value} {xs : List Value} (h : LS wr base z k all xs) (hk : 0 < k) (hz : z + k < 16384) : ∃ Pb c, all = .slice (some ⟨Pb, 0, none⟩) k c ∧ base ≤ Pb ∧ PiecesAt wr Pb 0 k (fun j => z + j) := by
  obtain ⟨g, cap, rfl, hgb, _⟩ := h.own.form hk
  refine ⟨g, cap, rfl, hgb, fun i hi => ⟨show z + i < 16384 by omega, ?_⟩⟩
  obtain ⟨b, c, h1, h2⟩ := h.at' i hi
  exact ⟨b, c, by rw [Nat.zero_add, h.own.cellAt i (by omega)]; exact h1, h2⟩

theorem LS.stores {wr : World} {base z k XS XL : Nat} {all : Value} {xs : List Value} (h : LS wr base z k all xs) (h1 : XS < base) (h2 : XL < base) (u v : Value) (q : Nat) : LS (((wr.setCell ⟨XS, 1, none⟩ u).setCell ⟨XL, 1, none⟩ v).drewN q) base z k all xs := by
  have ne : ∀ (a b : Nat), (⟨a, 1, none⟩ : Addr) ≠ ⟨b, 0, none⟩ := fun a b e => by have := congrArg Addr.off e; simp at this
  refine ⟨owns_same h.own fun j hj => ?_, h.nil, fun i hi => ?_⟩
  · have := (ownLt h.own hj).1
    exact (heap_same_setCell _ _ _ _ j (by omega)).trans (heap_same_setCell _ _ _ _ j (by omega))
  · obtain ⟨b, c, a1, a2⟩ := h.at' i hi
    refine ⟨b, c, a1, ?_⟩
    show ((wr.setCell ⟨XS, 1, none⟩ u).setCell ⟨XL, 1, none⟩ v).cell? ⟨b, 0, none⟩ = _
    rw [World.cell?_setCell_other _ _ _ _ (ne _ _), World.cell?_setCell_other _ _ _ _ (ne _ _)]
    exact a2

set_option maxHeartbeats 6400000 in
set_option maxRecDepth 100000 in
theorem texts_list (B X XS XL : Nat) (g : G) (w : World) (hPV : PV B w g) (hSh : Shape g) (hT : TX w g.p X XS XL 0) (hB : B ≤ w.heap.size) (hXS : B ≤ XS) (hXL : B ≤ XL) (hrc : g.rc = false ∨ g.nB = 0) :
    Calls Yba.prog 7 #[.pointer (some ⟨X, 0, none⟩), .int .i32 1, .int .i64 0] w fun e w' => Ch B [XS, XL] w w' ∧ ((64 < g.nB ∧ e = .returned (.tuple #[.slice none 0 0, .bool false])) ∨ (g.nB ≤ 64 ∧ ∃ v, e = .returned (.tuple #[v, .bool true]) ∧ (g.nB = 0 ∧ v = .slice none 0 0 ∨ ∃ Pb c, v = .slice (some ⟨Pb, 0, none⟩) g.nB c ∧ w.heap.size ≤ Pb ∧ PiecesAt w' Pb 0 g.nB (fun j => g.nZ + j)))) := by
  obtain ⟨i2, hi2, hz20, hz21, hz22⟩ := info_parts info27
  have HI2 := hid (And.intro hi2 (And.intro hz20 (And.intro hz21 hz22)))
  have ht1 := hT.set 1
  have pv1 := hPV.below ((Below.refl B w).setCell (p := ⟨XS, 1, none⟩) hXS (.int .u8 1))
  have hch1 : Ch B [XS, XL] w (w.setCell ⟨XS, 1, none⟩ (.int .u8 1)) := (Ch.refl B _ w).setCell XS 1 _ hXS (by simp)
  have hnp : g.np 1 = g.nB := by rw [hSh.n1]; rcases hrc with h | h <;> simp [h]
  have c0 := hT.c0
  have c1 := hT.c1
  have cs := hT.s
  have cf := hT.fs 1
  have n1 := hT.ne
  have nXS : X ≠ XS := n1.1
  have HT1 := hid ht1
  have HPV1 := hid pv1
  have HCH := hid hch1
  have HSh := hid hSh
  have HNP := hid hnp
  have hpl : g.p < B := hPV.bp
  have hpne : g.p ≠ XS := by omega
  have k1 := hPV.prods
  have r1 := hPV.rowP 1 (by omega)
  have hPl : g.PB ≠ XS := by have := hPV.bP; omega
  have hbB := hSh.bB
  have hbZ := hSh.bZ
  have hbS := hSh.bS
  have HRC := hid hrc
  rw [hnp] at r1
  obtain ⟨A, hA⟩ : ∃ A, A = g.pA 1 := ⟨_, rfl⟩
  rw [← hA] at r1
  have HAA := hid hA
  have hsz : (w.setCell ⟨XS, 1, none⟩ (.int .u8 1)).heap.size = w.heap.size := by simp
  have HSZ := hid hsz
  clear hi2 hz20 hz21 hz22 hPV hSh hT ht1 pv1 hch1 hnp n1 hA hsz hrc
  go_enter Yba.func7, Yba.ntmps7
  go_wp2_with fail
  clear c0 c1 cs cf k1 r1
  generalize (w.setCell ⟨XS, 1, none⟩ (.int .u8 1)) = W at *
  go_loopw [8, 67] (fun all iv wr => ∃ (k : Nat) (xs : List Value), k ≤ g.nB ∧ k ≤ 64 ∧ iv = .int .i64 k ∧ Below W.heap.size W wr ∧ LS wr W.heap.size g.nZ k all xs) (fun _ i _ => g.nB - (intOf i).toNat)
  case atStart => exact ⟨0, [], by omega, by omega, rfl, Below.refl _ _, ⟨World.ownsRow_nil _ _ _ _, fun _ => rfl, fun i hi => by omega⟩⟩
  case round =>
    obtain ⟨k, xs, hk, hk64, rfl, hbel, hls⟩ := hrel
    obtain ⟨va, vc, rfl, hva⟩ := owns_form hls.own
    have HBE := hid hbel
    have HLS := hid hls
    have htx := HT1.out.keep hbel
    by_cases hlt : k < g.nB
    · have hrcf : g.rc = false := by rcases HRC.out with h | h; · exact h
                                     · omega
      have kk : ∀ {p : Addr} {u : Value}, W.cell? p = some u → wr.cell? p = some u := fun hu => keepW hbel hu
      obtain ⟨p1, _, p2⟩ := HPV1.out.atP 1 k (by omega) (by have := HNP.out; omega)
      obtain ⟨q1, _, q2⟩ := HPV1.out.atE 1 k (by omega) (by have := HNP.out; omega)
      have e1' := HAA.out.trans p1
      subst e1'
      have rE := HPV1.out.rowE 1 (by omega)
      rw [q1, HNP.out] at rE
      obtain ⟨s1, s2, s3⟩ := HSh.out.b k hlt
      rw [if_neg (by rw [hrcf]; decide)] at s3
      rw [s3] at q2
      have u1 := (HPV1.out.slot (g.st 1 k) (by omega)).1
      rw [s2] at u1
      have p2' := kk p2
      have q2' := kk q2
      have rE' := kk rE
      have u1' := kk u1
      have pS' := kk HPV1.out.slots
      have pE' := kk HPV1.out.ends
      have t0' := htx.c0
      have b1 : (k : Int) < (g.nB : Int) := by omega
      have hs1 : ((g.st 1 k : Nat) : Int) < 10000 := by omega
      have hs2 : ((g.st 1 k : Nat) : Int) < (g.nS : Int) := by omega
      have hlt5 : g.p < wr.heap.size ∧ g.SB < wr.heap.size ∧ g.EB < wr.heap.size ∧ X < wr.heap.size ∧ g.ea 1 < wr.heap.size := ⟨block_lt_of_cell pS', block_lt_of_cell u1', block_lt_of_cell rE', block_lt_of_cell t0', block_lt_of_cell q2'⟩
      obtain ⟨l1, l2, l3, l4, l5⟩ := hlt5
      clear hbel hls htx kk p1 q1 p2 q2 rE s1 s2 s3 u1
      generalize hst : g.st 1 k = st at *
      obtain ⟨t, ht⟩ : ∃ t, t = g.nZ + k := ⟨_, rfl⟩
      rw [← ht] at u1'
      have HTT := hid ht
      have htb : t < 3000 := by omega
      clear hst ht
      go_wp2_with fail
      refine wp_loop_rounds 2 ?_
      rw [rounds_succ]
      go_wp2_with fail
      refine (texts_term _ t 1 _ (by omega)).mono ?_
      rintro r w2 ⟨rfl, rfl⟩
      have hb1 : Below wr.heap.size wr (((wr.alloc (.cells #[.slice none 0 0] 27)).alloc (.cells #[.int .i32 (t : Int)] 21)).alloc (.cells #[.slice (some ⟨(wr.alloc (.cells #[.slice none 0 0] 27)).heap.size, 0, none⟩) 1 1] 27)) := (((Below.refl _ wr).alloc (Nat.le_refl _) _).alloc (by simp) _).alloc (by simp; omega) _
      have z0 : (((wr.alloc (.cells #[.slice none 0 0] 27)).alloc (.cells #[.int .i32 (t : Int)] 21)).alloc (.cells #[.slice (some ⟨(wr.alloc (.cells #[.slice none 0 0] 27)).heap.size, 0, none⟩) 1 1] 27)).heap[wr.heap.size]? = some (.cells #[.slice none 0 0] 27) := by (repeat (first | (apply blk_new; simp; done) | apply blk_past))
      have z1 : (((wr.alloc (.cells #[.slice none 0 0] 27)).alloc (.cells #[.int .i32 (t : Int)] 21)).alloc (.cells #[.slice (some ⟨(wr.alloc (.cells #[.slice none 0 0] 27)).heap.size, 0, none⟩) 1 1] 27)).heap[wr.heap.size + 1]? = some (.cells #[.int .i32 (t : Int)] 21) := by (repeat (first | (apply blk_new; simp; done) | apply blk_past))
      have z2 : (((wr.alloc (.cells #[.slice none 0 0] 27)).alloc (.cells #[.int .i32 (t : Int)] 21)).alloc (.cells #[.slice (some ⟨(wr.alloc (.cells #[.slice none 0 0] 27)).heap.size, 0, none⟩) 1 1] 27)).heap[wr.heap.size + 2]? = some (.cells #[.slice (some ⟨wr.heap.size + 1, 0, none⟩) 1 1] 27) := by
        have : (((wr.alloc (.cells #[.slice none 0 0] 27)).alloc (.cells #[.int .i32 (t : Int)] 21)).alloc (.cells #[.slice (some ⟨(wr.alloc (.cells #[.slice none 0 0] 27)).heap.size, 0, none⟩) 1 1] 27)).heap[wr.heap.size + 2]? = some (.cells #[.slice (some ⟨(wr.alloc (.cells #[.slice none 0 0] 27)).heap.size, 0, none⟩) 1 1] 27) := by (repeat (first | (apply blk_new; simp; done) | apply blk_past))
        simpa using this
      have hsz : (wr.alloc (.cells #[.slice none 0 0] 27)).heap.size = wr.heap.size + 1 := by simp
      rw [hsz] at hb1 z0 z1 z2 ⊢
      have HB1 := hid hb1
      have HJ := hid (joined_one wr.heap.size (wr.heap.size + 1 + 1) (wr.heap.size + 1) 1 (t : Int) _ (cell_of_row _ _ _ _ _ _ z0) (cell_of_row _ _ _ _ _ _ z2) (cell_of_row _ _ _ _ _ _ z1))
      clear hb1 z0 z1 z2 hsz
      generalize (((wr.alloc (.cells #[.slice none 0 0] 27)).alloc (.cells #[.int .i32 (t : Int)] 21)).alloc (.cells #[.slice (some ⟨wr.heap.size + 1, 0, none⟩) 1 1] 27)) = W2 at *
      go_wp2_with fail
      refine HJ.out.mono ?_
      rintro r w3 ⟨N, M, cN, cM, rfl, hb3, y1, y2⟩
      have hb4 := HB1.out.trans (hb3.mono HB1.out.size)
      have ls4 := HLS.out.keep hb4
      have k4 : ∀ {p : Addr} {u : Value}, wr.cell? p = some u → w3.cell? p = some u := fun hu => keepW hb4 hu
      have t0'' := k4 t0'
      have pE'' := k4 pE'
      have rE'' := k4 rE'
      have q2'' := k4 q2'
      have HB4 := hid (HBE.out.trans (hb4.mono HBE.out.size))
      have Y1 := hid y1
      have Y2 := hid y2
      have LS4 := hid ls4
      clear HJ hb3 y1 y2 hb4 k4 t0' pS' pE' rE' q2' u1' p2' HB1 ls4 HLS HBE
      go_wp2_with fail
      rw [rounds_succ]
      go_wp2_with (first | (at_builtin; refine wpList_append_lies _ rfl (.tmp 119) (.tmp 120) 33 rfl W.heap.size 27 i2 (.slice none 0 0) 1 24 Yba.underlying33 HI2.out.1 HI2.out.2.1 HI2.out.2.2.1 HI2.out.2.2.2 rfl (by decide) (.slice va k vc) k xs ?c0 LS4.out.own ⟨N, 0, none⟩ 1 cN [.slice (some ⟨M, 0, none⟩) 1 cM] ?c8 ?c1 ?c2 ?c3 ?c4 ?c5 ?c6 ?c7 _ rfl ?_))
      case c0 => rfl
      case c8 => rfl
      case c1 => rfl
      case c2 =>
        intro j u hu
        match j, hu with
        | 0, hu => simp at hu; subst hu; exact Y1.out
        | j + 1, hu => simp at hu
      case c3 => intro u hu; simp at hu; subst hu; rfl
      case c4 => omega
      case c5 => unfold maxLen; omega
      case c6 => omega
      case c7 => exact HB4.out.size
      intro g5 cap5 w5 own5 gr5 at5 lt5
      have ls5 := LS4.out.push (by rw [← HTT.out]; exact Y2.out) own5 gr5
      have hb5 : Below W.heap.size W w5 := HB4.out.grown gr5 HB4.out.size (fun k hk => (ownLt LS4.out.own hk).1)
      have tx5 := HT1.out.keep hb5
      have v1 := tx5.c1
      have v2 := tx5.s
      have v3 := tx5.fs 1
      have hchW : Ch B [XS, XL] w w5 := HCH.out.trans (Ch.of_below hb5 (by rw [HSZ.out]; exact hB) _)
      have R1 := hid (hchW.setCell XS 1 (.int .u8 3) hXS (by simp))
      have LS5 := hid ls5
      have HB5 := hid hb5
      clear own5 gr5 at5 tx5 hchW ls5 hb5 Y1 Y2 LS4 HB4 t0'' pE'' rE'' q2''
      by_cases h64 : k + 1 ≤ 64
      · have h64' : decide ((64 : Int) < (k : Int) + 1) = false := by simp; omega
        clear v1 v2 v3 R1
        go_wp2_with fail
        refine ⟨⟨k + 1, _, by omega, by omega, by go_num, HB5.out, LS5.out⟩, by simp [intOf]; omega⟩
      · have h64' : decide ((64 : Int) < (k : Int) + 1) = true := by simp; omega
        clear LS5 HB5
        go_wp2_with fail
        go_ret2
        exact ⟨R1.out, .inl ⟨by omega, rfl⟩⟩
    · have hkn : k = g.nB := by omega
      have v1 := htx.c1
      have v2 := htx.s
      have v3 := htx.fs 1
      have v4 := htx.c2
      obtain ⟨lv, v5⟩ := htx.l
      have v6 := htx.fl 1
      have hne := htx.ne
      have hne1 : XS ≠ XL := hne.2.2
      have hne2 : X ≠ XL := hne.2.1
      have HKN := hid hkn
      have hXSl : XS < wr.heap.size := block_lt_of_cell v2
      have hXLl : XL < wr.heap.size := block_lt_of_cell v5
      clear hbel hls htx hkn hne
      go_wp2_with fail
      go_region
      all_goals
        go_wp2_with fail
        go_ret2
        have hchW : Ch B [XS, XL] w wr := HCH.out.trans (Ch.of_below HBE.out (by rw [HSZ.out]; exact hB) _)
        have hchW2 := ((hchW.setCell XS 1 (.int .u8 2) hXS (by simp)).setCell XL 1 (.slice va k vc) hXL (by simp)).drewN 1
        have h64 := hk64
        have hkn := HKN.out
        refine ⟨hchW2, .inr ⟨by omega, _, rfl, ?_⟩⟩
        have hW1 : XS < W.heap.size := block_lt_of_cell HT1.out.s
        obtain ⟨lw, hlw⟩ := HT1.out.l
        have hW2 : XL < W.heap.size := block_lt_of_cell hlw
        have ls9 := HLS.out.stores hW1 hW2 (.int .u8 2) (.slice va k vc) 1
        rcases Nat.eq_zero_or_pos k with h0 | h0
        · exact .inl ⟨by omega, ls9.nil h0⟩
        · refine .inr ?_
          rw [← hkn, ← HSZ.out]
          exact ls9.pieces h0 (by omega)
end Go.Proofs.Ybulkdamm
