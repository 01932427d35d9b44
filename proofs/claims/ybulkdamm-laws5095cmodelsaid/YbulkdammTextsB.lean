import Derived.Test.YbulkdammTexts
namespace Go.Proofs.Ybulkdamm
open Go.RowKit
set_option linter.unusedVariables false

/-- The lister of texts: where its parts lie. -/
structure TX (w : World) (p X XS XL : Nat) (s1 : Int) : Prop where
  c0 : w.cell? ⟨X, 0, none⟩ = some (.pointer (some ⟨p, 0, none⟩))
  c1 : w.cell? ⟨X, 1, none⟩ = some (.slice (some ⟨XS, 0, none⟩) 2 2)
  c2 : w.cell? ⟨X, 2, none⟩ = some (.slice (some ⟨XL, 0, none⟩) 2 2)
  s : w.cell? ⟨XS, 1, none⟩ = some (.int .u8 s1)
  l : ∃ v, w.cell? ⟨XL, 1, none⟩ = some v
  fs : ∀ o, w.frozen? ⟨XS, o, none⟩ = false
  fl : ∀ o, w.frozen? ⟨XL, o, none⟩ = false
  ne : X ≠ XS ∧ X ≠ XL ∧ XS ≠ XL
theorem TX.keep {w w' : World} {p X XS XL : Nat} {s1 : Int} (h : TX w p X XS XL s1) (hb : Below w.heap.size w w') : TX w' p X XS XL s1 := by
  obtain ⟨v, hv⟩ := h.l
  exact ⟨keepW hb h.c0, keepW hb h.c1, keepW hb h.c2, keepW hb h.s, ⟨v, keepW hb hv⟩, fun o => by rw [frozenB hb (p := ⟨XS, o, none⟩) (show XS < _ from block_lt_of_cell h.s)]; exact h.fs o, fun o => by rw [frozenB hb (p := ⟨XL, o, none⟩) (show XL < _ from block_lt_of_cell hv)]; exact h.fl o, h.ne⟩
theorem TX.set {w : World} {p X XS XL : Nat} {s1 : Int} (h : TX w p X XS XL s1) (x : Int) : TX (w.setCell ⟨XS, 1, none⟩ (.int .u8 x)) p X XS XL x := by
  obtain ⟨v, hv⟩ := h.l
  obtain ⟨n1, n2, n3⟩ := h.ne
  exact ⟨by rw [cell_far _ _ _ _ _ (by simpa using n1)]; exact h.c0, by rw [cell_far _ _ _ _ _ (by simpa using n1)]; exact h.c1, by rw [cell_far _ _ _ _ _ (by simpa using n1)]; exact h.c2, setCell_self _ _ _ _ _ h.s, ⟨v, by rw [cell_far _ _ _ _ _ (by simpa using n3.symm)]; exact hv⟩, fun o => by rw [setCell_frozen]; exact h.fs o, fun o => by rw [setCell_frozen]; exact h.fl o, h.ne⟩

set_option maxHeartbeats 6400000 in
set_option maxRecDepth 100000 in
theorem texts_rec (B X XS XL : Nat) (g : G) (w : World) (hPV : PV B w g) (hSh : Shape g) (hT : TX w g.p X XS XL 0) (hB : B ≤ w.heap.size) (hXS : B ≤ XS) (hXL : B ≤ XL) (hrc : g.rc = true) (hnB : 0 < g.nB) :
    Calls Yba.prog 7 #[.pointer (some ⟨X, 0, none⟩), .int .i32 1, .int .i64 0] w fun e w' => e = .returned (.tuple #[.slice none 0 0, .bool false]) ∧ Ch B [XS, XL] w w' := by
  obtain ⟨i2, hi2, hz20, hz21, hz22⟩ := info_parts info27
  have HI2 := hid (And.intro hi2 (And.intro hz20 (And.intro hz21 hz22)))
  have ht1 := hT.set 1
  have pv1 := hPV.below ((Below.refl B w).setCell (p := ⟨XS, 1, none⟩) hXS (.int .u8 1))
  have hch1 : Ch B [XS, XL] w (w.setCell ⟨XS, 1, none⟩ (.int .u8 1)) := (Ch.refl B _ w).setCell XS 1 _ hXS (by simp)
  have hnp : g.np 1 = g.nB + 1 := by rw [hSh.n1, if_pos ⟨hrc, hnB⟩]
  have c0 := hT.c0
  have c1 := hT.c1
  have cs := hT.s
  have cf := hT.fs 1
  have n1 := hT.ne
  have nXS : X ≠ XS := n1.1
  have HT1 := hid ht1
  have HPV1 := hid pv1
  have HCH := hid hch1
  have HSh := hid hSh
  have HNP := hid hnp
  have hpl : g.p < B := hPV.bp
  have hpne : g.p ≠ XS := by omega
  have k1 := hPV.prods
  have r1 := hPV.rowP 1 (by omega)
  have hPl : g.PB ≠ XS := by have := hPV.bP; omega
  have hnb : g.np 1 ≤ 2000 := by have := hSh.bB; omega
  rw [(hPV.atP 1 0 (by omega) (by omega)).1] at r1
  clear hi2 hz20 hz21 hz22 hPV hSh hT ht1 pv1 hch1 hnp n1
  go_enter Yba.func7, Yba.ntmps7
  go_wp2_with fail
  clear c0 c1 cs cf k1 r1
  generalize (w.setCell ⟨XS, 1, none⟩ (.int .u8 1)) = W at *
  obtain ⟨p1, _, p2⟩ := HPV1.out.atP 1 0 (by omega) (by have := HNP.out; omega)
  obtain ⟨q1, _, q2⟩ := HPV1.out.atE 1 0 (by omega) (by have := HNP.out; omega)
  have rE := HPV1.out.rowE 1 (by omega)
  rw [q1] at rE
  obtain ⟨s1, s2, s3⟩ := HSh.out.b 0 hnB
  rw [if_pos hrc] at s3
  obtain ⟨s4, s5, s6⟩ := s3
  rw [s5] at q2
  have u1 := (HPV1.out.slot (g.st 1 0) (by omega)).1
  have u2 := (HPV1.out.slot (g.st 1 0 + 1) (by omega)).1
  rw [s2] at u1
  rw [s6] at u2
  have pS := HPV1.out.slots
  have pE := HPV1.out.ends
  have t0 := HT1.out.c0
  have hbS := HSh.out.bS
  have hbZ := HSh.out.bZ
  have hW := hid (Below.refl W.heap.size W)
  have hlt : g.p < W.heap.size ∧ g.SB < W.heap.size ∧ g.EB < W.heap.size ∧ X < W.heap.size ∧ g.ea 1 < W.heap.size := ⟨block_lt_of_cell pS, block_lt_of_cell u1, block_lt_of_cell rE, block_lt_of_cell t0, block_lt_of_cell q2⟩
  obtain ⟨l1, l2, l3, l4, l5⟩ := hlt
  have hnp0 : (0 : Int) < (g.np 1 : Int) := by have := HNP.out; omega
  have hs1 : ((g.st 1 0 : Nat) : Int) < 10000 := by omega
  have hs2 : ((g.st 1 0 : Nat) : Int) < (g.nS : Int) := by omega
  have hs3 : ((g.st 1 0 : Nat) : Int) + 1 < (g.nS : Int) := by omega
  rw [show g.nZ + 0 = g.nZ by omega] at u1
  clear p1 q1 s1 s2 s4 s5 s6
  generalize hst : g.st 1 0 = st at *
  generalize g.nZ = t at *
  refine wp_loop_rounds 1 ?_
  rw [rounds_succ]
  go_wp2_with fail
  refine wp_loop_rounds 3 ?_
  rw [rounds_succ]
  go_wp2_with fail
  refine (texts_term _ t 1 _ (by omega)).mono ?_
  rintro r w2 ⟨rfl, rfl⟩
  have hb1 : Below W.heap.size W (((W.alloc (.cells #[.slice none 0 0] 27)).alloc (.cells #[.int .i32 (t : Int)] 21)).alloc (.cells #[.slice (some ⟨(W.alloc (.cells #[.slice none 0 0] 27)).heap.size, 0, none⟩) 1 1] 27)) := (((Below.refl _ W).alloc (Nat.le_refl _) _).alloc (by simp) _).alloc (by simp; omega) _
  have z0 : (((W.alloc (.cells #[.slice none 0 0] 27)).alloc (.cells #[.int .i32 (t : Int)] 21)).alloc (.cells #[.slice (some ⟨(W.alloc (.cells #[.slice none 0 0] 27)).heap.size, 0, none⟩) 1 1] 27)).heap[W.heap.size]? = some (.cells #[.slice none 0 0] 27) := by (repeat (first | (apply blk_new; simp; done) | apply blk_past))
  have z1 : (((W.alloc (.cells #[.slice none 0 0] 27)).alloc (.cells #[.int .i32 (t : Int)] 21)).alloc (.cells #[.slice (some ⟨(W.alloc (.cells #[.slice none 0 0] 27)).heap.size, 0, none⟩) 1 1] 27)).heap[W.heap.size + 1]? = some (.cells #[.int .i32 (t : Int)] 21) := by (repeat (first | (apply blk_new; simp; done) | apply blk_past))
  have z2 : (((W.alloc (.cells #[.slice none 0 0] 27)).alloc (.cells #[.int .i32 (t : Int)] 21)).alloc (.cells #[.slice (some ⟨(W.alloc (.cells #[.slice none 0 0] 27)).heap.size, 0, none⟩) 1 1] 27)).heap[W.heap.size + 2]? = some (.cells #[.slice (some ⟨W.heap.size + 1, 0, none⟩) 1 1] 27) := by
    have : (((W.alloc (.cells #[.slice none 0 0] 27)).alloc (.cells #[.int .i32 (t : Int)] 21)).alloc (.cells #[.slice (some ⟨(W.alloc (.cells #[.slice none 0 0] 27)).heap.size, 0, none⟩) 1 1] 27)).heap[W.heap.size + 2]? = some (.cells #[.slice (some ⟨(W.alloc (.cells #[.slice none 0 0] 27)).heap.size, 0, none⟩) 1 1] 27) := by (repeat (first | (apply blk_new; simp; done) | apply blk_past))
    simpa using this
  have hsz : (W.alloc (.cells #[.slice none 0 0] 27)).heap.size = W.heap.size + 1 := by simp
  rw [hsz] at hb1 z0 z1 z2 ⊢
  have HB1 := hid hb1
  have HJ := hid (joined_one W.heap.size (W.heap.size + 1 + 1) (W.heap.size + 1) 1 (t : Int) _ (cell_of_row _ _ _ _ _ _ z0) (cell_of_row _ _ _ _ _ _ z2) (cell_of_row _ _ _ _ _ _ z1))
  clear hb1 z0 z1 z2 hsz
  generalize (((W.alloc (.cells #[.slice none 0 0] 27)).alloc (.cells #[.int .i32 (t : Int)] 21)).alloc (.cells #[.slice (some ⟨W.heap.size + 1, 0, none⟩) 1 1] 27)) = W2 at *
  go_wp2_with fail
  refine HJ.out.mono ?_
  rintro r w3 ⟨N, M, cN, cM, rfl, hb3, y1, y2⟩
  have hb4 := HB1.out.trans (hb3.mono HB1.out.size)
  have HB4 := hid hb4
  have k : ∀ {p : Addr} {u : Value}, W.cell? p = some u → w3.cell? p = some u := fun hu => keepW hb4 hu
  have t0' := k t0
  have pS' := k pS
  have pE' := k pE
  have rE' := k rE
  have q2' := k q2
  have u2' := k u2
  have tx := HT1.out.keep hb4
  have Y1 := hid y1
  have hNl : N < w3.heap.size := block_lt_of_cell y1
  clear HJ hb3 y1 y2 hb4 k t0 pS pE rE q2 u1 u2 HB1
  have HTX := hid tx
  clear tx
  go_wp2_with fail
  rw [rounds_succ]
  go_wp2_with fail
  refine (texts_busy X XS 1 _ HTX.out.c1 HTX.out.s).mono ?_
  rintro r w4 ⟨rfl, rfl⟩
  clear t0' pS' pE' rE' q2' u2'
  go_wp2_with fail
  rw [rounds_succ]
  go_wp2_with (first | (at_builtin; refine wpList_append_lies _ rfl (.tmp 119) (.tmp 120) 33 rfl w4.heap.size 27 i2 (.slice none 0 0) 1 24 Yba.underlying33 HI2.out.1 HI2.out.2.1 HI2.out.2.2.1 HI2.out.2.2.2 rfl (by decide) (.slice none 0 0) 0 [] ?c0 (World.ownsRow_nil _ _ _ _) ⟨N, 0, none⟩ 1 cN [.slice (some ⟨M, 0, none⟩) 1 cM] ?c8 ?c1 ?c2 ?c3 ?c4 ?c5 ?c6 ?c7 _ rfl ?_))
  case c0 => rfl
  case c8 => rfl
  case c1 => rfl
  case c2 =>
    intro j u hu
    match j, hu with
    | 0, hu => simp at hu; subst hu; exact Y1.out
    | j + 1, hu => simp at hu
  case c3 => intro u hu; simp at hu; subst hu; rfl
  case c4 => omega
  case c5 => unfold maxLen; omega
  case c6 => omega
  case c7 => exact Nat.le_refl _
  intro g5 cap5 w5 own5 gr5 at5 lt5
  have hb5 : Below w4.heap.size w4 w5 := (Below.refl _ w4).grown gr5 (Nat.le_refl _) (fun k hk => by simp [Value.ownBlock] at hk)
  have tx5 := HTX.out.keep hb5
  have v1 := tx5.c1
  have v2 := tx5.s
  have v3 := tx5.fs 1
  have hb6 := HB4.out.trans (hb5.mono HB4.out.size)
  have hchW : Ch B [XS, XL] w w5 := HCH.out.trans (Ch.of_below hb6 (by have := HCH.out.size; omega) _)
  have R1 := hid (hchW.setCell XS 1 (.int .u8 3) hXS (by simp))
  clear own5 gr5 at5 hb5 tx5 hb6 hchW HTX HB4 Y1
  go_wp2_with fail
  go_ret2
  exact ⟨rfl, R1.out⟩
end Go.Proofs.Ybulkdamm
