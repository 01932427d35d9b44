import Derived.Test.YbulkdammReach
import Derived.Deep.RegionLaw
namespace Go.Proofs.Ybulkdamm
open Go.RowKit
set_option linter.unusedVariables false

theorem info27 : (Yba.prog.info? 27).map (fun i => (i.zero, i.size, i.bytes)) = some (some (.slice none 0 0), 1, 24) := by kernel_rfl
theorem run_make33 (n : Nat) (hn : n ≤ 1000000) (w : World) : (Instr.makeSlice 33 (.int .i64 n) (.int .i64 n)).run Yba.prog w = .ok (.slice (some ⟨w.heap.size, 0, none⟩) n n) (w.alloc (.cells (madeCells #[.slice none 0 0] n) 27)) := by
  obtain ⟨i0, hi, hz0, hz1, hz2⟩ := info_parts info27
  have := run_make (P := Yba.prog) w 33 27 i0 _ Yba.underlying33 hi hz0 .i64 .i64 n n (by omega) (by omega) (by rw [hz2]; omega) (by omega)
  rw [hz1, Int.toNat_natCast, Nat.mul_one] at this
  exact this
theorem make33 (W : World) : (Instr.makeSlice 33 (.int .i64 2) (.int .i64 2)).run Yba.prog W = .ok (.slice (some ⟨W.heap.size, 0, none⟩) 2 2) (W.alloc (.cells #[.slice none 0 0, .slice none 0 0] 27)) := by
  have := run_make33 2 (by omega) W
  rw [made66] at this
  exact this

def intsV (l : List Int) : List Value := l.map fun x => Value.int .i32 x
def preN (g : G) (a k : Nat) : Nat → List Int
  | 0 => []
  | j + 1 => preN g a k j ++ (if 0 ≤ g.nx (g.st a k + j) then [g.nx (g.st a k + j)] else [])
def usedN (g : G) (a : Nat) : Nat → List Int
  | 0 => []
  | k + 1 => usedN g a k ++ preN g a k (g.en a k - g.st a k)
theorem preN_len (g : G) (a k j : Nat) : (preN g a k j).length ≤ j := by
  induction j with
  | zero => simp [preN]
  | succ j ih => simp only [preN, List.length_append]; split <;> simp <;> omega

/-- The two rows of uses. -/
structure US (w wr : World) (U : Nat) (vs : Nat → Value) (ls : Nat → List Int) : Prop where
  below : Below U w wr
  cell : ∀ b, b < 2 → wr.cell? ⟨U, b, none⟩ = some (vs b)
  fr : ∀ o, wr.frozen? ⟨U, o, none⟩ = false
  own : ∀ b, b < 2 → wr.ownsRow (U + 1) 21 1 (vs b) (ls b).length (intsV (ls b))
  apart : ∀ b c k, b < 2 → c < 2 → b ≠ c → (vs b).ownBlock = some k → (vs c).ownBlock ≠ some k
theorem US.lt {w wr : World} {U : Nat} {vs : Nat → Value} {ls : Nat → List Int} (h : US w wr U vs ls) : U < wr.heap.size := block_lt_of_cell (h.cell 0 (by omega))
theorem US.quiet {w wr w' : World} {U : Nat} {vs : Nat → Value} {ls : Nat → List Int} (h : US w wr U vs ls) (hb : Below wr.heap.size wr w') : US w w' U vs ls :=
  ⟨h.below.trans (hb.mono (by have := h.lt; omega)), fun b hb' => keepW hb (h.cell b hb'), fun o => by rw [frozenB hb h.lt]; exact h.fr o, fun b hb' => owns_below (h.own b hb') hb, h.apart⟩
/-- One more in the row of a. -/
theorem US.push {w wr w2 : World} {U : Nat} {vs : Nat → Value} {ls : Nat → List Int} (h : US w wr U vs ls) (a : Nat) (ha : a < 2) (x : Int) (g2 cap2 : Nat) (hg : wr.grownBy w2 (vs a).ownBlock) (hat : (vs a).ownBlock = some g2 ∨ wr.heap.size ≤ g2)
    (ho : w2.ownsRow (U + 1) 21 1 (.slice (some ⟨g2, 0, none⟩) ((ls a).length + 1) cap2) ((ls a).length + 1) (intsV (ls a) ++ [.int .i32 x])) :
    US w (w2.setCell ⟨U, a, none⟩ (.slice (some ⟨g2, 0, none⟩) ((ls a).length + 1) cap2)) U (upN vs a (.slice (some ⟨g2, 0, none⟩) ((ls a).length + 1) cap2)) (upN ls a (ls a ++ [x])) := by
  have hlt := h.lt
  have hU : some U ≠ (vs a).ownBlock := fun e => by have := (ownLt (h.own a ha) e.symm).1; omega
  have hg2 := (ownLt ho (k := g2) rfl).1
  refine ⟨(h.below.grown hg (by omega) (fun k hk => by have := (ownLt (h.own a ha) hk).1; omega)).setCell (p := ⟨U, a, none⟩) (Nat.le_refl _) _, fun b hb => ?_, fun o => ?_, fun b hb => ?_, fun b c k hb hc hbc hk => ?_⟩
  · have hc := (hg.cell_far ⟨U, b, none⟩ hlt hU).trans (h.cell b hb)
    unfold upN
    by_cases e : b = a
    · subst e; rw [if_pos rfl]; exact setCell_self _ _ _ _ _ hc
    · rw [if_neg e, setCell_off _ _ _ _ _ e]; exact hc
  · rw [setCell_frozen, hg.frozen_far ⟨U, o, none⟩ hlt hU]; exact h.fr o
  · unfold upN
    by_cases e : b = a
    · subst e
      rw [if_pos rfl, if_pos rfl]
      have := owns_same ho fun k hk => heap_same_setCell w2 U b (.slice (some ⟨g2, 0, none⟩) ((ls b).length + 1) cap2) k (by have := (ownLt ho hk).1; omega)
      simpa [intsV] using this
    · rw [if_neg e, if_neg e]
      refine owns_same (h.own b hb) fun k hk => (heap_same_setCell _ _ _ _ k (by have := (ownLt (h.own b hb) hk).1; omega)).trans (hg.block k (ownLt (h.own b hb) hk).2 (fun e2 => h.apart a b k ha hb (fun e3 => e e3.symm) e2.symm hk))
  · unfold upN at hk ⊢
    by_cases e : b = a
    · subst e
      rw [if_pos rfl] at hk
      rw [if_neg (fun e2 => hbc e2.symm)]
      simp [Value.ownBlock] at hk
      subst hk
      rcases hat with e3 | e3
      · exact h.apart b c _ hb hc hbc e3
      · intro e4
        have := (ownLt (h.own c hc) e4).2
        omega
    · rw [if_neg e] at hk
      by_cases e2 : c = a
      · subst e2
        rw [if_pos rfl]
        simp only [Value.ownBlock]
        intro e4
        simp at e4
        subst e4
        rcases hat with e3 | e3
        · exact h.apart b c _ hb hc hbc hk e3
        · have := (ownLt (h.own b hb) hk).2
          omega
      · rw [if_neg e2]; exact h.apart b c k hb hc hbc hk

theorem US.push' {w wr w2 : World} {U : Nat} {vs : Nat → Value} {ls : Nat → List Int} {v : Value} {n : Nat} (h : US w wr U vs ls) (a : Nat) (ha : a < 2) (hv : vs a = v) (hn : (ls a).length = n) (x : Int) (g2 cap2 : Nat) (hg : wr.grownBy w2 v.ownBlock) (hat : v.ownBlock = some g2 ∨ g2 = wr.heap.size)
    (ho : w2.ownsRow (U + 1) 21 1 (.slice (some ⟨g2, 0, none⟩) (n + 1) cap2) (n + 1) (intsV (ls a) ++ [.int .i32 x])) :
    US w (w2.setCell ⟨U, a, none⟩ (.slice (some ⟨g2, 0, none⟩) (n + 1) cap2)) U (upN vs a (.slice (some ⟨g2, 0, none⟩) (n + 1) cap2)) (upN ls a (ls a ++ [x])) := by
  subst hv hn
  exact h.push a ha x g2 cap2 hg (hat.imp id (fun e => by omega)) ho

theorem slice_36 (g nS sc st en : Nat) (h1 : st ≤ en) (h2 : en ≤ sc) (h3 : st < sc) (W : World) : Sem.run Yba.prog (Instr.sliceAt 36 (.slice (some ⟨g, 0, none⟩) nS sc) (some (.int .i32 st)) (some (.int .i32 en)) none) W = .ok (.slice (some ⟨g, st * 3, none⟩) (en - st) (sc - st)) W := by
  have ht : Yba.prog.underlying 36 = some (.slice (Yba.prog.elem 36)) := by kernel_rfl
  have hsz : (sizeOf (Yba.prog.elem 36)).run Yba.prog W = .ok 3 W := by kernel_rfl
  rw [run_sliceAt_slice _ _ _ _ _ _ ht, run_slice_lh _ _ _ _ _ ht .i32 .i32 st en (by omega) (by omega) (by omega), hsz]
  have hne : sc ≠ st := by omega
  simp [sliced, Result.andThen, Addr.add, hne]
  intro h; omega

set_option maxHeartbeats 6400000 in
set_option maxRecDepth 100000 in
theorem uses_any (B : Nat) (g : G) (w : World) (hPV : PV B w g) (hB : B ≤ w.heap.size) (hnp : ∀ a, a < 2 → g.np a ≤ 2000) (hst : ∀ a k, a < 2 → k < g.np a → g.st a k ≤ g.en a k ∧ g.en a k ≤ g.st a k + 2 ∧ g.en a k < g.nS) (hnS : g.nS ≤ 10000) (hcs : g.nS ≤ g.sc) (hul : ∀ a k, a < 2 → k ≤ g.np a → (usedN g a k).length ≤ 4000) :
    Calls Yba.prog 9 #[.pointer (some ⟨g.p, 0, none⟩)] w fun e w' => ∃ vs, e = .returned (.slice (some ⟨w.heap.size, 0, none⟩) 2 2) ∧ US w w' w.heap.size vs (fun b => usedN g b (g.np b)) := by
  have hmk := make33
  obtain ⟨i1, hi1, hz10, hz11, hz12⟩ := info_parts info21
  have HI := hid (And.intro hi1 (And.intro hz10 (And.intro hz11 hz12)))
  have HPV := hid hPV
  have HB := hid hB
  have HST := hid hst
  have HNP := hid hnp
  have HUL := hid hul
  have k1 := hPV.prods
  have hpl : g.p < w.heap.size := by have := hPV.bp; omega
  clear hPV hB hst hnp hul hi1 hz10 hz11 hz12
  go_enter Yba.func9, Yba.ntmps9
  go_wp2_with fail
  clear hmk k1
  obtain ⟨U, hU⟩ : ∃ U, U = w.heap.size := ⟨_, rfl⟩
  rw [← hU]
  have us0 : US w (w.alloc (.cells #[.slice none 0 0, .slice none 0 0] 27)) U (fun _ => .slice none 0 0) (fun _ => []) := by
    have hb := Deep.blk_alloc_new w (.cells #[.slice none 0 0, .slice none 0 0] 27)
    rw [← hU] at hb
    exact ⟨(Below.refl _ w).alloc (by omega) _, two (cell_of_row _ _ _ _ _ _ hb) (cell_of_row _ _ _ _ _ _ hb), fun o => frozen_of_row _ _ _ _ _ hb, fun b hb => World.ownsRow_nil _ _ _ _, fun b c k hb hc hbc hk => by simp [Value.ownBlock] at hk⟩
  have HU := hid hU
  clear hU
  go_loopw [21] (fun i wr => ∃ (a : Nat) (vs : Nat → Value) (ls : Nat → List Int), a ≤ 2 ∧ i = .int .i64 a ∧ US w wr U vs ls ∧ ∀ b, b < 2 → ls b = if b < a then usedN g b (g.np b) else []) (fun i _ => 2 - (intOf i).toNat)
  case atStart => exact ⟨0, _, _, by omega, rfl, us0, fun b hb => rfl⟩
  case round =>
    clear us0
    obtain ⟨a, vs, ls, ha, rfl, hus, hls⟩ := hrel
    have HUS := hid hus
    have HLS := hid hls
    by_cases ha2 : a < 2
    · have pv := HPV.out.below (hus.below.mono (by rw [HU.out]; exact HB.out))
      have r1 := pv.rowP a ha2
      obtain ⟨A, hA⟩ : ∃ A, A = g.pA a := ⟨_, rfl⟩
      rw [← hA] at r1
      have HAA := hid hA
      have b1 : (a : Int) < 2 := by omega
      have hPl : g.PB < U := by rw [HU.out]; exact Nat.lt_of_lt_of_le pv.bP HB.out
      clear hus hls pv hA
      go_wp2_with fail
      clear r1
      go_loopw [28] (fun i wr => ∃ (k : Nat) (vs : Nat → Value) (ls : Nat → List Int), k ≤ g.np a ∧ i = .int .i64 k ∧ US w wr U vs ls ∧ ls a = usedN g a k ∧ ∀ b, b < 2 → b ≠ a → ls b = if b < a then usedN g b (g.np b) else []) (fun i _ => g.np a - (intOf i).toNat)
      case atStart => exact ⟨0, _, _, by omega, rfl, HUS.out, by rw [HLS.out a ha2, if_neg (by omega)]; rfl, fun b hb _ => HLS.out b hb⟩
      case round =>
        clear HUS HLS
        obtain ⟨k, vs, ls, hk, rfl, hus, hla, hls⟩ := hrel
        have HUS := hid hus
        have HLS := hid hls
        have HLA := hid hla
        have hnpa := HNP.out a ha2
        by_cases hlt : k < g.np a
        · have pv := HPV.out.below (hus.below.mono (by rw [HU.out]; exact HB.out))
          obtain ⟨e1, _, e3⟩ := pv.atP a k ha2 hlt
          obtain ⟨f1, _, f3⟩ := pv.atE a k ha2 hlt
          have rE := pv.rowE a ha2
          rw [f1] at rE
          have e1' := HAA.out.trans e1
          subst e1'
          have b2 : (k : Int) < (g.np a : Int) := by omega
          have pS := pv.slots
          have pE := pv.ends
          obtain ⟨s1, s2, s3⟩ := HST.out a k ha2 hlt
          have hsl := slice_36 g.SB g.nS g.sc (g.st a k) (g.en a k) s1 (by omega) (by omega)
          obtain ⟨d, hd⟩ : ∃ d, d = g.en a k - g.st a k := ⟨_, rfl⟩
          rw [← hd] at hsl
          have HD := hid hd
          have hd2 : d ≤ 2 := by omega
          have hsd : g.st a k + d < g.nS := by omega
          clear hus hls pv hla e1 f1 hd
          go_wp2_with fail
          go_quiet (fail)
          go_wp2_with fail
          clear hsl rE pE pS e3 f3
          go_loopw [50] (fun i wr => ∃ (j : Nat) (vs : Nat → Value) (ls : Nat → List Int), j ≤ d ∧ i = .int .i64 j ∧ US w wr U vs ls ∧ ls a = usedN g a k ++ preN g a k j ∧ ∀ b, b < 2 → b ≠ a → ls b = if b < a then usedN g b (g.np b) else []) (fun i _ => d - (intOf i).toNat)
          case atStart => exact ⟨0, _, _, by omega, rfl, HUS.out.quiet (below_drewN (Below.refl _ _) _), by rw [HLA.out]; simp [preN], HLS.out⟩
          case round =>
            clear HUS HLS HLA
            obtain ⟨j, vs, ls, hj, rfl, hus, hla, hls⟩ := hrel
            have HUS := hid hus
            have HLS := hid hls
            have HLA := hid hla
            have hUl := hus.lt
            by_cases hjd : j < d
            · have pv := HPV.out.below (hus.below.mono (by rw [HU.out]; exact HB.out))
              obtain ⟨c1, c2, c3⟩ := pv.slot (g.st a k + j) (by omega)
              rw [show (g.st a k + j) * 3 = g.st a k * 3 + j * 3 by omega] at c1 c2 c3
              have hSl : g.SB < U := by rw [HU.out]; exact Nat.lt_of_lt_of_le pv.bS HB.out
              have b3 : (j : Int) < (d : Int) := by omega
              by_cases hnx : 0 ≤ g.nx (g.st a k + j)
              · have v1 := hus.cell a ha2
                have v2 := hus.fr a
                have hlen : (ls a).length ≤ 4002 := by
                  rw [hla, List.length_append]
                  have := HUL.out a k ha2 (by omega)
                  have := preN_len g a k j
                  omega
                obtain ⟨va, vc, hvs, hva⟩ := owns_form (hus.own a ha2)
                have HVS := hid hvs
                rw [hvs] at v1
                have hus2 : ∀ q, US w (((wr.alloc (.cells #[.int .i32 (g.nx (g.st a k + j)), .int .i32 (g.lhs (g.st a k + j)), .int .i32 (g.alt (g.st a k + j))] 42)).alloc (.cells #[.int .i32 (g.nx (g.st a k + j))] 21)).drewN q) U vs ls := fun q => hus.quiet (below_drewN (((Below.refl _ wr).alloc (Nat.le_refl _) _).alloc (by simp) _) q)
                generalize hLN : (ls a).length = LN at *
                have HOA : Hid (∀ q, (((wr.alloc (.cells #[.int .i32 (g.nx (g.st a k + j)), .int .i32 (g.lhs (g.st a k + j)), .int .i32 (g.alt (g.st a k + j))] 42)).alloc (.cells #[.int .i32 (g.nx (g.st a k + j))] 21)).drewN q).ownsRow (U + 1) 21 1 (.slice va LN vc) LN (intsV (ls a))) := fun q => by
                  have := (hus2 q).own a ha2
                  rw [hvs, hLN] at this
                  exact this
                have HNW : Hid (∀ q, ∀ i u, [Value.int .i32 (g.nx (g.st a k + j))][i]? = some u → (((wr.alloc (.cells #[.int .i32 (g.nx (g.st a k + j)), .int .i32 (g.lhs (g.st a k + j)), .int .i32 (g.alt (g.st a k + j))] 42)).alloc (.cells #[.int .i32 (g.nx (g.st a k + j))] 21)).drewN q).cell? ((⟨wr.heap.size + 1, 0, none⟩ : Addr).add i) = some u) := fun q => World.news_of_block (t := 21) (fr := (0, 0)) (cs := #[.int .i32 (g.nx (g.st a k + j))]) (by have := Deep.blk_alloc_new (wr.alloc (.cells #[.int .i32 (g.nx (g.st a k + j)), .int .i32 (g.lhs (g.st a k + j)), .int .i32 (g.alt (g.st a k + j))] 42)) (.cells #[.int .i32 (g.nx (g.st a k + j))] 21); simpa using this)
                have H1C : Hid (∀ u ∈ [Value.int .i32 (g.nx (g.st a k + j))], u.oneCell' = true) := fun u hu => by simp at hu; subst hu; rfl
                have HU2 := hid hus2
                have HNE : Hid (some U ≠ (Value.slice va LN vc).ownBlock) := fun e => by have := (ownLt (hus.own a ha2) (by rw [hvs]; exact e.symm)).1; omega
                have HLN := hid hLN
                have HNX := hid hnx
                have hnx2 : decide (0 ≤ g.nx (g.st a k + j)) = true := by simpa using hnx
                clear hus hla hls pv hus2 hvs hLN hnx
                generalize hX : g.nx (g.st a k + j) = X at *
                have HX := hid hX
                clear hX
                generalize g.lhs (g.st a k + j) = Y at *
                generalize g.alt (g.st a k + j) = Z at *
                go_wp2_with fail
                go_region_law (first | (refine step_append_lies _ rfl (.tmp 62) (.tmp 65) 27 rfl (U + 1) 21 i1 _ 1 4 Yba.underlying27 HI.out.1 HI.out.2.1 HI.out.2.2.1 HI.out.2.2.2 rfl (by decide) (.slice va LN vc) LN (intsV (ls a)) (by simp [Act.eval]) (HOA.out _) ⟨wr.heap.size + 1, 0, none⟩ 1 1 [Value.int .i32 X] (by simp [Act.eval]) rfl (HNW.out _) H1C.out (by decide) (by unfold maxLen; omega) (by omega) (by simp; omega) _ rfl ?_; intro g2 cap2 w3 ho hg hat hlt3; have q0 := hg.cell_far ⟨U, a, none⟩ (by simp; omega) HNE.out; have q1 := hg.frozen_far ⟨U, a, none⟩ (by simp; omega) HNE.out; have HG3 := hid hg; have HO3 := hid ho; have HA3 := hid hat; clear hg ho hat))
                all_goals
                  have us3 := (HU2.out _).push' a ha2 HVS.out HLN.out X g2 cap2 HG3.out HA3.out HO3.out
                  have P1 : Hid (∃ (vs : Nat → Value) (ls : Nat → List Int), US w (w3.setCell ⟨U, a, none⟩ (.slice (some ⟨g2, 0, none⟩) (LN + 1) cap2)) U vs ls ∧ ls a = usedN g a k ++ preN g a k (j + 1) ∧ ∀ b, b < 2 → b ≠ a → ls b = if b < a then usedN g b (g.np b) else []) := by
                    refine ⟨_, _, us3, ?_, fun b hb hba => ?_⟩
                    · unfold upN
                      rw [if_pos rfl, HLA.out, preN, HX.out, if_pos HNX.out, List.append_assoc]
                    · unfold upN
                      rw [if_neg hba]; exact HLS.out b hb hba
                  clear us3 HG3 HO3 HA3 q0 q1 HOA HNW H1C HU2 HVS HLN HNE HLA HLS HUS
                  go_wp2_with fail
                  obtain ⟨vs', ls', p1, p2, p3⟩ := P1.out
                  refine ⟨⟨j + 1, vs', ls', by omega, by go_num, p1, p2, p3⟩, by simp [intOf]; omega⟩
              · have us2 : US w (wr.alloc (.cells #[.int .i32 (g.nx (g.st a k + j)), .int .i32 (g.lhs (g.st a k + j)), .int .i32 (g.alt (g.st a k + j))] 42)) U vs ls := hus.quiet ((Below.refl _ wr).alloc (Nat.le_refl _) _)
                have hl2 : ls a = usedN g a k ++ preN g a k (j + 1) := by rw [hla, preN, if_neg hnx, List.append_nil]
                have P1 := hid (And.intro us2 hl2)
                have hnx2 : decide (0 ≤ g.nx (g.st a k + j)) = false := by simpa using hnx
                clear hus hla hls pv us2 hl2 hnx
                generalize g.nx (g.st a k + j) = X at *
                generalize g.lhs (g.st a k + j) = Y at *
                generalize g.alt (g.st a k + j) = Z at *
                go_wp2
                refine ⟨⟨j + 1, vs, ls, by omega, by go_num, P1.out.1, P1.out.2, HLS.out⟩, by simp [intOf]; omega⟩
            · have hjd' : j = d := by omega
              subst hjd'
              clear hus hla hls
              go_wp2
              refine ⟨⟨k + 1, vs, ls, by omega, by go_num, HUS.out, by rw [HLA.out, usedN, HD.out], HLS.out⟩, by simp [intOf]; omega⟩
        · have hka : k = g.np a := by omega
          subst hka
          clear hus hls hla
          go_wp2
          refine ⟨⟨a + 1, vs, ls, by omega, by go_num, HUS.out, fun b hb => ?_⟩, by simp [intOf]; omega⟩
          by_cases e : b = a
          · subst e; rw [HLA.out, if_pos (by omega)]
          · rw [HLS.out b hb e]
            by_cases e2 : b < a
            · rw [if_pos e2, if_pos (by omega)]
            · rw [if_neg e2, if_neg (by omega)]
    · have ha' : a = 2 := by omega
      subst ha'
      clear hus hls
      go_wp2
      go_ret
      rw [← HU.out]
      refine ⟨vs, rfl, HUS.out.below, HUS.out.cell, HUS.out.fr, fun b hb => ?_, HUS.out.apart⟩
      have := HUS.out.own b hb
      rw [HLS.out b hb, if_pos hb] at this
      exact this
end Go.Proofs.Ybulkdamm
