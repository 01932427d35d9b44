import Derived.Test.YbulkdaisFmtLawT
namespace Go.Proofs.YbulkdaisFmt
open Go.RowKit
set_option linter.unusedVariables false

theorem hid {p : Prop} (h : p) : Hid p := h

set_option maxHeartbeats 1600000 in
set_option maxRecDepth 100000 in
theorem round_long (da sa ta : Option Addr) (n dc sn sc tn tc : Nat) (w : World) (hn : n ≤ maxLen) (hs : sn ≤ maxLen) (ht : tn ≤ maxLen) (h : 1024 < n ∨ 1024 < sn ∨ 1024 < tn) :
    Calls Ybaf.prog 3 #[.slice da n dc, .slice sa sn sc, .slice ta tn tc] w fun e w' => e = .returned (.bool true) ∧ Below w.heap.size w w' := by
  unfold maxLen at hn hs ht
  by_cases h1 : 1024 < n
  · go_enter Ybaf.func3, Ybaf.ntmps3
    go_wp2
    go_ret
    exact ⟨rfl, Below.refl _ _⟩
  · by_cases h2 : 1024 < sn
    · go_enter Ybaf.func3, Ybaf.ntmps3
      go_wp2
      go_ret
      exact ⟨rfl, Below.refl _ _⟩
    · have h3 : 1024 < tn := by omega
      go_enter Ybaf.func3, Ybaf.ntmps3
      go_wp2
      go_ret
      exact ⟨rfl, Below.refl _ _⟩

set_option maxHeartbeats 3200000 in
set_option maxRecDepth 100000 in
theorem round_any (da sa ta : Option Addr) (n dc sn sc tn tc : Nat) (ds ss ts : List Nat) (aU aE : Addr) (w : World) (hn : n ≤ 1024) (hs : sn ≤ 1024) (htn : tn ≤ 1024) (hd : ∀ j, ds.getD j 0 < 65536) (hq : ∀ j, ss.getD j 0 < 4294967296)
    (hq0 : ∀ j, sn ≤ j → ss.getD j 0 = 0) (hcd : Came w .u16 da n ds) (hcs : Came w .u32 sa sn ss) (htl : tn = ts.length) (htnil : ta = none → tn = 0 ∧ tc = 0) (hT : ∀ ad, ta = some ad → ∀ j u, (ts.map bv)[j]? = some u → w.cell? (ad.add j) = some u)
    (gU : w.cell? ⟨0, 0, none⟩ = some (.iface 62 (.pointer (some aU)))) (gE : w.cell? ⟨2, 0, none⟩ = some (.iface 62 (.pointer (some aE)))) :
    Calls Ybaf.prog 3 #[.slice da n dc, .slice sa sn sc, .slice ta tn tc] w fun e w' => e = .returned (.bool true) ∧ Below w.heap.size w w' := by
  obtain ⟨i0, hi, hz0, hz1, hz2⟩ := info_parts info5
  have HD : Hid (∀ j, ds.getD j 0 < 65536) := hd
  have HQ : Hid (∀ j, ss.getD j 0 < 4294967296) := hq
  have HQ0 : Hid (∀ j, sn ≤ j → ss.getD j 0 = 0) := hq0
  have HCD : Hid (Came w .u16 da n ds) := hcd
  have HCS : Hid (Came w .u32 sa sn ss) := hcs
  have HTL : Hid (tn = ts.length) := htl
  have HTN : Hid (ta = none → tn = 0 ∧ tc = 0) := htnil
  have HT : Hid (∀ ad, ta = some ad → ∀ j u, (ts.map bv)[j]? = some u → w.cell? (ad.add j) = some u) := hT
  clear hd hq hq0 hcd hcs htl htnil hT
  go_enter Ybaf.func3, Ybaf.ntmps3
  go_wp2_with fail
  refine (build_any da sa n dc sn sc ds ss w hn hs HD.out HQ.out HQ0.out HCD.out HCS.out).mono ?_
  rintro e w1 ⟨rfl, hblk, hbel1⟩
  go_wp2_with fail
  refine (encode_n n w.heap.size n (bldTo ds ss n) w1 (bldTo_length _ _ _) hn (bld_small ds ss n hn HD.out HQ.out) hblk).mono ?_
  rintro e w2 ⟨g, c, h, N, rfl, HN, hN1, hN2, hown, _, _, hbel2⟩
  have hbel : Below w.heap.size w w2 := hbel1.trans (hbel2.mono hbel1.size)
  have hBlt := lt_of_block hblk
  have hblk2 : w2.heap[w.heap.size]? = some (.cells (msgs (bldTo ds ss n)).toArray 38 (0, 0)) := by rw [hbel2.block _ hBlt]; exact hblk
  have hglt := (hown.lt g rfl)
  have hs2 := hbel.size
  have hs12 := hbel2.size
  clear hblk
  have hlenE : ((encAll (bldTo ds ss n)).map bv).length = N * 1 := by rw [List.length_map, Nat.mul_one]; exact HN.out.symm
  have hlenT : (ts.map bv).length = tn * 1 := by rw [List.length_map, Nat.mul_one]; exact HTL.out.symm
  have hone : ∀ (l : List Nat), ∀ u ∈ l.map bv, u.oneCell' = true := by
    intro l u hu
    obtain ⟨x, _, rfl⟩ := List.mem_map.1 hu
    rfl
  have HsrcE : Hid (∀ w3, w2.grownBy w3 Option.none → ∀ j u, ((encAll (bldTo ds ss n)).map bv)[j]? = some u → w3.cell? ((⟨g, 0, none⟩ : Addr).add j) = some u) := by
    intro w3 hg3
    exact (hown.kept hg3 (Or.inr (by simp [Value.ownBlock]))).cells rfl
  have HsrcT : Hid (∀ w4, Below w.heap.size w w4 → ∀ ad, ta = some ad → ∀ j u, (ts.map bv)[j]? = some u → w4.cell? (ad.add j) = some u) := by
    intro w4 hb ad had j u hu
    have h1 := HT.out ad had j u hu
    rw [hb.cell (block_lt_of_cell h1)]
    exact h1
  have HlE := hid hlenE
  have HlT := hid hlenT
  clear hlenE hlenT
  go_wp2_with (first | (at_make; refine wpList_make_own _ rfl _ _ 24 rfl w2.heap.size 5 i0 (.int .u8 0) 1 Ybaf.underlying24 hi hz0 hz1 _ _ _ (N + tn) rfl rfl (by omega) (by rw [hz2]; omega) (by unfold maxLen; omega) (Nat.le_refl _) ?_; intro w3 hown3 hg3) | (at_builtin; refine wpList_append_fits _ rfl (.tmp 44) (.tmp 45) 24 rfl w2.heap.size 5 i0 1 Ybaf.underlying24 hi hz1 w2.heap.size 0 (N + tn) _ rfl hown3 ⟨g, 0, none⟩ N c ((encAll (bldTo ds ss n)).map bv) rfl HlE.out (HsrcE.out _ hg3) (hone _) (by omega) ?_; intro w4 hown4 hg4; have hb4 : Below w.heap.size w w4 := (hbel.grown hg3 hs2 (by simp)).grown hg4 (Nat.le_trans hs2 hg3.size) (by simp; omega); simp only [Nat.zero_add, List.nil_append] at hown4) | (at_builtin; refine wpList_append_fits_any _ rfl (.tmp 47) (.tmp 48) 24 rfl w2.heap.size 5 i0 1 Ybaf.underlying24 hi hz1 w2.heap.size N (N + tn) _ rfl hown4 ta tn tc (ts.map bv) rfl HlT.out HTN.out (HsrcT.out _ hb4) (hone _) (by omega) ?_; intro w5 hown5 hg5))
  have hb5 : Below w.heap.size w w5 := hb4.grown hg5 hb4.size (by simp; omega)
  have hs5 := hb5.size
  have s3 := hg3.size
  have s4 := hg4.size
  have s5 := hg5.size
  have e45 : (encAll (bldTo ds ss n)).map bv ++ ts.map bv = (encAll (bldTo ds ss n) ++ ts).map bv := by simp
  rw [e45] at hown5
  have hC := mk_ctx (p := N + tn) hb5 hown5 (by omega) (by omega) gU gE
  rw [List.take_of_length_le (by rw [List.length_append, HN.out, HTL.out]; exact Nat.le_refl _)] at hC
  have hl := bldTo_length ds ss n
  have HAll : Hid (encAll (bldTo ds ss n) ++ ts = encV (bldTo ds ss n).length ++ (encL (bldTo ds ss n) ++ ts)) := by
    show _ = _
    simp [encAll]
  have HNp : Hid ((encV (bldTo ds ss n).length).length + (encL (bldTo ds ss n)).length = N) := by
    show _ = _
    rw [HN.out]; simp [encAll]
  have hblk5 : w5.heap[w.heap.size]? = some (.cells (msgs (bldTo ds ss n)).toArray 38 (0, 0)) := by
    rw [hg5.block _ (by omega) (by simp; omega), hg4.block _ (by omega) (by simp; omega), hg3.block _ (by omega) (by simp)]
    exact hblk2
  have HL := hid hl
  clear hg3 hg4 hg5 hown3 hown4 hown5 hown hb4 hblk2 e45 hone HsrcE HsrcT HlE HlT HTN HT HCD HCS hl
  refine (readNames_ok hC (bldTo ds ss n) ts (by rw [HL.out]; exact hn) (bld_small ds ss n hn HD.out HQ.out) (bld_inc ds ss n) HAll.out).mono ?_
  rintro e w6 ⟨v, rfl, hownv, hvn, hg6, hC6⟩
  rw [HNp.out] at hC6
  rw [HL.out] at hownv hvn
  have hblk6 : w6.heap[w.heap.size]? = some (.cells (msgs (bldTo ds ss n)).toArray 38 (0, 0)) := by
    rw [hg6.block _ (by simp; omega) (by simp; omega), Below.heap_alloc _ _ _ (by omega)]
    exact hblk5
  have hb6 : Below w.heap.size w w6 := (hb5.alloc hs5 _).grown hg6 (by simp; omega) (by simp; omega)
  have u1 := hC6.c1
  clear hC hg6 hblk5 hC6
  by_cases h0 : n = 0
  · have hv0 := hvn h0
    subst hv0
    subst h0
    have hnil : ∀ w : World, (binOp .neq 25 (.slice none 0 0) (.slice none 0 0)).run Ybaf.prog w = .ok (.bool false) w := fun w => by kernel_rfl
    go_wp2
    refine wp_loop_rounds 1 ?_
    rw [rounds_succ]
    go_wp2
    go_ret
    exact ⟨by simp, hb6⟩
  · obtain ⟨g7, c7, rfl, hg7, hg7'⟩ := hownv.form (by omega)
    have hne0 : ((n : Int) == 0) = false := by rw [beq_eq_false_iff_ne]; omega
    have HG : Hid (∀ k (hk : k < n), w6.cell? ⟨g7, k * 2, none⟩ = some (.int .i64 (snd ds k : Nat)) ∧ w6.cell? ⟨g7, k * 2 + 1, none⟩ = some (.int .i64 (ss.getD k 0 : Nat)) ∧
        w6.cell? ⟨w.heap.size, k * 2, none⟩ = some (.int .i64 (snd ds k : Nat)) ∧ w6.cell? ⟨w.heap.size, k * 2 + 1, none⟩ = some (.int .i64 (ss.getD k 0 : Nat))) := by
      intro k hk
      have h1 := msgs_get (bldTo ds ss n) k (by rw [HL.out]; exact hk)
      rw [bldTo_get ds ss n k hk] at h1
      have h2 := hownv.cells rfl (k * 2) _ h1.1
      have h3 := hownv.cells rfl (k * 2 + 1) _ h1.2
      rw [Addr.add_lit] at h2 h3
      refine ⟨by simpa using h2, by simpa using h3, ?_, ?_⟩
      · rw [cell_of_row _ _ _ _ _ _ hblk6]; simpa using h1.1
      · rw [cell_of_row _ _ _ _ _ _ hblk6]; simpa using h1.2
    clear hownv hblk6 hvn
    go_wp2
    go_loopw [15] (fun c wr => ∃ k q : Nat, k ≤ n ∧ c = .int .i64 k ∧ wr = w6.drewN q) (fun c _ => n - (intOf c).toNat)
    case atStart => exact ⟨0, 0, by omega, rfl, rfl⟩
    case round =>
      obtain ⟨k, q, hk, rfl, rfl⟩ := hrel
      by_cases hlt : k < n
      · obtain ⟨x, hx⟩ : ∃ x, snd ds k = x := ⟨_, rfl⟩
        obtain ⟨y, hy⟩ : ∃ y, ss.getD k 0 = y := ⟨_, rfl⟩
        obtain ⟨k1, k2, k3, k4⟩ := HG.out k hlt
        rw [hx] at k1 k3
        rw [hy] at k2 k4
        clear hx hy
        have b0 : (0 : Int) ≤ (k : Int) := by omega
        have b1 : (k : Int) < (n : Int) := by omega
        go_wp2
        go_quiet (fail)
        go_wp2
        exact ⟨⟨k + 1, _, by omega, by go_num, rfl⟩, by simp [intOf]; omega⟩
      · have hkn : k = n := by omega
        subst hkn
        go_wp2
        go_ret
        exact ⟨by simp, below_drewN hb6 _⟩
end Go.Proofs.YbulkdaisFmt
