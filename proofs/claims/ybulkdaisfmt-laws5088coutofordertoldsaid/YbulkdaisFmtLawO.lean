import Derived.Test.YbulkdaisFmtLawT
import Derived.Test.YbulkdaisFmtOrder
import Derived.Stop.LaidErr
namespace Go.Proofs.YbulkdaisFmt
open Go.RowKit
set_option linter.unusedVariables false

theorem run_neq_iface_ptr_other {P : Program} (w : World) {ti tp te : TypeId} {ms : Array (String × TypeId)} {i j : TypeInfo} {a b : Addr} {ca cb : Array Value} {ta tb : TypeId}
    (hi : P.underlying ti = some (.interface ms)) (hp : P.underlying tp = some (.pointer te)) (hinfo : P.info? tp = some i) (hcomp : i.comparable = true) (hte : P.info? te = some j) (hsz : j.size ≠ 0)
    (hne : a ≠ b) (ha : w.heap[a.block]? = some (.cells ca ta (0, 0))) (hb : w.heap[b.block]? = some (.cells cb tb (0, 0))) :
    (binOp .neq ti (.iface tp (.pointer (some a))) (.iface tp (.pointer (some b)))).run P w = .ok (.bool true) w := by
  simp only [binOp]
  simp [Op.equal, Op.maxDepth, run_equalIn_iface_ptr_other w 9998 hi hp hinfo hcomp hte hsz hne ha hb]

theorem msgs_set (A : List (Nat × Nat)) (k x y : Nat) (hk : k < A.length) (hy : (A[k]'hk).2 = y) : (msgs A).toArray.setIfInBounds (k * 2) (.int .i64 x) = (msgs (A.set k (x, y))).toArray := by
  rw [List.setIfInBounds_toArray]
  congr 1
  induction A generalizing k with
  | nil => simp at hk
  | cons p r ih =>
    cases k with
    | zero => simp at hy; simp [msgs, hy]
    | succ k =>
      rw [show (k + 1) * 2 = k * 2 + 2 from by omega]
      simp only [msgs, List.set_cons_succ]
      rw [ih k (by simpa using hk) (by simpa using hy)]

/-- The list whose (1 + m)-th sender was turned. -/
def bad (ds ss : List Nat) (n m x : Nat) : List (Nat × Nat) := (bldTo ds ss n).set (1 + m) (x, ss.getD (1 + m) 0)

theorem bad_length (ds ss : List Nat) (n m x : Nat) : (bad ds ss n m x).length = n := by simp [bad, bldTo_length]
theorem bad_take (ds ss : List Nat) (n m x : Nat) : (bad ds ss n m x).take (1 + m) = (bldTo ds ss n).take (1 + m) := by
  unfold bad
  rw [List.take_set_of_le (Nat.le_refl _)]
theorem bad_split (ds ss : List Nat) (n m x : Nat) (h : m + 1 < n) : bad ds ss n m x = (bad ds ss n m x).take (1 + m) ++ ((x, ss.getD (1 + m) 0) :: (bad ds ss n m x).drop (1 + m + 1)) := by
  have hl := bad_length ds ss n m x
  conv => lhs; rw [← List.take_append_drop (1 + m) (bad ds ss n m x)]
  congr 1
  rw [List.drop_eq_getElem_cons (by omega)]
  congr 1
  simp [bad]
theorem bad_small (ds ss : List Nat) (n m x : Nat) (hn : n ≤ 1024) (hd : ∀ j, ds.getD j 0 < 65536) (hq : ∀ j, ss.getD j 0 < 4294967296) (hx : x < 34359738368) : ∀ p ∈ bad ds ss n m x, p.1 < 34359738368 ∧ p.2 < 34359738368 := by
  intro p hp
  rcases List.mem_or_eq_of_mem_set hp with h | h
  · exact bld_small ds ss n hn hd hq p h
  · subst h
    have := hq (1 + m)
    exact ⟨hx, by show ss.getD (1 + m) 0 < _; omega⟩

set_option maxHeartbeats 1600000 in
set_option maxRecDepth 100000 in
theorem ooo_long (da sa : Option Addr) (n dc sn sc : Nat) (K Drop : Nat) (w : World) (hn : n ≤ maxLen) (hs : sn ≤ maxLen) (h : 1024 < n ∨ 1024 < sn ∨ n < 2) :
    Calls Ybaf.prog 5 #[.slice da n dc, .slice sa sn sc, .int .u64 K, .int .u32 Drop] w fun e w' => e = .returned (.bool true) ∧ Below w.heap.size w w' := by
  unfold maxLen at hn hs
  by_cases h1 : 1024 < n
  · go_enter Ybaf.func5, Ybaf.ntmps5
    go_wp2
    go_ret
    exact ⟨rfl, Below.refl _ _⟩
  · by_cases h2 : 1024 < sn
    · go_enter Ybaf.func5, Ybaf.ntmps5
      go_wp2
      go_ret
      exact ⟨rfl, Below.refl _ _⟩
    · have h3 : n < 2 := by omega
      go_enter Ybaf.func5, Ybaf.ntmps5
      go_wp2
      go_ret
      exact ⟨rfl, Below.refl _ _⟩

set_option maxHeartbeats 1600000 in
set_option maxRecDepth 100000 in
theorem ooo_any (da sa : Option Addr) (n dc sn sc : Nat) (ds ss : List Nat) (K Drop : Nat) (aU aE : Addr) (cu : Array Value) (tu : TypeId) (w : World) (hn : n ≤ 1024) (hn2 : 2 ≤ n) (hs : sn ≤ 1024) (hK : K < 18446744073709551616) (hDr : Drop < 4294967296) (hd : ∀ j, ds.getD j 0 < 65536) (hq : ∀ j, ss.getD j 0 < 4294967296)
    (hq0 : ∀ j, sn ≤ j → ss.getD j 0 = 0) (hcd : Came w .u16 da n ds) (hcs : Came w .u32 sa sn ss)
    (gU : w.cell? ⟨0, 0, none⟩ = some (.iface 62 (.pointer (some aU)))) (gE : w.cell? ⟨2, 0, none⟩ = some (.iface 62 (.pointer (some aE)))) (hbU : w.heap[aU.block]? = some (.cells cu tu (0, 0))) :
    Calls Ybaf.prog 5 #[.slice da n dc, .slice sa sn sc, .int .u64 K, .int .u32 Drop] w fun e w' => e = .returned (.bool true) ∧ Below w.heap.size w w' := by
  have HD : Hid (∀ j, ds.getD j 0 < 65536) := hd
  have HQ : Hid (∀ j, ss.getD j 0 < 4294967296) := hq
  have HQ0 : Hid (∀ j, sn ≤ j → ss.getD j 0 = 0) := hq0
  have HCD : Hid (Came w .u16 da n ds) := hcd
  have HCS : Hid (Came w .u32 sa sn ss) := hcs
  clear hd hq hq0 hcd hcs
  have hnil : ∀ w : World, (binOp .eql 25 (.slice none 0 0) (.slice none 0 0)).run Ybaf.prog w = .ok (.bool true) w := fun w => by kernel_rfl
  obtain ⟨m, hme⟩ : ∃ m, m = K % (n - 1) := ⟨_, rfl⟩
  have hm : (K : Int) % ((n : Int) - 1) = (m : Int) := by rw [hme, Int.natCast_emod, show ((n - 1 : Nat) : Int) = (n : Int) - 1 from by omega]
  have hmn : m + 1 < n := by have := Nat.mod_lt K (show 0 < n - 1 by omega); omega
  obtain ⟨pv, hpv⟩ : ∃ pv, snd ds m = pv := ⟨_, rfl⟩
  have hpvlt : pv < 67109888 := by
    have h1 := snd_lt ds HD.out m
    omega
  obtain ⟨dd, hdd⟩ : ∃ dd, dd = Drop % (pv + 1) := ⟨_, rfl⟩
  have hddle : dd ≤ pv := by have := Nat.mod_lt Drop (show 0 < pv + 1 by omega); omega
  have hdm : (Drop : Int) % ((pv : Int) + 1) = (dd : Int) := by rw [hdd, Int.natCast_emod]; rfl
  clear hme hdd
  go_enter Ybaf.func5, Ybaf.ntmps5
  go_wp2_with fail
  refine (build_any da sa n dc sn sc ds ss w hn hs HD.out HQ.out HQ0.out HCD.out HCS.out).mono ?_
  rintro e w1 ⟨rfl, hblk, hbel1⟩
  have hlen : (bldTo ds ss n).length = n := bldTo_length _ _ _
  have c0 : w1.cell? ⟨w.heap.size, m * 2, none⟩ = some (.int .i64 pv) := by
    rw [cell_of_row _ _ _ _ _ _ hblk]
    have := (msgs_get (bldTo ds ss n) m (by omega)).1
    rw [bldTo_get ds ss n m (by omega)] at this
    simp only [hpv] at this
    simpa using this
  have c1 : ∃ v, w1.cell? ⟨w.heap.size, (1 + m) * 2, none⟩ = some v := by
    rw [cell_of_row _ _ _ _ _ _ hblk]
    have := (msgs_get (bldTo ds ss n) (1 + m) (by omega)).1
    exact ⟨_, by simpa using this⟩
  obtain ⟨v1, c1⟩ := c1
  have f1 := frozen_of_row w1 w.heap.size ((1 + m) * 2) _ _ hblk
  have hBl := lt_of_block hblk
  have hB2 : ∀ v, Hid (Below w.heap.size w (w1.setCell ⟨w.heap.size, (1 + m) * 2, none⟩ v)) := fun v => hbel1.setCell (Nat.le_refl _) v
  have hblk2 : Hid ((w1.setCell ⟨w.heap.size, (1 + m) * 2, none⟩ (.int .i64 ((pv : Int) - dd))).heap[w.heap.size]? = some (.cells (msgs (bad ds ss n m (pv - dd))).toArray 38 (0, 0))) := by
    show _ = _
    rw [heap_setCell_same _ _ _ _ _ _ hblk, show (pv : Int) - dd = ((pv - dd : Nat) : Int) from by omega, msgs_set _ _ _ (ss.getD (1 + m) 0) (by omega)]
    · rfl
    rw [bldTo_get ds ss n (1 + m) (by omega)]
  have hbad : ∀ x, x ≤ pv → Hid (x ≤ (((bad ds ss n m x).take (1 + m))[((bad ds ss n m x).take (1 + m)).length - 1]'(by rw [List.length_take, bad_length]; omega)).1) := by
    intro x hx
    show x ≤ _
    simp only [bad_take, List.length_take, bldTo_length, List.getElem_take]
    rw [bldTo_get ds ss n _ (by omega)]
    show x ≤ snd ds _
    rw [show min (1 + m) n - 1 = m from by omega, hpv]
    exact hx
  clear hblk hpv
  go_wp2_with fail
  refine (encode_n n w.heap.size n (bad ds ss n m (pv - dd)) _ (bad_length _ _ _ _ _) hn (bad_small ds ss n m _ hn HD.out HQ.out (by omega)) hblk2.out).mono ?_
  rintro e w2 ⟨g, c, h, N, rfl, HN, hN1, hN2, hown, HEnds, hhge, hbel2⟩
  have hB2' := (hB2 (.int .i64 ((pv : Int) - dd))).out
  have hbel : Below w.heap.size w w2 := hB2'.trans (hbel2.mono hB2'.size)
  have hNl : N = (encAll (bad ds ss n m (pv - dd))).length := HN.out
  have hC := mk_ctx (p := N) hbel hown (by omega) (by omega) gU gE
  rw [List.take_of_length_le (by rw [hNl]; exact Nat.le_refl _)] at hC
  clear hNl
  have HAll : Hid (encAll (bad ds ss n m (pv - dd)) = encV n ++ (encL ((bad ds ss n m (pv - dd)).take (1 + m)) ++ (encV (pv - dd) ++ (encV (ss.getD (1 + m) 0) ++ encL ((bad ds ss n m (pv - dd)).drop (1 + m + 1)))))) := by
    show _ = _
    unfold encAll
    rw [bad_length]
    congr 1
    conv => lhs; rw [bad_split ds ss n m (pv - dd) hmn]
    rw [encL_append]
    rfl
  have HPos : Hid ((encV n).length + (encL ((bad ds ss n m (pv - dd)).take (1 + m))).length + (encV (pv - dd)).length + (encV (ss.getD (1 + m) 0)).length = ends (bad ds ss n m (pv - dd)) (1 + m)) := by
    show _ = _
    unfold ends
    rw [bad_length]
    have : (bad ds ss n m (pv - dd)).take (1 + m + 1) = (bad ds ss n m (pv - dd)).take (1 + m) ++ [(pv - dd, ss.getD (1 + m) 0)] := by
      rw [List.take_succ_eq_append_getElem (by rw [bad_length]; omega)]
      simp [bad]
    rw [this, encL_snoc]
    simp; omega
  have HInc : Hid (∀ j (hj : j + 1 < ((bad ds ss n m (pv - dd)).take (1 + m)).length), (((bad ds ss n m (pv - dd)).take (1 + m))[j]'(by omega)).1 < ((bad ds ss n m (pv - dd)).take (1 + m))[j + 1].1) := by
    intro j hj
    have hj2 : j + 1 < 1 + m := by simp at hj; omega
    simp only [bad_take, List.getElem_take]
    exact bld_inc ds ss n j (by rw [bldTo_length]; omega)
  have hR := hC.rlt
  go_wp2_with fail
  refine (readNames_ooo hC ((bad ds ss n m (pv - dd)).take (1 + m)) n _ (pv - dd) (ss.getD (1 + m) 0) hn (by rw [List.length_take, bad_length]; omega) (by omega) (by have := HQ.out (1 + m); omega) _ (by rw [List.length_take, bad_length]; omega) (hbad (pv - dd) (by omega)).out rfl
    (fun p hp => bad_small ds ss n m _ hn HD.out HQ.out (by omega) p (List.mem_of_mem_take hp)) HInc.out HAll.out).mono ?_
  rintro e w3 ⟨E, rfl, hE, ⟨sE, hbE⟩, hg3, hC3⟩
  rw [HPos.out] at hC3
  have u0 := hC3.gU
  have u1 := hC3.c1
  have hs := hbel.size
  have he2 := HEnds.out (1 + m) (by omega)
  have hhlt := block_lt_of_cell he2
  simp only at hhlt
  have he3 : w3.cell? ⟨h, 1 + m, none⟩ = some (.int .i64 (ends (bad ds ss n m (pv - dd)) (1 + m) : Nat)) := hg3.cell (cell?_alloc_old _ he2) (by simp; omega)
  have hUlt := lt_of_block hbU
  have hbU3 : w3.heap[aU.block]? = some (.cells cu tu (0, 0)) := by
    rw [hg3.block aU.block (by simp; omega) (by simp; omega), Below.heap_alloc _ _ _ (by omega), hbel.block _ hUlt]
    exact hbU
  have hEne : (⟨E, 0, none⟩ : Addr) ≠ aU := by
    intro e
    rw [← e] at hUlt
    simp at hE hUlt
    omega
  obtain ⟨i62, hi62, hc62⟩ := Option.map_eq_some_iff.1 comp62
  obtain ⟨i64, hi64, hs64⟩ := Option.map_eq_some_iff.1 size64
  have hneq := run_neq_iface_ptr_other (P := Ybaf.prog) w3 Ybaf.underlying34 Ybaf.underlying62 hi62 hc62 hi64 (by omega) hEne hbE hbU3
  have hneqd := fun k => run_neq_iface_ptr_other (P := Ybaf.prog) (w3.drewN k) Ybaf.underlying34 Ybaf.underlying62 hi62 hc62 hi64 (by omega) hEne hbE hbU3
  have hneqe := run_neq_iface_ptr_other (P := Ybaf.prog) w3.drew Ybaf.underlying34 Ybaf.underlying62 hi62 hc62 hi64 (by omega) hEne hbE hbU3
  have hi1 : (0 : Int) ≤ 1 + (m : Int) := by omega
  have hi2 : 1 + (m : Int) < (n : Int) := by omega
  clear he2 hbU3 hbE hEne hUlt hbU hhlt hi62 hc62 hi64 hs64 i62 i64 hC
  go_wp2
  go_quiet (fail)
  go_wp2
  go_ret
  refine ⟨by simp, ?_⟩
  have hb2 := hbel.alloc hbel.size (.cells #[.slice (some ⟨g, 0, none⟩) N c, .int .i64 0] 32)
  exact below_drewN (hb2.grown hg3 (by simp; omega) (by simp; omega)) _
end Go.Proofs.YbulkdaisFmt
