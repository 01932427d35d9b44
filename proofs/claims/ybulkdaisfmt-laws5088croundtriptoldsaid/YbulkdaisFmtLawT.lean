import Derived.Test.YbulkdaisFmtTrunc
namespace Go.Proofs.YbulkdaisFmt
open Go.RowKit
set_option linter.unusedVariables false

theorem own_le {w : World} {base e size g n cap : Nat} {xs : List Value} (h : w.ownsRow base e size (.slice (some ⟨g, 0, none⟩) n cap) n xs) : n ≤ cap := by
  rcases h.2 with ⟨h1, _⟩ | ⟨g', cap', cur, h1, _, _, h2, _⟩
  · cases h1
  · injection h1 with _ _ h3
    omega

theorem mk_ctx {w w2 : World} {base g p N c : Nat} {es : List Nat} {aU aE : Addr} (hbel : Below w.heap.size w w2) (hown : w2.ownsRow base 5 1 (.slice (some ⟨g, 0, none⟩) N c) N (es.map bv)) (hp : p ≤ N) (hN : N ≤ 100000)
    (gU : w.cell? ⟨0, 0, none⟩ = some (.iface 62 (.pointer (some aU)))) (gE : w.cell? ⟨2, 0, none⟩ = some (.iface 62 (.pointer (some aE)))) :
    Ctx (w2.alloc (.cells #[.slice (some ⟨g, 0, none⟩) p c, .int .i64 0] 32)) w2.heap.size g p c (es.take p) aU aE 0 := by
  have hlen : es.length = N := by have := hown.1; simpa using this
  have hg := (hown.lt g rfl).2
  have h0 := block_lt_of_cell gU
  have h2 := block_lt_of_cell gE
  simp at h0 h2
  have hs := hbel.size
  have old : ∀ (a : Addr) v, w.cell? a = some v → (w2.alloc (.cells #[.slice (some ⟨g, 0, none⟩) p c, .int .i64 0] 32)).cell? a = some v := by
    intro a v hv
    have hb := (hbel.alloc hs (.cells #[.slice (some ⟨g, 0, none⟩) p c, .int .i64 0] 32)).cell (p := a) (block_lt_of_cell hv)
    rw [hb]; exact hv
  refine ⟨heap_alloc_new _ _, fun j hj => ?_, by omega, old _ _ gU, old _ _ gE, by omega, by omega, by simp; omega, by simp; omega⟩
  have h1 : (es.map bv)[j]? = some (bv ((es.take p).getD j 0)) := by
    rw [List.getElem?_map, List.getElem?_eq_getElem (by omega)]
    simp [hj, show j < es.length from by omega]
  have h3 := (hown.alloc (.cells #[.slice (some ⟨g, 0, none⟩) p c, .int .i64 0] 32)).cells rfl j _ h1
  rw [Addr.add_lit] at h3
  simpa using h3

set_option maxHeartbeats 1600000 in
set_option maxRecDepth 100000 in
theorem trunc_long (da sa : Option Addr) (n dc sn sc : Nat) (cut : Nat) (w : World) (hn : n ≤ maxLen) (hs : sn ≤ maxLen) (h : 1024 < n ∨ 1024 < sn) :
    Calls Ybaf.prog 4 #[.slice da n dc, .slice sa sn sc, .int .u64 cut] w fun e w' => e = .returned (.bool true) ∧ Below w.heap.size w w' := by
  unfold maxLen at hn hs
  by_cases h1 : 1024 < n
  · go_enter Ybaf.func4, Ybaf.ntmps4
    go_wp2
    go_ret
    exact ⟨rfl, Below.refl _ _⟩
  · have h2 : 1024 < sn := by omega
    go_enter Ybaf.func4, Ybaf.ntmps4
    go_wp2
    go_ret
    exact ⟨rfl, Below.refl _ _⟩

set_option maxHeartbeats 1600000 in
set_option maxRecDepth 100000 in
theorem trunc_any (da sa : Option Addr) (n dc sn sc : Nat) (ds ss : List Nat) (cut : Nat) (aU aE : Addr) (w : World) (hn : n ≤ 1024) (hs : sn ≤ 1024) (hc : cut < 18446744073709551616) (hd : ∀ j, ds.getD j 0 < 65536) (hq : ∀ j, ss.getD j 0 < 4294967296)
    (hq0 : ∀ j, sn ≤ j → ss.getD j 0 = 0) (hcd : Came w .u16 da n ds) (hcs : Came w .u32 sa sn ss)
    (gU : w.cell? ⟨0, 0, none⟩ = some (.iface 62 (.pointer (some aU)))) (gE : w.cell? ⟨2, 0, none⟩ = some (.iface 62 (.pointer (some aE)))) :
    Calls Ybaf.prog 4 #[.slice da n dc, .slice sa sn sc, .int .u64 cut] w fun e w' => e = .returned (.bool true) ∧ Below w.heap.size w w' := by
  have HD : Hid (∀ j, ds.getD j 0 < 65536) := hd
  have HQ : Hid (∀ j, ss.getD j 0 < 4294967296) := hq
  have HQ0 : Hid (∀ j, sn ≤ j → ss.getD j 0 = 0) := hq0
  have HCD : Hid (Came w .u16 da n ds) := hcd
  have HCS : Hid (Came w .u32 sa sn ss) := hcs
  clear hd hq hq0 hcd hcs
  obtain ⟨i62, hi62, hc62⟩ := Option.map_eq_some_iff.1 comp62
  obtain ⟨i64, hi64, _⟩ := Option.map_eq_some_iff.1 size64
  have hEs := fun (w : World) => run_eql_iface_ptr_same (P := Ybaf.prog) w aU Ybaf.underlying34 Ybaf.underlying62 hi62 hc62 hi64
  have hnil : ∀ w : World, (binOp .eql 25 (.slice none 0 0) (.slice none 0 0)).run Ybaf.prog w = .ok (.bool true) w := fun w => by kernel_rfl
  go_enter Ybaf.func4, Ybaf.ntmps4
  go_wp2_with fail
  refine (build_any da sa n dc sn sc ds ss w hn hs HD.out HQ.out HQ0.out HCD.out HCS.out).mono ?_
  rintro e w1 ⟨rfl, hblk, hbel1⟩
  go_wp2_with fail
  refine (encode_n n w.heap.size n (bldTo ds ss n) w1 (bldTo_length _ _ _) hn (bld_small ds ss n hn HD.out HQ.out) hblk).mono ?_
  rintro e w2 ⟨g, c, h, N, rfl, HN, hN1, hN2, hown, _, _, hbel2⟩
  have hbel : Below w.heap.size w w2 := hbel1.trans (hbel2.mono hbel1.size)
  obtain ⟨p, hpe⟩ : ∃ p, p = cut % N := ⟨_, rfl⟩
  have hp : (cut : Int) % (N : Int) = (p : Int) := by rw [hpe]; omega
  have hpN : p < N := by rw [hpe]; exact Nat.mod_lt _ (by omega)
  have hNc : N ≤ c := own_le hown
  have hC := mk_ctx (p := p) hbel hown (by omega) (by omega) gU gE
  have HT : Hid ((encAll (bldTo ds ss n)).take p ++ (encAll (bldTo ds ss n)).drop p = encAll (bldTo ds ss n) ∧ (encAll (bldTo ds ss n)).drop p ≠ []) := by
    refine ⟨List.take_append_drop _ _, ?_⟩
    intro h0
    have := congrArg List.length h0
    have := HN.out
    simp at *
    omega
  have hR := hC.rlt
  clear hblk hpe
  go_wp2_with fail
  refine (readNames_trunc hC (bldTo ds ss n) _ (by rw [bldTo_length]; exact hn) (bld_small ds ss n hn HD.out HQ.out) (bld_inc ds ss n) HT.out.2 HT.out.1).mono ?_
  rintro e w3 ⟨rfl, hg3, hC3⟩
  have u0 := hC3.gU
  have u1 := hC3.c1
  go_wp2
  go_ret
  refine ⟨by simp, ?_⟩
  have hb2 := hbel.alloc hbel.size (.cells #[.slice (some ⟨g, 0, none⟩) p c, .int .i64 0] 32)
  have hs := hbel.size
  exact hb2.grown hg3 (by simp; omega) (by simp; omega)
end Go.Proofs.YbulkdaisFmt
