import Derived.Test.YbulkdammCov
namespace Go.Proofs.Ybulkdamm
open Go.RowKit
set_option linter.unusedVariables false

/-- The set of pieces: behind the variable V the set S, whose singles are the runs in R; no longer pieces. -/
structure SetAt (w : World) (S R n cap : Nat) (lo hi : Nat → Int) : Prop where
  one : w.cell? ⟨S, 0, none⟩ = some (.slice (some ⟨R, 0, none⟩) n cap)
  none' : w.cell? ⟨S, 1, none⟩ = some (.slice none 0 0)
  runs : RunsAt w R n lo hi
  hn : n ≤ 5000
  sorted : ∀ i j, i < j → j < n → hi i < lo j
  le : ∀ i, i < n → lo i ≤ hi i
theorem SetAt.below {w w' : World} {S R n cap : Nat} {lo hi : Nat → Int} (h : SetAt w S R n cap lo hi) (hb : Below w.heap.size w w') : SetAt w' S R n cap lo hi :=
  ⟨by rw [hb.cell (block_lt_of_cell h.one)]; exact h.one, by rw [hb.cell (block_lt_of_cell h.none')]; exact h.none', h.runs.below hb, h.hn, h.sorted, h.le⟩

set_option maxHeartbeats 800000 in
set_option maxRecDepth 100000 in
theorem notcov_any (V S R n cap : Nat) (lo hi : Nat → Int) (c : Int) (w : World) (hV : w.cell? ⟨V, 0, none⟩ = some (.pointer (some ⟨S, 0, none⟩))) (hS : SetAt w S R n cap lo hi) :
    Calls Yba.prog 27 #[.int .i32 c, .pointer (some ⟨V, 0, none⟩)] w fun e w' => Below w.heap.size w w' ∧ e = .returned (.bool (!covN lo hi c n)) := by
  have h1 := hS.one
  have HS := hid hS
  clear hS
  go_enter Yba.func27, Yba.ntmps27
  go_wp2_with fail
  refine (covered_any R n cap lo hi c c w HS.out.hn HS.out.runs HS.out.sorted HS.out.le).mono ?_
  rintro e w1 ⟨hb, b, rfl, he⟩
  have hbe := he rfl
  subst hbe
  have HB := hid hb
  clear hb he
  go_wp2
  go_ret
  exact ⟨HB.out, by simp⟩

/-- Some one of the first N code points is not covered. -/
def anyNot (lo hi : Nat → Int) (n : Nat) (x : Nat → Int) : Nat → Bool
  | 0 => false
  | N + 1 => anyNot lo hi n x N || !covN lo hi (x N) n
theorem anyNot_false {lo hi : Nat → Int} {n : Nat} {x : Nat → Int} {N : Nat} (h : ∀ i, i < N → covN lo hi (x i) n = true) : anyNot lo hi n x N = false := by
  induction N with
  | zero => rfl
  | succ N ih => simp [anyNot, ih (fun i hi => h i (by omega)), h N (by omega)]
theorem anyNot_true {lo hi : Nat → Int} {n : Nat} {x : Nat → Int} {N i : Nat} (hi' : i < N) (h : covN lo hi (x i) n = false) : anyNot lo hi n x N = true := by
  induction N with
  | zero => omega
  | succ N ih =>
    by_cases e : i = N
    · subst e; simp [anyNot, h]
    · simp [anyNot, ih (by omega)]

set_option maxHeartbeats 1600000 in
set_option maxRecDepth 100000 in
theorem index_any (X V S R n cap xc N : Nat) (lo hi x : Nat → Int) (w : World) (hx : N ≤ 100) (hX : ∀ i, i < N → w.cell? ⟨X, i, none⟩ = some (.int .i32 (x i)))
    (hV : w.cell? ⟨V, 0, none⟩ = some (.pointer (some ⟨S, 0, none⟩))) (hS : SetAt w S R n cap lo hi) :
    Calls Yba.prog 38 #[.slice (some ⟨X, 0, none⟩) N xc, .func (.func 27) #[] #[.pointer (some ⟨V, 0, none⟩)]] w fun e w' => Below w.heap.size w w' ∧ ∃ k : Int, e = .returned (.int .i64 k) ∧ (decide (0 ≤ k) = anyNot lo hi n x N) := by
  have HX := hid hX
  have HV := hid hV
  have HS := hid hS
  clear hX hV hS
  go_enter Yba.func38, Yba.ntmps38
  go_wp2
  go_loopw [8] (fun i wr => ∃ k : Nat, k ≤ N ∧ i = .int .i64 k ∧ Below w.heap.size w wr ∧ ∀ y, y < k → covN lo hi (x y) n = true) (fun i _ => N - (intOf i).toNat)
  case atStart => exact ⟨0, by omega, rfl, Below.refl _ _, fun x hx => by omega⟩
  case round =>
    obtain ⟨k, hk, rfl, hb, hno⟩ := hrel
    have HB := hid hb
    have HN := hid hno
    clear hb hno
    by_cases hlt : k < N
    · have q1 : wr.cell? ⟨X, k, none⟩ = some (.int .i32 (x k)) := by rw [HB.out.cell (block_lt_of_cell (HX.out k hlt))]; exact HX.out k hlt
      have hv2 : wr.cell? ⟨V, 0, none⟩ = some (.pointer (some ⟨S, 0, none⟩)) := by rw [HB.out.cell (block_lt_of_cell HV.out)]; exact HV.out
      have HV2 := hid hv2
      clear hv2
      have b1 : (k : Int) < (N : Int) := by omega
      generalize hxk : x k = xk at q1
      have hcl := notcov_any V S R n cap lo hi xk wr HV2.out (HS.out.below HB.out)
      have HCL := hid hcl
      clear hcl
      go_wp2_with fail
      refine HCL.out.mono ?_
      rintro e w1 ⟨h1, rfl⟩
      have HB1 := hid (HB.out.trans (h1.mono HB.out.size))
      clear h1 HCL
      cases hc : covN lo hi xk n with
      | true =>
        go_wp2
        refine ⟨⟨k + 1, by omega, by go_num, HB1.out, fun y hy => ?_⟩, by simp [intOf]; omega⟩
        by_cases e : y = k
        · subst e; rw [hxk]; exact hc
        · exact HN.out y (by omega)
      | false =>
        go_wp2
        go_ret
        refine ⟨HB1.out, k, rfl, ?_⟩
        rw [anyNot_true hlt (by rw [hxk]; exact hc)]
        simp
    · have hkn : k = N := by omega
      subst hkn
      go_wp2
      go_ret
      refine ⟨HB.out, -1, rfl, ?_⟩
      rw [anyNot_false HN.out]
      rfl

set_option maxHeartbeats 800000 in
set_option maxRecDepth 100000 in
theorem contains_any (X V S R n cap xc N : Nat) (lo hi x : Nat → Int) (w : World) (hx : N ≤ 100) (hX : ∀ i, i < N → w.cell? ⟨X, i, none⟩ = some (.int .i32 (x i)))
    (hV : w.cell? ⟨V, 0, none⟩ = some (.pointer (some ⟨S, 0, none⟩))) (hS : SetAt w S R n cap lo hi) :
    Calls Yba.prog 25 #[.slice (some ⟨X, 0, none⟩) N xc, .func (.func 27) #[] #[.pointer (some ⟨V, 0, none⟩)]] w fun e w' => Below w.heap.size w w' ∧ e = .returned (.bool (anyNot lo hi n x N)) := by
  have HX := hid hX
  have HV := hid hV
  have HS := hid hS
  clear hX hV hS
  go_enter Yba.func25, Yba.ntmps25
  go_wp2_with fail
  refine (index_any X V S R n cap xc N lo hi x w hx HX.out HV.out HS.out).mono ?_
  rintro e w1 ⟨hb, k, rfl, hk⟩
  have HB := hid hb
  clear hb
  have HK := hid hk
  clear hk
  go_wp2
  go_ret
  exact ⟨HB.out, by rw [← HK.out]; rfl⟩

/-- One of the first n Booleans is false. -/
def hasFalse (b : Nat → Bool) : Nat → Bool
  | 0 => false
  | n + 1 => hasFalse b n || !b n
theorem hasFalse_no {b : Nat → Bool} {n : Nat} (h : ∀ i, i < n → b i = true) : hasFalse b n = false := by
  induction n with
  | zero => rfl
  | succ n ih => simp [hasFalse, ih (fun i hi => h i (by omega)), h n (by omega)]
theorem hasFalse_yes {b : Nat → Bool} {n i : Nat} (hi : i < n) (h : b i = false) : hasFalse b n = true := by
  induction n with
  | zero => omega
  | succ n ih =>
    by_cases e : i = n
    · subst e; simp [hasFalse, h]
    · simp [hasFalse, ih (by omega)]

set_option maxHeartbeats 800000 in
set_option maxRecDepth 100000 in
theorem indexB_any (X n xc : Nat) (b : Nat → Bool) (w : World) (hn : n ≤ 10000) (hX : ∀ i, i < n → w.cell? ⟨X, i, none⟩ = some (.bool (b i))) :
    Calls Yba.prog 41 #[.slice (some ⟨X, 0, none⟩) n xc, .bool false] w fun e w' => w' = w ∧ ∃ k : Int, e = .returned (.int .i64 k) ∧ decide (0 ≤ k) = hasFalse b n := by
  have HX := hid hX
  clear hX
  go_enter Yba.func41, Yba.ntmps41
  go_wp2
  go_loopw [8] (fun i wr => ∃ k : Nat, k ≤ n ∧ i = .int .i64 k ∧ wr = w ∧ ∀ y, y < k → b y = true) (fun i _ => n - (intOf i).toNat)
  case atStart => exact ⟨0, by omega, rfl, rfl, fun x hx => by omega⟩
  case round =>
    obtain ⟨k, hk, rfl, rfl, hno⟩ := hrel
    have HN := hid hno
    clear hno
    by_cases hlt : k < n
    · have q1 := HX.out k hlt
      have b1 : (k : Int) < (n : Int) := by omega
      cases hb : b k with
      | true =>
        rw [hb] at q1
        have HBK := hid hb
        clear hb
        go_wp2
        refine ⟨⟨k + 1, by omega, by go_num, by simp, fun y hy => ?_⟩, by simp [intOf]; omega⟩
        by_cases e : y = k
        · subst e; exact HBK.out
        · exact HN.out y (by omega)
      | false =>
        rw [hb] at q1
        have HBK := hid hb
        clear hb
        go_wp2
        go_ret
        refine ⟨rfl, k, rfl, ?_⟩
        rw [hasFalse_yes hlt HBK.out]
        simp
    · have hkn : k = n := by omega
      subst hkn
      go_wp2
      go_ret
      refine ⟨rfl, -1, rfl, ?_⟩
      rw [hasFalse_no HN.out]
      rfl

set_option maxHeartbeats 800000 in
set_option maxRecDepth 100000 in
theorem containsB_any (X n xc : Nat) (b : Nat → Bool) (w : World) (hn : n ≤ 10000) (hX : ∀ i, i < n → w.cell? ⟨X, i, none⟩ = some (.bool (b i))) :
    Calls Yba.prog 28 #[.slice (some ⟨X, 0, none⟩) n xc, .bool false] w fun e w' => w' = w ∧ e = .returned (.bool (hasFalse b n)) := by
  have HX := hid hX
  clear hX
  go_enter Yba.func28, Yba.ntmps28
  go_wp2_with fail
  refine (indexB_any X n xc b w hn HX.out).mono ?_
  rintro e w1 ⟨h1, k, rfl, hk⟩
  cases h1
  have HK := hid hk
  clear hk
  go_wp2
  go_ret
  exact ⟨rfl, by rw [← HK.out]; rfl⟩
end Go.Proofs.Ybulkdamm
