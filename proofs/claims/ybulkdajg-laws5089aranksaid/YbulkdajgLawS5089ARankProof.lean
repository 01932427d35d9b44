import Derived.Test.YbulkdajgRows
import Derived.WalkKit
import Derived.ProofKit
import Derived.OpenShut
import Derived.ShutString
namespace Go.Proofs.Ybulkdajg.lawS5089ARank
open Go.ChangeShapes Go.WideShapes Go.ChangeAt Go.RowKit
open Go.ChangeMaps (open_string shut_string)
set_option linter.unusedVariables false      -- a walk need not use every 'w<i>' (that an integer argument fits its kind)

theorem own : ownKnob Yba.prog.godebug = none := by kernel_rfl

/-! ### STEP 1: THE WALK: the Go text returns true. 'Grown w w'': the world has at most new blocks (Derived/RowKit3.lean). Part the cases AHEAD of 'go_enter' where a test parts the walk; take each callee by a contract of your own. -/
/-- The rank, as the table says it. -/
def rk (q : Int) (a b : Bool) : Int := (if a then 2 else 0) + (if 0 < q then 1 else if b then 1 else 0)
theorem rk_range (q : Int) (a b : Bool) : 0 ≤ rk q a b ∧ rk q a b < 4 := by
  unfold rk
  split <;> split <;> (try split) <;> omega

set_option maxHeartbeats 1000000 in
theorem used_any (blk : Nat) (q r : Int) (a b : Bool) (w : World) (hr : r = rk q a b) (h1 : w.cell? ⟨blk, 1, none⟩ = some (.int .i64 q)) (h2 : w.cell? ⟨blk, 2, none⟩ = some (.bool a)) (h7 : w.cell? ⟨blk, 7, none⟩ = some (.bool b)) :
    Calls Yba.prog 5 #[.pointer (some ⟨blk, 0, none⟩)] w fun e w' => e = .returned (.int .i64 r) ∧ w' = w := by
  subst hr
  by_cases h0 : 0 < q <;> cases a <;> cases b
  all_goals
    go_enter Yba.func5, Yba.ntmps5
    go_wp2
    go_ret
    exact ⟨by first | (simp [rk, h0]; done) | (simp [rk]; split <;> omega), rfl⟩

set_option maxHeartbeats 1000000 in
theorem expect_any (q r : Int) (a b : Bool) (w : World) (hr : r = rk q a b) :
    Calls Yba.prog 6 #[.int .i64 q, .bool a, .bool b] w fun e w' => e = .returned (.int .i64 r) ∧ w' = w := by
  subst hr
  by_cases h0 : 0 < q <;> cases a <;> cases b
  all_goals
    go_enter Yba.func6, Yba.ntmps6
    go_wp2
    go_ret
    exact ⟨by first | (simp [rk, h0]; done) | (simp [rk]; split <;> omega), rfl⟩

set_option maxHeartbeats 1000000 in
theorem walk (a0 : Int) (a1 : Bool) (a2 : Bool) (a3 : Bool) (a4 : Bool) (a5 : Int) (w0 : (Lit.int .i64 a0).wf = true) (w5 : (Lit.int .i64 a5).wf = true) (w : World) :
    Calls Yba.prog 3 #[.int .i64 a0, .bool a1, .bool a2, .bool a3, .bool a4, .int .i64 a5] w fun e w' => e = .returned (.bool true) ∧ Grown w w' := by
  obtain ⟨r, hr⟩ : ∃ r, r = rk a0 a1 a2 := ⟨_, rfl⟩
  have hr2 := rk_range a0 a1 a2
  rw [← hr] at hr2
  have hr0 : 0 ≤ r := hr2.1
  have hr4 : r < 4 := hr2.2
  have HR : Hid (r = rk a0 a1 a2) := hr
  clear hr hr2
  go_enter Yba.func3, Yba.ntmps3
  go_wp2_with (first | (go_at_call 5; refine (used_any _ a0 r a1 a2 _ HR.out ?_ ?_ ?_).mono ?_; (simp); (simp); (simp); rintro e w1 ⟨rfl, rfl⟩) | (go_at_call 6; refine (expect_any a0 r a1 a2 _ HR.out).mono ?_; rintro e w1 ⟨rfl, rfl⟩))
  go_ret
  exact ⟨rfl, by repeat (first | exact Grown.refl _ | apply Grown.drew | apply Grown.alloc)⟩

/-! ### THE ROW's STEP: WRITTEN OUT: LEAVE IT -/
set_option maxRecDepth 100000 in
theorem lifted (os : Os) (started : os.Started) (H : Type) (enc : TypeId × Value → H) :
    ReturnsInHanded {} Yba.checked os 3 .any (Rows.lawS5089ARankSpec.pre6 enc Yba.prog Yba.f3 Rows.lawS5089ARankRow.domain false) (Rows.lawS5089ARankSpec.post enc Yba.prog Yba.f3 false true false false) := by
  refine returnsInHanded_of_change (C := Yba.checked) own started (by kernel_rfl) Yba.func3
    (ChangeSpec.witness6 (enc := enc) (C := Yba.checked) false ⟨#[], #[.int .i64 0, .bool false, .bool false, .bool false, .bool false, .int .i64 0], []⟩ 8 (by kernel_rfl) (by kernel_rfl) (by kernel_rfl) (by kernel_rfl)) ?_
  intro W base args ds gs before hval0 hW hcnd _
  have hval : ∀ (j : Nat) t v, Yba.f3.params[j]? = some t → args[j]? = some v → Value.okWide Yba.prog W .any base t v := hval0
  have hW' := hW
  obtain ⟨p, q, hA0, hV, rfl, hfz, hnd⟩ := hW
  have hA : DataW.TrodAll enc Yba.prog W 0 (fun _ => true) true Yba.f3.params.toList args.toList ds p := hA0
  rw [Yba.params3] at hA hval
  obtain ⟨v0, vs0, d0, ds0, p0, q0, hargs, rfl, rfl, h0, r0⟩ := trodAll_cons hA
  obtain ⟨v1, vs1, d1, ds1, p1, q1, rfl, rfl, rfl, h1, r1⟩ := trodAll_cons r0
  obtain ⟨v2, vs2, d2, ds2, p2, q2, rfl, rfl, rfl, h2, r2⟩ := trodAll_cons r1
  obtain ⟨v3, vs3, d3, ds3, p3, q3, rfl, rfl, rfl, h3, r3⟩ := trodAll_cons r2
  obtain ⟨v4, vs4, d4, ds4, p4, q4, rfl, rfl, rfl, h4, r4⟩ := trodAll_cons r3
  obtain ⟨v5, vs5, d5, ds5, p5, q5, rfl, rfl, rfl, h5, r5⟩ := trodAll_cons r4
  obtain ⟨rfl, rfl, rfl⟩ := trodAll_nil r5
  obtain rfl : args = #[v0, v1, v2, v3, v4, v5] := by cases args; simp_all
  obtain ⟨rfl, rfl⟩ := trodVars_none hV
  obtain ⟨a0, rfl, rfl, rfl, w0⟩ := open_int Yba.underlying3 (hval 0 3 v0 rfl rfl) h0
  obtain ⟨a1, rfl, rfl, rfl⟩ := open_bool Yba.underlying4 (hval 1 4 v1 rfl rfl) h1
  obtain ⟨a2, rfl, rfl, rfl⟩ := open_bool Yba.underlying4 (hval 2 4 v2 rfl rfl) h2
  obtain ⟨a3, rfl, rfl, rfl⟩ := open_bool Yba.underlying4 (hval 3 4 v3 rfl rfl) h3
  obtain ⟨a4, rfl, rfl, rfl⟩ := open_bool Yba.underlying4 (hval 4 4 v4 rfl rfl) h4
  obtain ⟨a5, rfl, rfl, rfl, w5⟩ := open_int Yba.underlying3 (hval 5 3 v5 rfl rfl) h5
  clear hA0 hval0
  simp only [List.append_nil] at hW'
  refine (walk a0 a1 a2 a3 a4 a5 w0 w5 W).mono fun e W' ⟨he, hg⟩ => ?_
  subst he
  exact ⟨_, rfl, post_of_same (pa := []) (pv := []) hW' (fun _ _ _ => (trodAll_cons_mk (shut_bool Yba.underlying4 _) trodAll_mk0)) (fun sp _ => (trodAll_cons_mk (shut_int Yba.underlying3 w0) (trodAll_cons_mk (shut_bool Yba.underlying4 _) (trodAll_cons_mk (shut_bool Yba.underlying4 _) (trodAll_cons_mk (shut_bool Yba.underlying4 _) (trodAll_cons_mk (shut_bool Yba.underlying4 _) (trodAll_cons_mk (shut_int Yba.underlying3 w5) trodAll_mk0))))))) (fun _ _ => rfl) rfl
    (hg.frame _) hg.2.1 (ok_one (by kernel_rfl) rfl (okWide_bool_mk Yba.underlying4 _))⟩

theorem over : Rows.lawS5089ARankRow.holds Yba.pinned (OpenSpec.ofChange Rows.lawS5089ARankSpec) :=
  OpenClaim.holds_of_wide 3 Yba.f3 rfl rfl rfl rfl rfl rfl rfl ⟨rfl, rfl, rfl, rfl, rfl⟩ rfl rfl rfl rfl rfl (by kernel_rfl) Yba.func3 (by kernel_rfl)
    (of_decide_eq_true (by kernel_rfl)) (by unfold Func.isWrapper; first | (rw [if_pos (by decide +kernel)]; kernel_rfl) | (rw [if_neg (by decide +kernel)]; exact ⟨rfl, rfl⟩))
    (fun os started H enc _ => lifted os started H enc)

/-- ████ THE STATEMENT ████ -/
theorem proved : Rows.LawS5089ARankSaid :=
  over
#print axioms proved
end Go.Proofs.Ybulkdajg.lawS5089ARank
