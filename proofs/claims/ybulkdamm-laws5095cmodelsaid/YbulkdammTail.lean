import Derived.Test.YbulkdammS13
import Derived.Test.YbulkdammS14
import Derived.Test.YbulkdammS18
import Derived.Test.YbulkdammS21t
import Derived.Test.YbulkdammS21f
import Derived.Test.YbulkdammS22
import Derived.Test.YbulkdammS23
import Derived.Test.YbulkdammS25
import Derived.Test.YbulkdammS26
namespace Go.Proofs.Ybulkdamm
open Go.RowKit
set_option linter.unusedVariables false

/-- The law's post. -/
def QL (w : World) : Exit → Act → World → Prop := bodyPost Yba.prog Yba.f3 (fun e w' => e = .returned (.bool true) ∧ Below w.heap.size w w')
theorem QL_put (w : World) : ∀ c (a : Act) d v w', QL w (.panic c) (a.put d v) w' → QL w (.panic c) a w' := fun c a d v w' h => by
  cases d <;> exact h
theorem tail26 (w wz : World) (nz m : Nat) (rc : Bool) (p PB EB : Nat) (ta : Option Addr) (tc : Nat) (v10 v11 v16 v17 : Value) (W : WF) (lo wd : Nat → Nat) (n SP : Nat) (hn : n = 3 * nz) (hnz : nz ≤ 1024) (hm2 : m ≤ 1024) (hbel : Below w.heap.size w wz)
    (a : Act) (w0 : World) (hF : FR a rc nz m p v10 v11 v16 v17) (hx25 : a.eval (.tmp 25) = .int .i64 (n : Nat)) (hx31 : a.eval (.tmp 31) = .slice (some ⟨SP, 0, none⟩) (nSF nz m rc) (nSF nz m rc)) (hx32 : a.eval (.tmp 32) = .bool (wantW nz m rc lo wd W)) (hS : SD wz nz m rc lo wd W p SP w0) : (restN 26 lawBody).wp Yba.prog (QL w) a w0 := by
  obtain ⟨⟨s0, s1, hc⟩, hb, hmk⟩ := hS
  refine rest26 w wz nz m rc p PB EB ta tc v10 v11 v16 v17 n SP (nSF nz m rc) _ s0 s1 (nSF_le hnz hm2).1 a w0 (fun i hi => ?_) hc (hbel.trans (hb.mono hbel.size)) hF hx25 hx31 hx32
  rw [hn]; exact hmk i hi
theorem tail23 (w wz : World) (nz m : Nat) (rc : Bool) (p PB EB : Nat) (ta : Option Addr) (tc : Nat) (v10 v11 v16 v17 : Value) (W : WF) (lo wd : Nat → Nat) (n : Nat) (hn : n = 3 * nz) (hnz : nz ≤ 1024) (hm2 : m ≤ 1024) (hok : WOk W m) (hbel : Below w.heap.size w wz) (hrs : RS wz w.heap.size (rowsW lo wd nz m W (.slice ta (nz + m) tc) v10 v11 v16 v17))
    (a : Act) (w0 : World) (hF : FR a rc nz m p v10 v11 v16 v17) (hx25 : a.eval (.tmp 25) = .int .i64 (n : Nat)) (hB : BK wz (.slice ta (nz + m) tc) nz m rc p PB EB (nSF nz m rc) (nz + 1) (npF nz m rc 1) (nz + 1) (npF nz m rc 1) w0) : (restN 23 lawBody).wp Yba.prog (QL w) a w0 := by
  refine wp_two rfl (stmt23 w wz nz m rc p PB EB ta tc v10 v11 v16 v17 W lo wd n hn hnz hm2 hok hrs a w0 hF hx25 hB _ _ (fun a1 w1 SP hF1 h25 h31 hS => ?_))
  refine wp_two rfl (stmt24 w wz nz m rc p PB EB ta tc v10 v11 v16 v17 n SP _ a1 w1 hF1 h25 h31 _ _ (fun a2 hF2 h25 h31 h32 => ?_))
  refine wp_two rfl (stmt25 w wz nz m rc p PB EB ta tc v10 v11 v16 v17 W lo wd n SP _ hnz hm2 hok hrs a2 w1 hS.2.1 hF2 h25 h31 h32 _ _ (fun a3 hF3 h25 h31 h32 => ?_))
  exact tail26 w wz nz m rc p PB EB ta tc v10 v11 v16 v17 W lo wd n SP hn hnz hm2 hbel a3 w1 hF3 h25 h31 h32 hS
theorem tail22 (w wz : World) (nz m : Nat) (rc : Bool) (p PB EB : Nat) (ta : Option Addr) (tc : Nat) (v10 v11 v16 v17 : Value) (W : WF) (lo wd : Nat → Nat) (n : Nat) (hn : n = 3 * nz) (hnz : nz ≤ 1024) (hm2 : m ≤ 1024) (hok : WOk W m) (hbel : Below w.heap.size w wz) (hrs : RS wz w.heap.size (rowsW lo wd nz m W (.slice ta (nz + m) tc) v10 v11 v16 v17))
    (a : Act) (w0 : World) (hF : FR a rc nz m p v10 v11 v16 v17) (hx25 : a.eval (.tmp 25) = .int .i64 (n : Nat)) (hx26 : a.eval (.tmp 26) = .int .i32 (m : Nat)) (hB : BK wz (.slice ta (nz + m) tc) nz m rc p PB EB (3 * nz + 3 + m * dR rc) (nz + 1) m (nz + 1) m w0) : (restN 22 lawBody).wp Yba.prog (QL w) a w0 := by
  refine wp_two rfl (stmt22 w wz nz m rc p PB EB ta tc v10 v11 v16 v17 n _ rfl hnz hm2 a w0 hF hx25 hx26 hB _ _ (QL_put w) (fun a1 w1 hF1 h25 hB1 => ?_))
  exact tail23 w wz nz m rc p PB EB ta tc v10 v11 v16 v17 W lo wd n hn hnz hm2 hok hbel hrs a1 w1 hF1 h25 hB1
theorem tail21 (w wz : World) (nz m : Nat) (rc : Bool) (p PB EB : Nat) (ta : Option Addr) (tc : Nat) (v10 v11 v16 v17 : Value) (W : WF) (lo wd : Nat → Nat) (n : Nat) (hn : n = 3 * nz) (hnz : nz ≤ 1024) (hm2 : m ≤ 1024) (hok : WOk W m) (hbel : Below w.heap.size w wz) (hrs : RS wz w.heap.size (rowsW lo wd nz m W (.slice ta (nz + m) tc) v10 v11 v16 v17))
    (a : Act) (w0 : World) (hF : FR a rc nz m p v10 v11 v16 v17) (hx25 : a.eval (.tmp 25) = .int .i64 (n : Nat)) (hx26 : a.eval (.tmp 26) = .int .i32 0) (hB : BK wz (.slice ta (nz + m) tc) nz m rc p PB EB (3 * nz + 3) (nz + 1) 0 (nz + 1) 0 w0) : (restN 21 lawBody).wp Yba.prog (QL w) a w0 := by
  cases rc with
  | true =>
    refine wp_two rfl (stmt21t w wz nz m p PB EB ta tc v10 v11 v16 v17 n hnz hm2 a w0 hF hx25 hx26 hB _ _ (QL_put w) (fun a1 w1 hF1 h25 h26 hB1 => ?_))
    exact tail22 w wz nz m true p PB EB ta tc v10 v11 v16 v17 W lo wd n hn hnz hm2 hok hbel hrs a1 w1 hF1 h25 h26 hB1
  | false =>
    refine wp_two rfl (stmt21f w wz nz m p PB EB ta tc v10 v11 v16 v17 n hnz hm2 a w0 hF hx25 hx26 hB _ _ (QL_put w) (fun a1 w1 hF1 h25 h26 hB1 => ?_))
    exact tail22 w wz nz m false p PB EB ta tc v10 v11 v16 v17 W lo wd n hn hnz hm2 hok hbel hrs a1 w1 hF1 h25 h26 hB1
/-- From the first loop over the ranges' productions on to the end. -/
theorem tail13 (w wz : World) (nz m : Nat) (rc : Bool) (p PB EB : Nat) (ta : Option Addr) (tc : Nat) (v10 v11 v16 v17 : Value) (lo wd : Nat → Nat) (hnz : nz ≤ 1024) (hm2 : m ≤ 1024) (hWS : WSt w lo wd nz m v10 v11 (.slice ta (nz + m) tc) v16 v17 wz)
    (a : Act) (w0 : World) (hF : FR a rc nz m p v10 v11 v16 v17) (hB : BK wz (.slice ta (nz + m) tc) nz m rc p PB EB 0 0 0 0 0 w0) : (restN 13 lawBody).wp Yba.prog (QL w) a w0 := by
  obtain ⟨W, hok, hbel, hrs⟩ := hWS
  refine wp_two rfl (stmt13 w wz nz m rc p PB EB ta tc v10 v11 v16 v17 hnz a w0 hF hB _ _ (QL_put w) (fun a1 w1 hF1 hB1 => ?_))
  refine wp_two rfl (stmt14 w wz nz m rc p PB EB ta tc v10 v11 v16 v17 _ rfl hnz a1 w1 hF1 hB1 _ _ (QL_put w) (fun a2 w2 hF2 h25 hB2 => ?_))
  refine wp_two rfl (stmt15 w wz nz m rc p PB EB ta tc v10 v11 v16 v17 _ rfl hnz a2 w2 hF2 h25 hB2 _ _ (QL_put w) (fun a3 w3 hF3 h25 hB3 => ?_))
  refine wp_two rfl (stmt16 w wz nz m rc p PB EB ta tc v10 v11 v16 v17 _ rfl hnz a3 w3 hF3 h25 hB3 _ _ (QL_put w) (fun a4 w4 hF4 h25 hB4 => ?_))
  refine wp_two rfl (stmt17 w wz nz m rc p PB EB ta tc v10 v11 v16 v17 _ rfl hnz a4 w4 hF4 h25 hB4 _ _ (QL_put w) (fun a5 w5 hF5 h25 hB5 => ?_))
  refine wp_two rfl (stmt18 w wz nz m rc p PB EB ta tc v10 v11 v16 v17 _ rfl hnz a5 w5 hF5 h25 hB5 _ _ (QL_put w) (fun a6 w6 hF6 h25 hB6 => ?_))
  refine wp_two rfl (stmt19 w wz nz m rc p PB EB ta tc v10 v11 v16 v17 _ rfl hnz a6 w6 hF6 h25 hB6 _ _ (QL_put w) (fun a7 w7 hF7 h25 hB7 => ?_))
  refine wp_two rfl (stmt20 w wz nz m rc p PB EB ta tc v10 v11 v16 v17 _ rfl hnz a7 w7 hF7 h25 hB7 _ _ (QL_put w) (fun a8 w8 hF8 h25 h26 hB8 => ?_))
  exact tail21 w wz nz m rc p PB EB ta tc v10 v11 v16 v17 W lo wd _ rfl hnz hm2 hok hbel hrs a8 w8 hF8 h25 h26 hB8
end Go.Proofs.Ybulkdamm
