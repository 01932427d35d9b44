import Derived.Test.YbulkdammGram2
import Derived.Test.YbulkdammSpares
namespace Go.Proofs.Ybulkdamm
open Go.RowKit
set_option linter.unusedVariables false

/-- Whether the word j has a code point outside the ranges; whether one of the first words has. -/
def alW (nz : Nat) (lo wd : Nat → Nat) (W : WF) (j : Nat) : Nat → Bool := alone (fun i => chr (lo i)) (zh lo wd) nz (W.f j) (W.x j)
def anyW (nz : Nat) (lo wd : Nat → Nat) (W : WF) : Nat → Bool
  | 0 => false
  | n + 1 => anyW nz lo wd W n || hasFalse (alW nz lo wd W n) (W.n n)
/-- What the law wants of its mark. -/
def wantW (nz m : Nat) (rc : Bool) (lo wd : Nat → Nat) (W : WF) : Bool := decide (0 < nz) && ((decide (0 < m) && (rc || decide (64 < m))) && !anyW nz lo wd W m)
theorem anyW_mono {nz : Nat} {lo wd : Nat → Nat} {W : WF} {n : Nat} (h : anyW nz lo wd W n = true) (n' : Nat) (hn : n ≤ n') : anyW nz lo wd W n' = true := by
  induction n' with
  | zero =>
    have : n = 0 := by omega
    subst this; exact h
  | succ n' ih =>
    by_cases e : n = n' + 1
    · subst e; exact h
    · simp [anyW, ih (by omega)]
theorem anyD_W (p SB PB EB TB sc tc : Nat) (tA : Option Addr) (n : Nat) (np : Nat → Nat) (pA eA : Nat → Option Addr) (pa ea cp ce : Nat → Nat) (nz m : Nat) (rc : Bool) (lo wd : Nat → Nat) (W : WF) (k : Nat) : anyD (gOf p SB PB EB TB sc tc tA n np pA eA pa ea cp ce nz m rc lo wd W) k = anyW nz lo wd W k := by
  induction k with
  | zero => rfl
  | succ k ih => rw [anyD, anyW, ih]; rfl
section
variable {w wr wx : World} {lo wd : Nat → Nat} {nz m : Nat} {W : WF} {tv lv hv wv fv : Value} {rc : Bool} {p PB EB n : Nat}
/-- The call of spares, as the law meets it. -/
theorem spares_law (hz : nz ≤ 1024) (hm : m ≤ 1024) (hok : WOk W m) (hrs : RS wr w.heap.size (rowsW lo wd nz m W tv lv hv wv fv)) (h : BK wr tv nz m rc p PB EB (nSF nz m rc) (nz + 1) (npF nz m rc 1) (nz + 1) (npF nz m rc 1) wx) :
    Calls Yba.prog 5 #[.pointer (some ⟨p, 0, none⟩)] wx fun e w' => ∃ SP, e = .returned (.slice (some ⟨SP, 0, none⟩) (nSF nz m rc) (nSF nz m rc)) ∧ Below wx.heap.size wx w' ∧ ∀ i, i < nSF nz m rc → w'.cell? ⟨SP, i, none⟩ = some (.bool (decide (i = 3 * nz) && wantW nz m rc lo wd W)) := by
  obtain ⟨sv, pv, ev, hbt⟩ := h
  obtain ⟨SB, PB', EB', TB, sc, tc, tA, pA, eA, pa, ea, cp, ce, hpv, hsv, hcap⟩ := mkG hz hm hok hrs (hbt.congr (np' := npF nz m rc) (ne' := npF nz m rc) (two rfl rfl) (two rfl rfl))
  refine (spares_any wx.heap.size _ wx hpv (shape_of hz hm hok) hcap (Nat.le_refl _)).mono ?_
  rintro e w' ⟨SP, rfl, hb, hc⟩
  refine ⟨SP, rfl, hb, fun i hi => ?_⟩
  have := hc i hi
  rw [this]
  simp only [wantB, unl, anyD_W, wantW]
  rfl
theorem nSF_le (hz : nz ≤ 1024) (hm : m ≤ 1024) : nSF nz m rc ≤ 10000 ∧ 3 * nz < nSF nz m rc := by
  have hd := dR_pos rc
  have hmd : m * dR rc ≤ m * 3 := Nat.mul_le_mul_left _ hd.2
  unfold nSF
  split <;> omega
theorem fin_no {n6 : Nat} (hc : (rc && decide (0 < m)) = false) (hn : n6 = 3 * nz + 3 + m * dR rc) (h : BK wr tv nz m rc p PB EB n6 (nz + 1) m (nz + 1) m wx) : BK wr tv nz m rc p PB EB (nSF nz m rc) (nz + 1) (npF nz m rc 1) (nz + 1) (npF nz m rc 1) wx := by
  have hno : ¬ (rc = true ∧ 0 < m) := fun h => by rw [h.1, decide_eq_true h.2] at hc; cases hc
  have e1 : nSF nz m rc = n6 := by rw [nSF, if_neg hno, hn, Nat.add_zero]
  have e2 : npF nz m rc 1 = m := by rw [npF, if_neg (by omega), if_neg hno]
  rw [e1, e2]
  exact h
theorem fin_yes {n6 : Nat} (hm0 : 0 < m) (hn : n6 = 3 * nz + 3 + m * dR true) (h : BK wr tv nz m true p PB EB (n6 + 2) (nz + 1) (m + 1) (nz + 1) (m + 1) wx) : BK wr tv nz m true p PB EB (nSF nz m true) (nz + 1) (npF nz m true 1) (nz + 1) (npF nz m true 1) wx := by
  have e1 : nSF nz m true = n6 + 2 := by rw [nSF, if_pos ⟨rfl, hm0⟩, hn]
  have e2 : npF nz m true 1 = m + 1 := by rw [npF, if_neg (by omega), if_pos ⟨rfl, hm0⟩]
  rw [e1, e2]
  exact h
/-- What the law wants, in two parts. -/
theorem want_two (cv : Bool) (h : (decide (0 < nz) && (decide (0 < m) && (rc || decide (64 < m)))) = cv) : (cv && !anyW nz lo wd W m) = wantW nz m rc lo wd W := by
  rw [← h, wantW, Bool.and_assoc]
end
end Go.Proofs.Ybulkdamm
