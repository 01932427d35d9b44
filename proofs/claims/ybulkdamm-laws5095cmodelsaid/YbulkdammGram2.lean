import Derived.Test.YbulkdammGram
import Derived.Test.YbulkdammPlain
namespace Go.Proofs.Ybulkdamm
open Go.RowKit
set_option linter.unusedVariables false
set_option linter.unusedSimpArgs false

theorem rowT_len (f : Nat → List Value) (s : Nat) (hf : ∀ i, (f i).length = s) (n : Nat) : (rowT f n).length = n * s := by
  induction n with
  | zero => simp [rowT]
  | succ n ih => rw [rowT, List.length_append, ih, hf, Nat.add_mul, Nat.one_mul]
theorem rowT_at (f : Nat → List Value) (s : Nat) (hf : ∀ i, (f i).length = s) (n i r : Nat) (hi : i < n) (hr : r < s) : (rowT f n)[i * s + r]? = (f i)[r]? := by
  induction n with
  | zero => omega
  | succ n ih =>
    have hl := rowT_len f s hf n
    rw [rowT]
    by_cases e : i < n
    · have h1 : (i + 1) * s ≤ n * s := Nat.mul_le_mul_right _ e
      rw [Nat.add_mul, Nat.one_mul] at h1
      rw [List.getElem?_append_left (by omega)]
      exact ih e
    · have : i = n := by omega
      subst this
      rw [List.getElem?_append_right (by omega), hl, show i * s + r - i * s = r by omega]
/-- A row's element, read. -/
theorem row_at {w : World} {base g cap n : Nat} {e : TypeId} {s : Nat} {f : Nat → List Value} (h : w.ownsRow base e s (.slice (some ⟨g, 0, none⟩) n cap) n (rowT f n)) (hf : ∀ i, (f i).length = s) (i r : Nat) (hi : i < n) (hr : r < s) {v : Value} (hv : (f i)[r]? = some v) : w.cell? ⟨g, i * s + r, none⟩ = some v := by
  have h1 : (i + 1) * s ≤ n * s := Nat.mul_le_mul_right _ hi
  rw [Nat.add_mul, Nat.one_mul] at h1
  rw [h.cellAt (i * s + r) (by omega), rowT_at f s hf n i r hi hr, hv]
theorem row_at1 {w : World} {base g cap n : Nat} {e : TypeId} {f : Nat → List Value} (h : w.ownsRow base e 1 (.slice (some ⟨g, 0, none⟩) n cap) n (rowT f n)) (hf : ∀ i, (f i).length = 1) (i : Nat) (hi : i < n) {v : Value} (hv : (f i)[0]? = some v) : w.cell? ⟨g, i, none⟩ = some v := by
  have := row_at h hf i 0 hi (by omega) hv
  simpa using this

/-- How a row's value looks: one block, or none where it holds nothing. -/
theorem form2 {w : World} {base : Nat} {e : TypeId} {size : Nat} {v : Value} {n : Nat} {xs : List Value} (h : w.ownsRow base e size v n xs) : ∃ a c b, v = .slice a n c ∧ (0 < n → a = some ⟨b, 0, none⟩ ∧ base ≤ b ∧ b < w.heap.size) := by
  obtain ⟨a, c, hv, ha⟩ := owns_form h
  by_cases hn : 0 < n
  · obtain ⟨b, c', hv', hb, _⟩ := h.form hn
    rw [hv] at hv'
    cases hv'
    have := ownLt h (k := b) (by rw [hv]; rfl)
    exact ⟨_, _, b, hv, fun _ => ⟨rfl, this.1, this.2⟩⟩
  · exact ⟨a, c, 0, hv, fun h => absurd h hn⟩
/-- The grammar that the law has built. -/
def gOf (p SB PB EB TB sc tc : Nat) (tA : Option Addr) (n : Nat) (np : Nat → Nat) (pA eA : Nat → Option Addr) (pa ea cp ce : Nat → Nat) (nz m : Nat) (rc : Bool) (lo wd : Nat → Nat) (W : WF) : G :=
  { p := p, SB := SB, PB := PB, EB := EB, TB := TB, sc := sc, tc := tc, tA := tA, nS := n, np := np, pA := pA, eA := eA, pa := pa, ea := ea, cp := cp, ce := ce, st := stF nz rc, en := enF nz m rc, nx := nxF nz m rc, lhs := lhF nz, alt := alF nz rc, nZ := nz, lo := fun i => chr (lo i), hi := zh lo wd, nB := m, wb := W.b, wc := W.c, wn := W.n, wf := W.f, wx := W.x, rc := rc }
/-- How many slots there are in the end. -/
def nSF (nz m : Nat) (rc : Bool) : Nat := 3 * nz + 3 + m * dR rc + (if rc = true ∧ 0 < m then 2 else 0)
def npF (nz m : Nat) (rc : Bool) (a : Nat) : Nat := if a = 0 then nz + 1 else if rc = true ∧ 0 < m then m + 1 else m
theorem shape_of {p SB PB EB TB sc tc : Nat} {tA : Option Addr} {pA eA : Nat → Option Addr} {pa ea cp ce : Nat → Nat} {nz m : Nat} {rc : Bool} {lo wd : Nat → Nat} {W : WF} (hz : nz ≤ 1024) (hm : m ≤ 1024) (hok : WOk W m) :
    Shape (gOf p SB PB EB TB sc tc tA (nSF nz m rc) (npF nz m rc) pA eA pa ea cp ce nz m rc lo wd W) := by
  have hd := dR_pos rc
  have hmd : m * dR rc ≤ m * 3 := Nat.mul_le_mul_left _ hd.2
  refine ⟨hz, hm, ?_, rfl, rfl, fun k hk => ⟨rfl, rfl, nxZ0 nz m rc k hk, nxZ1 nz m rc k hk⟩, ⟨rfl, rfl, nxX0 nz m rc, nxX1 nz m rc⟩, ?_, fun j hj => ?_, fun hr hB => ?_, fun i hi => ?_, fun j hj => ?_, fun j i hj hi => ?_⟩
  · show nSF nz m rc ≤ 10000
    unfold nSF
    split <;> omega
  · show 3 * nz + 2 < nSF nz m rc
    unfold nSF
    omega
  · have hj' : j < m := hj
    have h1 := mul_le_d m rc j hj
    rw [Nat.add_mul, Nat.one_mul] at h1
    show stF nz rc 1 j + 2 < nSF nz m rc + 1 ∧ nxF nz m rc (stF nz rc 1 j) = -((nz + j : Nat) : Int) - 1 ∧ (if rc = true then stF nz rc 1 j + 2 < nSF nz m rc ∧ enF nz m rc 1 j = stF nz rc 1 j + 2 ∧ nxF nz m rc (stF nz rc 1 j + 1) = 1 else enF nz m rc 1 j = stF nz rc 1 j + 1)
    have e1 : stF nz rc 1 j = 3 * nz + 3 + j * dR rc := rfl
    have e2 : enF nz m rc 1 j = 3 * nz + 3 + j * dR rc + (dR rc - 1) := by simp [enF, hj']
    have e3 := nxB nz m rc j 0 hj (by omega)
    rw [if_pos rfl, Nat.add_zero] at e3
    rw [e1, e2, e3]
    refine ⟨by unfold nSF; omega, rfl, ?_⟩
    cases hr : rc with
    | true =>
      subst hr
      rw [if_pos rfl]
      have e4 := nxB nz m true j 1 hj (by decide)
      rw [if_neg (by omega), if_neg (by decide)] at e4
      refine ⟨?_, rfl, e4⟩
      unfold nSF
      rw [if_pos ⟨rfl, by omega⟩]
      have : dR true = 3 := rfl
      omega
    | false => rw [if_neg (by decide)]; rfl
  · have hB' : 0 < m := hB
    have hr' : rc = true := hr
    subst hr'
    show stF nz true 1 m + 1 < nSF nz m true ∧ enF nz m true 1 m = stF nz true 1 m + 1 ∧ nxF nz m true (stF nz true 1 m) = -((nz : Nat) : Int) - 1
    have e1 : stF nz true 1 m = 3 * nz + 3 + m * dR true := rfl
    have e2 : enF nz m true 1 m = 3 * nz + 3 + m * dR true + 1 := by simp [enF]
    rw [e1, e2]
    refine ⟨?_, rfl, ?_⟩
    · unfold nSF; rw [if_pos ⟨rfl, hB'⟩]; omega
    · rw [nxF, if_neg (by omega), if_neg (by omega), if_neg (by omega), if_pos rfl]
  · have h1 := chr_le (lo i)
    show 0 ≤ chr (lo i) ∧ chr (lo i) ≤ zh lo wd i ∧ zh lo wd i ≤ 1000
    unfold zh
    omega
  · have := hok j hj
    exact ⟨this.1, this.2.1⟩
  · have := (hok j hj).2.2 i hi
    exact ⟨this.1, by have := this.2; show W.x j i ≤ 1000; omega⟩

section
variable {w wr wx : World} {lo wd : Nat → Nat} {nz m : Nat} {W : WF} {tv lv hv wv fv : Value} {rc : Bool} {p PB EB n : Nat} {np ne : Nat → Nat} {sv : Value} {pv ev : Nat → Value}
theorem termZ_len (lo wd : Nat → Nat) (i : Nat) : (termZ lo wd i).length = 5 := rfl
theorem termW_len (W : WF) (i : Nat) : (termW W i).length = 5 := rfl
theorem term_at (hrs : RS wr w.heap.size (rowsW lo wd nz m W tv lv hv wv fv)) {TB tc : Nat} (ht : tv = .slice (some ⟨TB, 0, none⟩) (nz + m) tc) : (∀ i r v, i < nz → r < 5 → (termZ lo wd i)[r]? = some v → wr.cell? ⟨TB, i * 5 + r, none⟩ = some v) ∧ (∀ j r v, j < m → r < 5 → (termW W j)[r]? = some v → wr.cell? ⟨TB, (nz + j) * 5 + r, none⟩ = some v) := by
  subst ht
  have ho := hrs.own _ List.mem_cons_self
  simp only at ho
  have hl := rowT_len _ 5 (termZ_len lo wd) nz
  refine ⟨fun i r v hi hr hv => ?_, fun j r v hj hr hv => ?_⟩
  · rw [ho.cellAt (i * 5 + r) (by omega), List.getElem?_append_left (by omega), rowT_at _ 5 (termZ_len lo wd) nz i r hi hr, hv]
  · rw [ho.cellAt ((nz + j) * 5 + r) (by omega), List.getElem?_append_right (by omega), hl, show (nz + j) * 5 + r - nz * 5 = j * 5 + r by omega, rowT_at _ 5 (termW_len W) m j r hj hr, hv]
theorem textsR_mem (W : WF) (m j : Nat) (hj : j < m) : textR W j ∈ textsR W m := by
  induction m with
  | zero => omega
  | succ m ih =>
    rw [textsR, List.mem_cons]
    by_cases e : j = m
    · subst e; exact .inl rfl
    · exact .inr (ih (by omega))
theorem text_own (hrs : RS wr w.heap.size (rowsW lo wd nz m W tv lv hv wv fv)) (j : Nat) (hj : j < m) : wr.ownsRow w.heap.size 21 1 (.slice (some ⟨W.b j, 0, none⟩) (W.n j) (W.c j)) (W.n j) (intsN (W.x j) (W.n j)) := hrs.own (textR W j) (by
  unfold rowsW
  exact List.mem_append.2 (.inr (textsR_mem W m j hj)))

theorem mkG (hz : nz ≤ 1024) (hm : m ≤ 1024) (hok : WOk W m) (hrs : RS wr w.heap.size (rowsW lo wd nz m W tv lv hv wv fv)) (h : BT wr tv nz m rc p PB EB (nSF nz m rc) (npF nz m rc) (npF nz m rc) sv pv ev wx) :
    ∃ SB PB EB TB sc tc tA pA eA pa ea cp ce, PV wx.heap.size wx (gOf p SB PB EB TB sc tc tA (nSF nz m rc) (npF nz m rc) pA eA pa ea cp ce nz m rc lo wd W) ∧ sv = .slice (some ⟨SB, 0, none⟩) (nSF nz m rc) sc ∧ nSF nz m rc ≤ sc := by
  have hsz := h.sz
  obtain ⟨l1, l2, l3, _⟩ := h.ps.lt
  have hn0 : 0 < nSF nz m rc := by unfold nSF; omega
  obtain ⟨sa, sc, SB, rfl, hsb⟩ := form2 h.ownS
  obtain ⟨rfl, hS1, hS2⟩ := hsb hn0
  have hcap := own_cap h.ownS
  obtain ⟨a0, c0, b0, e0, f0⟩ := form2 (h.ownP 0 (by omega))
  obtain ⟨a1, c1, b1, e1, f1⟩ := form2 (h.ownP 1 (by omega))
  obtain ⟨a2, c2, b2, e2, f2⟩ := form2 (h.ownE 0 (by omega))
  obtain ⟨a3, c3, b3, e3, f3⟩ := form2 (h.ownE 1 (by omega))
  obtain ⟨tA, tc, TB, ht, htb⟩ := form2 (hrs.own _ List.mem_cons_self)
  simp only at ht htb
  have hP0 := h.ownP 0 (by omega)
  have hP1 := h.ownP 1 (by omega)
  have hE0 := h.ownE 0 (by omega)
  have hE1 := h.ownE 1 (by omega)
  rw [e0] at hP0
  rw [e1] at hP1
  rw [e2] at hE0
  rw [e3] at hE1
  have hbs := h.bel.size
  have c6 := h.ps.c6
  rw [ht] at c6
  refine ⟨SB, PB, EB, TB, sc, tc, tA, fun a => if a = 0 then a0 else a1, fun a => if a = 0 then a2 else a3, fun a => if a = 0 then b0 else b1, fun a => if a = 0 then b2 else b3, fun a => if a = 0 then c0 else c1, fun a => if a = 0 then c2 else c3, ?_, rfl, hcap⟩
  refine { bp := by show p < _; omega, bS := hS2, bP := by show PB < _; omega, bE := by show EB < _; omega, slots := h.ps.c0, prods := h.ps.c1, ends := h.ps.c2, terms := c6, rowP := two ?_ ?_, rowE := two ?_ ?_, atP := fun a k ha => ?_, atE := fun a k ha => ?_, slot := fun i hi => ?_, term := fun ht0 => ?_, range := fun i hi => ?_, word := fun j hj => ?_, wordx := fun j i hj hi => ?_ }
  · have := h.ps.pr' 0 (by omega); rw [e0] at this; exact this
  · have := h.ps.pr' 1 (by omega); rw [e1] at this; exact this
  · have := h.ps.en' 0 (by omega); rw [e2] at this; exact this
  · have := h.ps.en' 1 (by omega); rw [e3] at this; exact this
  · match a, ha with
    | 0, _ =>
      intro hk
      have hk' : k < npF nz m rc 0 := hk
      obtain ⟨rfl, q1, q2⟩ := f0 (by omega)
      exact ⟨rfl, q2, row_at1 hP0 (fun _ => rfl) k hk' rfl⟩
    | 1, _ =>
      intro hk
      have hk' : k < npF nz m rc 1 := hk
      obtain ⟨rfl, q1, q2⟩ := f1 (by omega)
      exact ⟨rfl, q2, row_at1 hP1 (fun _ => rfl) k hk' rfl⟩
  · match a, ha with
    | 0, _ =>
      intro hk
      have hk' : k < npF nz m rc 0 := hk
      obtain ⟨rfl, q1, q2⟩ := f2 (by omega)
      exact ⟨rfl, q2, row_at1 hE0 (fun _ => rfl) k hk' rfl⟩
    | 1, _ =>
      intro hk
      have hk' : k < npF nz m rc 1 := hk
      obtain ⟨rfl, q1, q2⟩ := f3 (by omega)
      exact ⟨rfl, q2, row_at1 hE1 (fun _ => rfl) k hk' rfl⟩
  · have hi' : i < nSF nz m rc := hi
    exact ⟨row_at h.ownS (fun _ => rfl) i 0 hi' (by omega) rfl, row_at h.ownS (fun _ => rfl) i 1 hi' (by omega) rfl, row_at h.ownS (fun _ => rfl) i 2 hi' (by omega) rfl⟩
  · obtain ⟨q1, q2, q3⟩ := htb ht0
    exact ⟨q1, by show TB < _; omega⟩
  · have hi' : i < nz := hi
    obtain ⟨rfl, q2, q3⟩ := htb (by omega)
    have ta := (term_at hrs ht).1
    exact ⟨keepW h.bel (ta i 0 _ hi' (by omega) rfl), keepW h.bel (ta i 2 _ hi' (by omega) rfl), keepW h.bel (ta i 3 _ hi' (by omega) rfl)⟩
  · have hj' : j < m := hj
    obtain ⟨rfl, q2, q3⟩ := htb (by omega)
    have ta := (term_at hrs ht).2
    refine ⟨keepW h.bel (ta j 0 _ hj' (by omega) rfl), keepW h.bel (ta j 1 _ hj' (by omega) rfl), ?_⟩
    have := (ownLt (text_own hrs j hj') (k := W.b j) rfl).2
    show W.b j < _
    omega
  · have hj' : j < m := hj
    have hi' : i < W.n j := hi
    exact keepW h.bel (row_at1 (text_own hrs j hj') (fun _ => rfl) i hi' rfl)
/-- The law's own rows, read behind the call. -/
theorem rows_read {wS : World} (hz : nz ≤ 1024) (hrs : RS wr w.heap.size (rowsW lo wd nz m W tv lv hv wv fv)) (hb : Below wr.heap.size wr wS) :
    (∀ c, Calls Yba.prog 6 #[.int .i32 c, lv, hv] wS fun e w' => e = .returned (.bool (covN (fun i => chr (lo i)) (zh lo wd) c nz)) ∧ w' = wS) ∧ (0 < m → ∃ wq wc fq fc, wv = .slice (some ⟨wq, 0, none⟩) m wc ∧ fv = .slice (some ⟨fq, 0, none⟩) m fc ∧ ∀ j, j < m → wS.cell? ⟨wq, j, none⟩ = some (.slice (some ⟨W.b j, 0, none⟩) (W.n j) (W.c j)) ∧ wS.cell? ⟨fq, j, none⟩ = some (.bool (W.f j)) ∧ ∀ i, i < W.n j → wS.cell? ⟨W.b j, i, none⟩ = some (.int .i32 (W.x j i))) := by
  have h1 := hrs.own ⟨21, 1, lv, nz, rowT (fun i => [.int .i32 (chr (lo i))]) nz⟩ (by simp [rowsW])
  have h2 := hrs.own ⟨21, 1, hv, nz, rowT (fun i => [.int .i32 (zh lo wd i)]) nz⟩ (by simp [rowsW])
  have h3 := hrs.own ⟨27, 1, wv, m, rowT (fun j => [.slice (some ⟨W.b j, 0, none⟩) (W.n j) (W.c j)]) m⟩ (by simp [rowsW])
  have h4 := hrs.own ⟨4, 1, fv, m, rowT (fun j => [.bool (W.f j)]) m⟩ (by simp [rowsW])
  simp only at h1 h2 h3 h4
  refine ⟨fun c => ?_, fun hm0 => ?_⟩
  · obtain ⟨la, lc, lb, rfl, f1⟩ := form2 h1
    obtain ⟨ha, hc, hb', rfl, f2⟩ := form2 h2
    by_cases h0 : nz = 0
    · exact in_any c la ha lb hb' nz lc hc _ _ wS (by omega) (.inl h0) (fun i hi => by omega) (fun i hi => by omega)
    · obtain ⟨rfl, _⟩ := f1 (by omega)
      obtain ⟨rfl, _⟩ := f2 (by omega)
      exact in_any c _ _ lb hb' nz lc hc _ _ wS (by omega) (.inr ⟨rfl, rfl⟩) (fun i hi => keepW hb (row_at1 h1 (fun _ => rfl) i hi rfl)) (fun i hi => keepW hb (row_at1 h2 (fun _ => rfl) i hi rfl))
  · obtain ⟨wq, wc, wb, rfl, f1⟩ := form2 h3
    obtain ⟨fq, fc, fb, rfl, f2⟩ := form2 h4
    obtain ⟨rfl, _⟩ := f1 hm0
    obtain ⟨rfl, _⟩ := f2 hm0
    exact ⟨_, _, _, _, rfl, rfl, fun j hj => ⟨keepW hb (row_at1 h3 (fun _ => rfl) j hj rfl), keepW hb (row_at1 h4 (fun _ => rfl) j hj rfl), fun i hi => keepW hb (row_at1 (text_own hrs j hj) (fun _ => rfl) i hi rfl)⟩⟩
end
/-- What the law's own test asks of a code point. -/
theorem alone_plain (lo hi : Nat → Int) (n : Nat) (f : Bool) (x : Nat → Int) (k : Nat) (h : (f && alpha (x k)) = false) : alone lo hi n f x k = covN lo hi (x k) n := by
  simp [alone, vars, h, anyNot]
theorem alone_fold (lo hi : Nat → Int) (n : Nat) (f : Bool) (x : Nat → Int) (k : Nat) (h : (f && alpha (x k)) = true) : alone lo hi n f x k = (covN lo hi (lower (x k)) n && covN lo hi (lower (x k) - 32) n) := by
  simp [alone, vars, h, anyNot]
theorem anyD_mono {g : G} {n : Nat} (h : anyD g n = true) (n' : Nat) (hn : n ≤ n') : anyD g n' = true := by
  induction n' with
  | zero => have : n = 0 := by omega
            subst this; exact h
  | succ n' ih =>
    by_cases e : n = n' + 1
    · subst e; exact h
    · simp [anyD, ih (by omega)]
end Go.Proofs.Ybulkdamm
