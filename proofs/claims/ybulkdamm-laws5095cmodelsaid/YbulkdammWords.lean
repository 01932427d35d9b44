import Derived.Test.YbulkdammBuild
namespace Go.Proofs.Ybulkdamm
open Go.RowKit
set_option linter.unusedVariables false
set_option linter.unusedSimpArgs false

theorem RS.insNil {w : World} {base : Nat} (A B : List Row) (h : RS w base (A ++ B)) (e : TypeId) (s : Nat) : RS w base (A ++ ⟨e, s, .slice none 0 0, 0, []⟩ :: B) := by
  have hp := h.apart
  rw [List.pairwise_append] at hp
  refine ⟨fun r hr => ?_, ?_⟩
  · rw [List.mem_append, List.mem_cons] at hr
    rcases hr with hr | rfl | hr
    · exact h.own r (by simp [hr])
    · exact World.ownsRow_nil _ _ _ _
    · exact h.own r (by simp [hr])
  · rw [List.pairwise_append, List.pairwise_cons]
    refine ⟨hp.1, ⟨fun q hq k hk => by simp [Value.ownBlock] at hk, hp.2.1⟩, fun q hq q' hq' k hk => ?_⟩
    rw [List.mem_cons] at hq'
    rcases hq' with rfl | hq'
    · simp [Value.ownBlock]
    · exact hp.2.2 q hq q' hq' k hk
/-- The first row goes behind the first few. -/
theorem RS.move {w : World} {base : Nat} (A B : List Row) (r : Row) (h : RS w base (r :: (A ++ B))) : RS w base (A ++ r :: B) := by
  have hp := h.apart
  rw [List.pairwise_cons, List.pairwise_append] at hp
  refine ⟨fun q hq => h.own q ?_, ?_⟩
  · simp only [List.mem_append, List.mem_cons] at hq ⊢
    rcases hq with hq | rfl | hq
    · exact .inr (.inl hq)
    · exact .inl rfl
    · exact .inr (.inr hq)
  · rw [List.pairwise_append, List.pairwise_cons]
    refine ⟨hp.2.1, ⟨fun q hq => hp.1 q (by simp [hq]), hp.2.2.1⟩, fun q hq q' hq' k hk => ?_⟩
    rw [List.mem_cons] at hq'
    rcases hq' with rfl | hq'
    · exact fun e => hp.1 q (by simp [hq]) k e hk
    · exact hp.2.2.2 q hq q' hq' k hk
/-- The law's arguments as they lie. -/
structure LA (w : World) (za wa : Option Addr) (zb zo wb wo nz nw : Nat) (lo wd : Nat → Nat) (tx : Nat → ByteArray) (fd : Nat → Bool) : Prop where
  z : ∀ i, i < nz → za = some ⟨zb, zo, none⟩ ∧ w.cell? ⟨zb, zo + i * 2, none⟩ = some (.int .u8 (lo i)) ∧ w.cell? ⟨zb, zo + i * 2 + 1, none⟩ = some (.int .u8 (wd i)) ∧ lo i < 256 ∧ wd i < 256
  w' : ∀ i, i < nw → wa = some ⟨wb, wo, none⟩ ∧ w.cell? ⟨wb, wo + i * 2, none⟩ = some (.string (tx i)) ∧ w.cell? ⟨wb, wo + i * 2 + 1, none⟩ = some (.bool (fd i)) ∧ (tx i).size ≤ 4611686018427387904
theorem LA.below {w w' : World} {za wa : Option Addr} {zb zo wb wo nz nw : Nat} {lo wd : Nat → Nat} {tx : Nat → ByteArray} {fd : Nat → Bool} (h : LA w za wa zb zo wb wo nz nw lo wd tx fd) (hb : Below w.heap.size w w') : LA w' za wa zb zo wb wo nz nw lo wd tx fd :=
  ⟨fun i hi => by obtain ⟨a, b, c, d⟩ := h.z i hi; exact ⟨a, keepW hb b, keepW hb c, d⟩, fun i hi => by obtain ⟨a, b, c, d⟩ := h.w' i hi; exact ⟨a, keepW hb b, keepW hb c, d⟩⟩
def sumS (tx : Nat → ByteArray) : Nat → Nat
  | 0 => 0
  | i + 1 => sumS tx i + (tx i).size

def rowT (f : Nat → List Value) : Nat → List Value
  | 0 => []
  | k + 1 => rowT f k ++ f k
theorem sumS_le {tx : Nat → ByteArray} {n : Nat} (i : Nat) (hi : i < n) : (tx i).size ≤ sumS tx n := by
  induction n with
  | zero => omega
  | succ n ih =>
    unfold sumS
    by_cases e : i = n
    · subst e; omega
    · have := ih (by omega); omega
theorem info32 : (Yba.prog.info? 32).map (fun i => (i.zero, i.size, i.bytes)) = some (some (.agg #[.slice none 0 0, .bool false, .int .i32 0, .int .i32 0, .string ByteArray.empty]), 5, 56) := by kernel_rfl
theorem chr_le (b : Nat) : 0 ≤ chr b ∧ chr b ≤ 125 := by
  have : b % 8 < 8 := by omega
  unfold chr
  generalize b % 8 = c at *
  match c, this with
  | 0, _ => decide
  | 1, _ => decide
  | 2, _ => decide
  | 3, _ => decide
  | 4, _ => decide
  | 5, _ => decide
  | 6, _ => decide
  | 7, _ => decide
def zh (lo wd : Nat → Nat) (i : Nat) : Int := chr (lo i) + ((wd i % 3 : Nat) : Int)
def termZ (lo wd : Nat → Nat) (i : Nat) : List Value := [.slice none 0 0, .bool false, .int .i32 (chr (lo i)), .int .i32 (zh lo wd i), .string ByteArray.empty]

/-- The words so far: where their texts lie, and what they hold. -/
structure WF where
  b : Nat → Nat
  c : Nat → Nat
  n : Nat → Nat
  x : Nat → Nat → Int
  f : Nat → Bool
def termW (W : WF) (j : Nat) : List Value := [.slice (some ⟨W.b j, 0, none⟩) (W.n j) (W.c j), .bool (W.f j), .int .i32 0, .int .i32 0, .string ByteArray.empty]
def intsN (x : Nat → Int) : Nat → List Value := rowT (fun i => [.int .i32 (x i)])
def textR (W : WF) (j : Nat) : Row := ⟨21, 1, .slice (some ⟨W.b j, 0, none⟩) (W.n j) (W.c j), W.n j, intsN (W.x j) (W.n j)⟩
def textsR (W : WF) : Nat → List Row
  | 0 => []
  | m + 1 => textR W m :: textsR W m
/-- The law's rows behind the words. -/
def rowsW (lo wd : Nat → Nat) (nz m : Nat) (W : WF) (tv lv hv wv fv : Value) : List Row :=
  [⟨32, 5, tv, nz + m, rowT (termZ lo wd) nz ++ rowT (termW W) m⟩, ⟨21, 1, lv, nz, rowT (fun i => [.int .i32 (chr (lo i))]) nz⟩, ⟨21, 1, hv, nz, rowT (fun i => [.int .i32 (zh lo wd i)]) nz⟩,
   ⟨27, 1, wv, m, rowT (fun j => [.slice (some ⟨W.b j, 0, none⟩) (W.n j) (W.c j)]) m⟩, ⟨4, 1, fv, m, rowT (fun j => [.bool (W.f j)]) m⟩] ++ textsR W m
def WOk (W : WF) (m : Nat) : Prop := ∀ j, j < m → 1 ≤ W.n j ∧ W.n j ≤ 8192 ∧ ∀ i, i < W.n j → 0 ≤ W.x j i ∧ W.x j i ≤ 125
def WSt (w : World) (lo wd : Nat → Nat) (nz m : Nat) (lv hv tv wv fv : Value) (wr : World) : Prop := ∃ W, WOk W m ∧ Below w.heap.size w wr ∧ RS wr w.heap.size (rowsW lo wd nz m W tv lv hv wv fv)
theorem rowT_congr {f f' : Nat → List Value} {m : Nat} (h : ∀ j, j < m → f j = f' j) : rowT f m = rowT f' m := by
  induction m with
  | zero => rfl
  | succ m ih => rw [rowT, rowT, ih (fun j hj => h j (by omega)), h m (by omega)]
def WF.put (W : WF) (m b c n : Nat) (x : Nat → Int) (f : Bool) : WF := ⟨upN W.b m b, upN W.c m c, upN W.n m n, upN W.x m x, upN W.f m f⟩
theorem textsR_put (W : WF) (m b c n : Nat) (x : Nat → Int) (f : Bool) (k : Nat) (hk : k ≤ m) : textsR (W.put m b c n x f) k = textsR W k := by
  induction k with
  | zero => rfl
  | succ k ih =>
    rw [textsR, textsR, ih (by omega)]
    congr 1
    simp only [textR, WF.put, upN]
    rw [if_neg (by omega), if_neg (by omega), if_neg (by omega), if_neg (by omega)]
theorem rowsW_put (lo wd : Nat → Nat) (nz m : Nat) (W : WF) (tv lv hv wv fv : Value) (b c n : Nat) (x : Nat → Int) (f : Bool) :
    rowsW lo wd nz (m + 1) (W.put m b c n x f) tv lv hv wv fv = [⟨32, 5, tv, nz + (m + 1), rowT (termZ lo wd) nz ++ (rowT (termW W) m ++ [.slice (some ⟨b, 0, none⟩) n c, .bool f, .int .i32 0, .int .i32 0, .string ByteArray.empty])⟩, ⟨21, 1, lv, nz, rowT (fun i => [.int .i32 (chr (lo i))]) nz⟩, ⟨21, 1, hv, nz, rowT (fun i => [.int .i32 (zh lo wd i)]) nz⟩,
   ⟨27, 1, wv, m + 1, rowT (fun j => [.slice (some ⟨W.b j, 0, none⟩) (W.n j) (W.c j)]) m ++ [.slice (some ⟨b, 0, none⟩) n c]⟩, ⟨4, 1, fv, m + 1, rowT (fun j => [.bool (W.f j)]) m ++ [.bool f]⟩] ++ (⟨21, 1, .slice (some ⟨b, 0, none⟩) n c, n, intsN x n⟩ :: textsR W m) := by
  have e : ∀ j, j < m → j ≠ m := fun j hj => by omega
  have h1 : rowT (termW (W.put m b c n x f)) m = rowT (termW W) m := rowT_congr fun j hj => by simp [termW, WF.put, upN, e j hj]
  have h2 : rowT (fun j => [Value.slice (some ⟨(W.put m b c n x f).b j, 0, none⟩) ((W.put m b c n x f).n j) ((W.put m b c n x f).c j)]) m = rowT (fun j => [.slice (some ⟨W.b j, 0, none⟩) (W.n j) (W.c j)]) m := rowT_congr fun j hj => by simp [WF.put, upN, e j hj]
  have h3 : rowT (fun j => [Value.bool ((W.put m b c n x f).f j)]) m = rowT (fun j => [.bool (W.f j)]) m := rowT_congr fun j hj => by simp [WF.put, upN, e j hj]
  simp only [rowsW, textsR, rowT, h1, h2, h3, textsR_put W m b c n x f m (Nat.le_refl _)]
  simp [textR, termW, WF.put, upN]
theorem WOk.put {W : WF} {m : Nat} (h : WOk W m) (b c n : Nat) (x : Nat → Int) (f : Bool) (h1 : 1 ≤ n) (h2 : n ≤ 8192) (hx : ∀ i, i < n → 0 ≤ x i ∧ x i ≤ 125) : WOk (W.put m b c n x f) (m + 1) := fun j hj => by
  by_cases e : j = m
  · subst e; simp only [WF.put, upN, if_true]; exact ⟨h1, h2, hx⟩
  · simp only [WF.put, upN, if_neg e]; exact h j (by omega)

/-- The code point of a word's byte. -/
def byteC (s : ByteArray) (q : Nat) : Int := if h : q < s.size then chr (s[q]).toNat else 0
theorem byteC_le (s : ByteArray) (q : Nat) : 0 ≤ byteC s q ∧ byteC s q ≤ 125 := by
  unfold byteC
  split
  · exact chr_le _
  · omega
/-- In the loop over a word's bytes. -/
def WIn (w : World) (x : Nat → Int) (rows : List Row) (j : Nat) (xv : Value) (wx : World) : Prop := Below w.heap.size w wx ∧ RS wx w.heap.size (⟨21, 1, xv, j, intsN x j⟩ :: rows)
theorem made_size (z : Value) (n : Nat) : (madeCells #[z] n).size = n := by
  have := congrArg List.length (toList_madeCells_one z n)
  simpa using this
theorem WIn.start {w wr : World} {x : Nat → Int} {rows : List Row} (n : Nat) (hb : Below w.heap.size w wr) (h : RS wr w.heap.size rows) (hn : n ≤ 1000000) : WIn w x rows 0 (.slice (some ⟨wr.heap.size, 0, none⟩) 0 n) (wr.alloc (.cells (madeCells #[.int .i32 0] n) 21)) := by
  have hq : Below wr.heap.size wr (wr.alloc (.cells (madeCells #[.int .i32 0] n) 21)) := (Below.refl _ wr).alloc (Nat.le_refl _) _
  refine ⟨hb.trans (hq.mono hb.size), h.add _ hq ?_ (fun k hk => by simp [Value.ownBlock] at hk; omega)⟩
  exact World.ownsRow_made (e := 21) (size := 1) (base := w.heap.size) wr (madeCells #[.int .i32 0] n) n hb.size (by unfold maxLen; omega) (by rw [made_size]; omega)
end Go.Proofs.Ybulkdamm
