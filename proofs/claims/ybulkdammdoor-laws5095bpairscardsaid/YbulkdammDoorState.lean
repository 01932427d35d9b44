import Derived.Test.YbulkdammDoorMade
namespace Go.Proofs.YbulkdammDoor
open Go.RowKit
set_option linter.unusedVariables false

/-- The hash of a set of n members, 0 .. n - 1, behind j of them. -/
def hv (n : Nat) : Nat → Int
  | 0 => n
  | j + 1 => mixI (bits .xor .u64 (hv n j) j)
theorem hv_bounds (n j : Nat) (hn : n ≤ 1000) : 0 ≤ hv n j ∧ hv n j < 18446744073709551616 := by
  cases j with
  | zero => simp [hv]; omega
  | succ j => rw [hv, mixI]; exact bits_u64 _ _ _
/-- The hash of 0 .. g. -/
def key (g : Nat) : Int := hv (g + 1) (g + 1)
theorem key_bounds (g : Nat) (hg : g ≤ 100) : 0 ≤ key g ∧ key g < 18446744073709551616 := hv_bounds _ _ (by omega)

def stL : List Nat := [45, 37, 21, 55, 46, 11, 43, 12, 55, 3, 51, 34, 19, 26, 7, 39, 30, 22, 61, 0, 28, 2, 12, 9, 2, 19, 39, 50, 63, 55, 28]
def posL : List Nat := [45, 37, 21, 55, 46, 11, 43, 12, 56, 3, 51, 34, 19, 26, 7, 39, 30, 22, 61, 0, 28, 2, 13, 9, 4, 20, 40, 50, 63, 57, 29]
def st (g : Nat) : Nat := stL.getD (g - 1) 0
def pos (g : Nat) : Nat := posL.getD (g - 1) 0
def KT : Nat → Nat → Int
  | 0 => fun _ => 0
  | m + 1 => updI (KT m) (pos (m + 1)) (key (m + 1))
def BT : Nat → Nat → Int
  | 0 => fun _ => 0
  | m + 1 => updI (BT m) (pos (m + 1)) 1
def VT : Nat → Nat → Int
  | 0 => fun _ => 0
  | m + 1 => updI (VT m) (pos (m + 1)) (-2 - m)

theorem fact_start : ∀ m : Fin 31, startI (key (m.1 + 1)) = (st (m.1 + 1) : Int) := by decide +kernel
theorem fact_pos : ∀ m : Fin 31, st (m.1 + 1) ≤ pos (m.1 + 1) ∧ pos (m.1 + 1) < 64 ∧ pos (m.1 + 1) ≤ st (m.1 + 1) + 2 ∧ BT m.1 (pos (m.1 + 1)) = 0 := by decide +kernel
theorem fact_occ : ∀ m : Fin 31, ∀ d : Fin 2, st (m.1 + 1) + d.1 < pos (m.1 + 1) → BT m.1 (st (m.1 + 1) + d.1) = 1 ∧ KT m.1 (st (m.1 + 1) + d.1) ≠ key (m.1 + 1) := by decide +kernel

theorem probe (m : Nat) (hm : m < 31) : startI (key (m + 1)) = (st (m + 1) : Int) ∧ st (m + 1) ≤ pos (m + 1) ∧ pos (m + 1) < 64 ∧ BT m (pos (m + 1)) = 0 ∧
    ∀ t, st (m + 1) ≤ t → t < pos (m + 1) → BT m t = 1 ∧ KT m t ≠ key (m + 1) := by
  obtain ⟨p1, p2, p3, p4⟩ := fact_pos ⟨m, hm⟩
  refine ⟨fact_start ⟨m, hm⟩, p1, p2, p4, fun t h1 h2 => ?_⟩
  simp only at p1 p2 p3
  have := fact_occ ⟨m, hm⟩ ⟨t - st (m + 1), by omega⟩
  simp only at this
  rw [show st (m + 1) + (t - st (m + 1)) = t from by omega] at this
  exact this h2

/-- Where the members of union m begin. -/
def fs : Nat → Nat
  | 0 => 0
  | m + 1 => fs m + (m + 2)
def row (n : Nat) : List Value := (List.range n).map fun (j : Nat) => .int .i32 j
def mems : Nat → List Value
  | 0 => []
  | m + 1 => mems m ++ row (m + 2)
def unis : Nat → List Value
  | 0 => []
  | m + 1 => unis m ++ uni 0 0 (fs m) (fs (m + 1))
theorem row_length (n : Nat) : (row n).length = n := by simp [row]
theorem row_at (n j : Nat) (h : j < n) : (row n)[j]? = some (.int .i32 j) := by simp [row, List.getElem?_range h]
theorem mems_length (m : Nat) : (mems m).length = fs m := by
  induction m with
  | zero => rfl
  | succ m ih => simp [mems, fs, ih, row_length]
theorem unis_length (m : Nat) : (unis m).length = m * 6 := by
  induction m with
  | zero => rfl
  | succ m ih => simp [unis, ih, uni]; omega
theorem unis_last (m r : Nat) (hr : r < 6) : (unis (m + 1))[m * 6 + r]? = (uni 0 0 (fs m) (fs (m + 1)))[r]? := by
  rw [unis, List.getElem?_append_right (by rw [unis_length]; omega), unis_length, show m * 6 + r - m * 6 = r from by omega]
theorem mems_last (m j : Nat) (hj : j < m + 2) : (mems (m + 1))[fs m + j]? = some (.int .i32 j) := by
  rw [mems, List.getElem?_append_right (by rw [mems_length]; omega), mems_length, show fs m + j - fs m = j from by omega, row_at _ _ hj]
theorem fs_le : ∀ m : Fin 33, fs m.1 ≤ 600 := by decide +kernel

/-- The merging, with nu unions made (the union i holds 0 .. i + 1), the members of nm of them laid, nt of them in the table. -/
structure Stx (base M C nu nm nt : Nat) (w : World) (f : Nat → Value) : Prop where
  hbM : base ≤ M
  hb1 : 1 < base
  glob : w.cell? ⟨1, 63, none⟩ = some (.int .u8 6)
  mb : MB w M f
  same : ∃ a c, f 0 = .slice a C c
  un : w.ownsRow base 38 6 (f 5) nu (unis nu)
  me : w.ownsRow base 21 1 (f 6) (fs nm) (mems nm)
  se : ∃ n xs, w.ownsRow base 21 1 (f 18) n xs
  tab : nt = 0 ∧ f 7 = .slice none 0 0 ∧ f 8 = .int .u32 0 ∧ f 9 = .int .i64 0 ∧ f 10 = .int .i64 0 ∨ 1 ≤ nt ∧ ∃ T c, base ≤ T ∧ f 7 = .slice (some ⟨T, 0, none⟩) 64 c ∧ f 8 = .int .u32 1 ∧ f 9 = .int .i64 58 ∧ f 10 = .int .i64 (nt : Int) ∧
    TBF w T (KT nt) (BT nt) (VT nt) ∧ M ≠ T ∧ (f 5).ownBlock ≠ some T ∧ (f 6).ownBlock ≠ some T ∧ (f 18).ownBlock ≠ some T
  pairs : f 11 = .slice none 0 0 ∧ f 12 = .int .u32 0 ∧ f 13 = .int .i64 0 ∧ f 14 = .int .i64 0
  d5 : (f 5).ownBlock ≠ some M
  d6 : (f 6).ownBlock ≠ some M
  d18 : (f 18).ownBlock ≠ some M
  d56 : ∀ k, (f 5).ownBlock = some k → (f 6).ownBlock ≠ some k ∧ (f 18).ownBlock ≠ some k
  d68 : ∀ k, (f 6).ownBlock = some k → (f 18).ownBlock ≠ some k
abbrev St (base M C g : Nat) (w : World) (f : Nat → Value) : Prop := Stx base M C (g - 1) (g - 1) (g - 1) w f

theorem Stx.hbw {base M C nu nm nt : Nat} {w : World} {f : Nat → Value} (h : Stx base M C nu nm nt w f) : base ≤ w.heap.size := Nat.le_of_lt (Nat.lt_of_le_of_lt h.hbM h.mb.lt)

/-- The state in a world where nothing of it is written; one cell of the merging may be another than before. -/
theorem Stx.step {base M C nu nm nt : Nat} {w w' : World} {f f' : Nat → Value} (h : Stx base M C nu nm nt w f) {L : List Nat} (hc : Ch base L w w') (hmb : MB w' M f')
    (he : ∀ i, i < 16 ∨ i = 18 → f' i = f i) (hL : ∀ x ∈ L, base ≤ x ∧ (f 5).ownBlock ≠ some x ∧ (f 6).ownBlock ≠ some x ∧ (f 18).ownBlock ≠ some x ∧ f 7 ≠ .slice (some ⟨x, 0, none⟩) 64 64 ∧ ∀ c, f 7 ≠ .slice (some ⟨x, 0, none⟩) 64 c) : Stx base M C nu nm nt w' f' := by
  have n5 : ∀ x, (f 5).ownBlock = some x → x ∉ L := fun x hx hm => (hL x hm).2.1 hx
  have n6 : ∀ x, (f 6).ownBlock = some x → x ∉ L := fun x hx hm => (hL x hm).2.2.1 hx
  have n18 : ∀ x, (f 18).ownBlock = some x → x ∉ L := fun x hx hm => (hL x hm).2.2.2.1 hx
  have e0 := he 0 (by omega)
  have e5 := he 5 (by omega)
  have e6 := he 6 (by omega)
  have e18 := he 18 (by omega)
  have hM1 := h.hbM
  have hM2 := h.hb1
  refine ⟨h.hbM, h.hb1, ?_, hmb, by rw [e0]; exact h.same, by rw [e5]; exact owns_ch h.un hc n5, by rw [e6]; exact owns_ch h.me hc n6, ?_, ?_, by rw [he 11 (by omega), he 12 (by omega), he 13 (by omega), he 14 (by omega)]; exact h.pairs, by rw [e5]; exact h.d5, by rw [e6]; exact h.d6, by rw [e18]; exact h.d18, by rw [e5, e6, e18]; exact h.d56, by rw [e6, e18]; exact h.d68⟩
  · rw [hc.cell (p := ⟨1, 63, none⟩) (block_lt_of_cell h.glob) (fun hm => by have := (hL 1 hm).1; omega)]; exact h.glob
  · obtain ⟨n, xs, hs⟩ := h.se
    rw [e18]
    exact ⟨n, xs, owns_ch hs hc n18⟩
  · rw [he 7 (by omega), he 8 (by omega), he 9 (by omega), he 10 (by omega), e5, e6, e18]
    rcases h.tab with ht | ⟨h2, T, c, k1, k2, k3, k4, k5, k6, kM, kr⟩
    · exact .inl ht
    · exact .inr ⟨h2, T, c, k1, k2, k3, k4, k5, k6.ch hc (fun hm => (hL T hm).2.2.2.2.2 c k2), kM, kr⟩

theorem Stx.ch {base M C nu nm nt : Nat} {w w' : World} {f : Nat → Value} (h : Stx base M C nu nm nt w f) (hc : Ch base [] w w') : Stx base M C nu nm nt w' f :=
  h.step hc (h.mb.ch hc (by simp)) (fun _ _ => rfl) (by simp)

/-- The table does not lie in the merging. -/
theorem Stx.noM {base M C nu nm nt : Nat} {w : World} {f : Nat → Value} (h : Stx base M C nu nm nt w f) (c : Nat) : f 7 ≠ .slice (some ⟨M, 0, none⟩) 64 c := by
  intro e
  rcases h.tab with ⟨_, h7, _⟩ | ⟨_, T, c', _, k2, _, _, _, _, kM, _⟩
  · rw [h7] at e; cases e
  · rw [k2] at e; cases e; exact kM rfl
theorem Stx.tab_lt {base M C nu nm nt : Nat} {w : World} {f : Nat → Value} (h : Stx base M C nu nm nt w f) (x c : Nat) (e : f 7 = .slice (some ⟨x, 0, none⟩) 64 c) : x < w.heap.size ∧ (f 5).ownBlock ≠ some x ∧ (f 6).ownBlock ≠ some x ∧ (f 18).ownBlock ≠ some x := by
  rcases h.tab with ⟨_, h7, _⟩ | ⟨_, T, c', _, k2, _, _, _, k6, kM, kr⟩
  · rw [h7] at e; cases e
  · rw [k2] at e; cases e; exact ⟨k6.lt, kr⟩

/-- A cell of the merging that no law reads is written. -/
theorem Stx.setM {base M C nu nm nt : Nat} {w : World} {f : Nat → Value} (h : Stx base M C nu nm nt w f) (k : Nat) (v : Value) (hk : k = 16 ∨ k = 17) : Stx base M C nu nm nt (w.setCell ⟨M, k, none⟩ v) (upd f k v) :=
  h.step (L := [M]) ((Ch.refl base [M] w).setCell M k v h.hbM (by simp)) (h.mb.set k v (by omega)) (fun i hi => by unfold upd; rw [if_neg (by omega)])
    (by intro x hx; have : x = M := by simpa using hx
        subst this; exact ⟨h.hbM, h.d5, h.d6, h.d18, h.noM 64, h.noM⟩)

/-- The scratch set is another. -/
theorem Stx.newSet {base M C nu nm nt : Nat} {w w1 : World} {f : Nat → Value} (h : Stx base M C nu nm nt w f) (hc : Ch base (f 18).ownBlock.toList w w1) (S cap n : Nat) (xs : List Value)
    (ho : w1.ownsRow base 21 1 (.slice (some ⟨S, 0, none⟩) n cap) n xs) (hS : (f 18).ownBlock = some S ∨ w.heap.size ≤ S) :
    Stx base M C nu nm nt (w1.setCell ⟨M, 18, none⟩ (.slice (some ⟨S, 0, none⟩) n cap)) (upd f 18 (.slice (some ⟨S, 0, none⟩) n cap)) := by
  have hM := h.mb.lt
  have hM1 := h.hbM
  have hM2 := h.hb1
  have hse : ∀ k, (f 18).ownBlock = some k → base ≤ k := by obtain ⟨n, xs, hs⟩ := h.se; exact fun k hk => (hs.lt k hk).1
  have nM : M ∉ (f 18).ownBlock.toList := fun hm => h.d18 (by simpa using hm)
  have SM : S ≠ M := by
    rintro rfl
    rcases hS with hS | hS
    · exact h.d18 hS
    · omega
  have s5 : (f 5).ownBlock ≠ some S := fun e => by
    rcases hS with hS | hS
    · exact (h.d56 S e).2 hS
    · have := (h.un.lt S e).2; omega
  have s6 : (f 6).ownBlock ≠ some S := fun e => by
    rcases hS with hS | hS
    · exact h.d68 S e hS
    · have := (h.me.lt S e).2; omega
  have hcM : Ch base (M :: (f 18).ownBlock.toList) w (w1.setCell ⟨M, 18, none⟩ (.slice (some ⟨S, 0, none⟩) n cap)) := (hc.mono (by intro x hx; simp [hx])).setCell M 18 _ h.hbM (by simp)
  have e : ∀ i, i ≠ 18 → upd f 18 (.slice (some ⟨S, 0, none⟩) n cap) i = f i := fun i hi => by unfold upd; rw [if_neg hi]
  have e18 : upd f 18 (.slice (some ⟨S, 0, none⟩) n cap) 18 = .slice (some ⟨S, 0, none⟩) n cap := by unfold upd; rw [if_pos rfl]
  have n5 : ∀ x, (f 5).ownBlock = some x → x ∉ (M :: (f 18).ownBlock.toList) := fun x hx hm => by
    rcases List.mem_cons.1 hm with rfl | hm
    · exact h.d5 hx
    · exact (h.d56 x hx).2 (by simpa using hm)
  have n6 : ∀ x, (f 6).ownBlock = some x → x ∉ (M :: (f 18).ownBlock.toList) := fun x hx hm => by
    rcases List.mem_cons.1 hm with rfl | hm
    · exact h.d6 hx
    · exact h.d68 x hx (by simpa using hm)
  have ob : (Value.slice (some ⟨S, 0, none⟩) n cap).ownBlock = some S := rfl
  refine ⟨h.hbM, h.hb1, ?_, (h.mb.ch hc nM).set 18 _ (by omega), by rw [e 0 (by omega)]; exact h.same, by rw [e 5 (by omega)]; exact owns_ch h.un hcM n5, by rw [e 6 (by omega)]; exact owns_ch h.me hcM n6, ⟨n, xs, ?_⟩, ?_, by rw [e 11 (by omega), e 12 (by omega), e 13 (by omega), e 14 (by omega)]; exact h.pairs, by rw [e 5 (by omega)]; exact h.d5, by rw [e 6 (by omega)]; exact h.d6, by rw [e18, ob]; simpa using SM, ?_, ?_⟩
  · rw [hcM.cell (p := ⟨1, 63, none⟩) (block_lt_of_cell h.glob) (fun hm => by
      rcases List.mem_cons.1 hm with hm | hm
      · have : (1 : Nat) = M := hm
        omega
      · have := hse 1 (by simpa using hm); omega)]
    exact h.glob
  · rw [e18]
    exact owns_ch ho ((Ch.refl 0 [M] _).setCell M 18 _ (Nat.zero_le _) (by simp)) (owned_ne SM)
  · rw [e 7 (by omega), e 8 (by omega), e 9 (by omega), e 10 (by omega), e 5 (by omega), e 6 (by omega), e18, ob]
    rcases h.tab with ht | ⟨h2, T, c, k1, k2, k3, k4, k5, k6, kM, k7, k8, k9⟩
    · exact .inl ht
    · refine .inr ⟨h2, T, c, k1, k2, k3, k4, k5, k6.ch hcM (fun hm => ?_), kM, k7, k8, fun e => ?_⟩
      · rcases List.mem_cons.1 hm with hm | hm
        · exact kM hm.symm
        · exact k9 (by simpa using hm)
      · have : S = T := Option.some.inj e
        subst this
        rcases hS with hS | hS
        · exact k9 hS
        · have := k6.lt; omega
  · rw [e 5 (by omega), e 6 (by omega), e18, ob]
    exact fun k hk => ⟨(h.d56 k hk).1, fun e => s5 (by rw [hk]; exact e.symm)⟩
  · rw [e 6 (by omega), e18, ob]
    exact fun k hk e => s6 (by rw [hk]; exact e.symm)

/-- The members of one more union are laid. -/
theorem Stx.newMem {base M C nu nm nt : Nat} {w w1 : World} {f : Nat → Value} (h : Stx base M C nu nm nt w f) (hc : Ch base (f 6).ownBlock.toList w w1) (S cap : Nat)
    (ho : w1.ownsRow base 21 1 (.slice (some ⟨S, 0, none⟩) (fs (nm + 1)) cap) (fs (nm + 1)) (mems (nm + 1))) (hS : (f 6).ownBlock = some S ∨ w.heap.size ≤ S) :
    Stx base M C nu (nm + 1) nt (w1.setCell ⟨M, 6, none⟩ (.slice (some ⟨S, 0, none⟩) (fs (nm + 1)) cap)) (upd f 6 (.slice (some ⟨S, 0, none⟩) (fs (nm + 1)) cap)) := by
  have hM := h.mb.lt
  have hM1 := h.hbM
  have hM2 := h.hb1
  have hse : ∀ k, (f 6).ownBlock = some k → base ≤ k := fun k hk => (h.me.lt k hk).1
  have nM : M ∉ (f 6).ownBlock.toList := fun hm => h.d6 (by simpa using hm)
  obtain ⟨sn, sx, hse18⟩ := h.se
  have SM : S ≠ M := by
    rintro rfl
    rcases hS with hS | hS
    · exact h.d6 hS
    · omega
  have s5 : (f 5).ownBlock ≠ some S := fun e => by
    rcases hS with hS | hS
    · exact (h.d56 S e).1 hS
    · have := (h.un.lt S e).2; omega
  have s18 : (f 18).ownBlock ≠ some S := fun e => by
    rcases hS with hS | hS
    · exact h.d68 S hS e
    · have := (hse18.lt S e).2; omega
  generalize hV : (Value.slice (some ⟨S, 0, none⟩) (fs (nm + 1)) cap) = V at *
  have hcM : Ch base (M :: (f 6).ownBlock.toList) w (w1.setCell ⟨M, 6, none⟩ V) := (hc.mono (by intro x hx; simp [hx])).setCell M 6 _ h.hbM (by simp)
  have e : ∀ i, i ≠ 6 → upd f 6 V i = f i := fun i hi => by unfold upd; rw [if_neg hi]
  have e6 : upd f 6 V 6 = V := by unfold upd; rw [if_pos rfl]
  have n5 : ∀ x, (f 5).ownBlock = some x → x ∉ (M :: (f 6).ownBlock.toList) := fun x hx hm => by
    rcases List.mem_cons.1 hm with rfl | hm
    · exact h.d5 hx
    · exact (h.d56 x hx).1 (by simpa using hm)
  have n18 : ∀ x, (f 18).ownBlock = some x → x ∉ (M :: (f 6).ownBlock.toList) := fun x hx hm => by
    rcases List.mem_cons.1 hm with rfl | hm
    · exact h.d18 hx
    · exact h.d68 x (by simpa using hm) hx
  have ob : V.ownBlock = some S := by rw [← hV]; rfl
  refine ⟨h.hbM, h.hb1, ?_, (h.mb.ch hc nM).set 6 _ (by omega), by rw [e 0 (by omega)]; exact h.same, by rw [e 5 (by omega)]; exact owns_ch h.un hcM n5, ?_, ⟨sn, sx, by rw [e 18 (by omega)]; exact owns_ch hse18 hcM n18⟩, ?_, by rw [e 11 (by omega), e 12 (by omega), e 13 (by omega), e 14 (by omega)]; exact h.pairs, by rw [e 5 (by omega)]; exact h.d5, by rw [e6, ob]; simpa using SM, by rw [e 18 (by omega)]; exact h.d18, ?_, ?_⟩
  · rw [hcM.cell (p := ⟨1, 63, none⟩) (block_lt_of_cell h.glob) (fun hm => by
      rcases List.mem_cons.1 hm with hm | hm
      · have : (1 : Nat) = M := hm
        omega
      · have := hse 1 (by simpa using hm); omega)]
    exact h.glob
  · rw [e6]
    exact owns_ch ho ((Ch.refl 0 [M] _).setCell M 6 _ (Nat.zero_le _) (by simp)) (by rw [ob]; intro k hk hm; exact SM ((Option.some.inj hk).trans (by simpa using hm)))
  · rw [e 7 (by omega), e 8 (by omega), e 9 (by omega), e 10 (by omega), e 5 (by omega), e6, e 18 (by omega), ob]
    rcases h.tab with ht | ⟨h2, T, c, k1, k2, k3, k4, k5, k6, kM, k7, k8, k9⟩
    · exact .inl ht
    · refine .inr ⟨h2, T, c, k1, k2, k3, k4, k5, k6.ch hcM (fun hm => ?_), kM, k7, fun e => ?_, k9⟩
      · rcases List.mem_cons.1 hm with hm | hm
        · exact kM hm.symm
        · exact k8 (by simpa using hm)
      · have : S = T := Option.some.inj e
        subst this
        rcases hS with hS | hS
        · exact k8 hS
        · have := k6.lt; omega
  · rw [e 5 (by omega), e6, e 18 (by omega), ob]
    exact fun k hk => ⟨fun e => s5 (by rw [hk]; exact e.symm), (h.d56 k hk).2⟩
  · rw [e6, e 18 (by omega), ob]
    exact fun k hk e => s18 (by rw [e]; exact hk.symm)
end Go.Proofs.YbulkdammDoor
