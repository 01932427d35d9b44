import Derived.Test.YbulkdammWords2
namespace Go.Proofs.Ybulkdamm
open Go.RowKit
set_option linter.unusedVariables false
set_option linter.unusedSimpArgs false

/-- How many slots a production of B takes. -/
def dR (rc : Bool) : Nat := if rc = true then 3 else 2
/-- The law's slots, each by its number. -/
def nxF (nz m : Nat) (rc : Bool) (i : Nat) : Int :=
  if i < 3 * nz then (if i % 3 = 0 then -((i / 3 : Nat) : Int) - 1 else if i % 3 = 1 then 0 else -2147483648)
  else if i < 3 * nz + 3 then (if i = 3 * nz then 1 else if i = 3 * nz + 1 then 0 else -2147483648)
  else if i < 3 * nz + 3 + m * dR rc then (if (i - (3 * nz + 3)) % dR rc = 0 then -((nz + (i - (3 * nz + 3)) / dR rc : Nat) : Int) - 1 else if (i - (3 * nz + 3)) % dR rc + 1 = dR rc then -2147483648 else 1)
  else if i = 3 * nz + 3 + m * dR rc then -((nz : Nat) : Int) - 1 else -2147483648
def lhF (nz : Nat) (i : Nat) : Int := if i < 3 * nz + 3 then 0 else 1
def alF (nz : Nat) (rc : Bool) (i : Nat) : Int := if i < 3 * nz then ((i / 3 : Nat) : Int) else if i < 3 * nz + 3 then (nz : Int) else (((i - (3 * nz + 3)) / dR rc : Nat) : Int)
def slF (nz m : Nat) (rc : Bool) (i : Nat) : List Value := [.int .i32 (nxF nz m rc i), .int .i32 (lhF nz i), .int .i32 (alF nz rc i)]
def stF (nz : Nat) (rc : Bool) (a k : Nat) : Nat := if a = 0 then 3 * k else 3 * nz + 3 + k * dR rc
def enF (nz m : Nat) (rc : Bool) (a k : Nat) : Nat := if a = 0 then 3 * k + 2 else if k < m then 3 * nz + 3 + k * dR rc + (dR rc - 1) else 3 * nz + 3 + k * dR rc + 1

section
variable (nz m : Nat) (rc : Bool)
theorem nxZ0 (k : Nat) (hk : k < nz) : nxF nz m rc (3 * k) = -(k : Int) - 1 := by
  rw [nxF, if_pos (by omega), if_pos (by omega), show 3 * k / 3 = k by omega]
theorem nxZ1 (k : Nat) (hk : k < nz) : nxF nz m rc (3 * k + 1) = 0 := by
  rw [nxF, if_pos (by omega), if_neg (by omega), if_pos (by omega)]
theorem nxX0 : nxF nz m rc (3 * nz) = 1 := by rw [nxF, if_neg (by omega), if_pos (by omega), if_pos rfl]
theorem nxX1 : nxF nz m rc (3 * nz + 1) = 0 := by rw [nxF, if_neg (by omega), if_pos (by omega), if_neg (by omega), if_pos rfl]
theorem dR_pos : 2 ≤ dR rc ∧ dR rc ≤ 3 := by unfold dR; split <;> omega
theorem mul_le_d (j : Nat) (hj : j < m) : (j + 1) * dR rc ≤ m * dR rc := Nat.mul_le_mul_right _ hj
theorem mod_d (j r : Nat) (hr : r < dR rc) : (j * dR rc + r) % dR rc = r ∧ (j * dR rc + r) / dR rc = j := by
  have hd := dR_pos rc
  rw [Nat.mul_comm]
  exact ⟨by rw [Nat.mul_add_mod]; exact Nat.mod_eq_of_lt hr, by rw [Nat.mul_add_div (by omega), Nat.div_eq_of_lt hr, Nat.add_zero]⟩
theorem nxB (j r : Nat) (hj : j < m) (hr : r < dR rc) : nxF nz m rc (3 * nz + 3 + j * dR rc + r) = (if r = 0 then -((nz + j : Nat) : Int) - 1 else if r + 1 = dR rc then -2147483648 else 1) := by
  have hd := dR_pos rc
  have h1 := mul_le_d m rc j hj
  rw [Nat.add_mul, Nat.one_mul] at h1
  obtain ⟨e1, e2⟩ := mod_d rc j r hr
  have e3 : 3 * nz + 3 + j * dR rc + r - (3 * nz + 3) = j * dR rc + r := by omega
  rw [nxF, if_neg (by omega), if_neg (by omega), if_pos (by omega), e3, e1, e2]
theorem lhZ (i : Nat) (hi : i < 3 * nz + 3) : lhF nz i = 0 := if_pos hi
theorem lhB (i : Nat) (hi : 3 * nz + 3 ≤ i) : lhF nz i = 1 := if_neg (by omega)
theorem slZ0 (k : Nat) (hk : k < nz) : slF nz m rc (3 * k) = [.int .i32 (-(k : Int) - 1), .int .i32 0, .int .i32 k] := by
  rw [slF, nxZ0 nz m rc k hk, lhZ nz _ (by omega), alF, if_pos (by omega), show 3 * k / 3 = k by omega]
theorem slZ1 (k : Nat) (hk : k < nz) : slF nz m rc (3 * k + 1) = [.int .i32 0, .int .i32 0, .int .i32 k] := by
  rw [slF, nxZ1 nz m rc k hk, lhZ nz _ (by omega), alF, if_pos (by omega), show (3 * k + 1) / 3 = k by omega]
theorem slZ2 (k : Nat) (hk : k < nz) : slF nz m rc (3 * k + 2) = [.int .i32 (-2147483648), .int .i32 0, .int .i32 k] := by
  rw [slF, lhZ nz _ (by omega), alF, if_pos (by omega), show (3 * k + 2) / 3 = k by omega, nxF, if_pos (by omega), if_neg (by omega), if_neg (by omega)]
theorem slX0 : slF nz m rc (3 * nz) = [.int .i32 1, .int .i32 0, .int .i32 nz] := by
  rw [slF, nxX0, lhZ nz _ (by omega), alF, if_neg (by omega), if_pos (by omega)]
theorem slX1 : slF nz m rc (3 * nz + 1) = [.int .i32 0, .int .i32 0, .int .i32 nz] := by
  rw [slF, nxX1, lhZ nz _ (by omega), alF, if_neg (by omega), if_pos (by omega)]
theorem slX2 : slF nz m rc (3 * nz + 2) = [.int .i32 (-2147483648), .int .i32 0, .int .i32 nz] := by
  rw [slF, lhZ nz _ (by omega), alF, if_neg (by omega), if_pos (by omega), nxF, if_neg (by omega), if_pos (by omega), if_neg (by omega), if_neg (by omega)]
theorem alB (j r : Nat) (hr : r < dR rc) : alF nz rc (3 * nz + 3 + j * dR rc + r) = j := by
  have e3 : 3 * nz + 3 + j * dR rc + r - (3 * nz + 3) = j * dR rc + r := by omega
  rw [alF, if_neg (by omega), if_neg (by omega), e3, (mod_d rc j r hr).2]
theorem slB (j r : Nat) (hj : j < m) (hr : r < dR rc) : slF nz m rc (3 * nz + 3 + j * dR rc + r) = [.int .i32 (if r = 0 then -((nz + j : Nat) : Int) - 1 else if r + 1 = dR rc then -2147483648 else 1), .int .i32 1, .int .i32 j] := by
  rw [slF, nxB nz m rc j r hj hr, lhB nz _ (by omega), alB nz rc j r hr]
theorem slL (r : Nat) (hr : r < dR rc) : slF nz m rc (3 * nz + 3 + m * dR rc + r) = [.int .i32 (if r = 0 then -(nz : Int) - 1 else -2147483648), .int .i32 1, .int .i32 m] := by
  rw [slF, lhB nz _ (by omega), alB nz rc m r hr, nxF, if_neg (by omega), if_neg (by omega), if_neg (by omega)]
  by_cases h : r = 0
  · subst h; rw [if_pos (by omega), if_pos rfl]
  · rw [if_neg (by omega), if_neg h]
end

def stL (nz : Nat) (rc : Bool) (a k : Nat) : List Value := [.int .i32 ((stF nz rc a k : Nat) : Int)]
def enL (nz m : Nat) (rc : Bool) (a k : Nat) : List Value := [.int .i32 ((enF nz m rc a k : Nat) : Int)]
def rowsG (nz m : Nat) (rc : Bool) (n : Nat) (np ne : Nat → Nat) (sv : Value) (pv ev : Nat → Value) : List Row :=
  [⟨42, 3, sv, n, rowT (slF nz m rc) n⟩, ⟨21, 1, pv 0, np 0, rowT (stL nz rc 0) (np 0)⟩, ⟨21, 1, pv 1, np 1, rowT (stL nz rc 1) (np 1)⟩, ⟨21, 1, ev 0, ne 0, rowT (enL nz m rc 0) (ne 0)⟩, ⟨21, 1, ev 1, ne 1, rowT (enL nz m rc 1) (ne 1)⟩]
/-- The parser while the law builds it. -/
structure BT (wr : World) (tv : Value) (nz m : Nat) (rc : Bool) (p PB EB n : Nat) (np ne : Nat → Nat) (sv : Value) (pv ev : Nat → Value) (wx : World) : Prop where
  bel : Below wr.heap.size wr wx
  sz : wr.heap.size + 3 ≤ wx.heap.size
  ge : wr.heap.size ≤ p ∧ wr.heap.size ≤ PB ∧ wr.heap.size ≤ EB
  ps : PS wx (wr.heap.size + 3) p PB EB sv tv pv ev
  rs : RS wx (wr.heap.size + 3) (rowsG nz m rc n np ne sv pv ev)

section
variable {wr : World} {tv : Value} {nz m : Nat} {rc : Bool} {p PB EB n : Nat} {np ne : Nat → Nat} {sv : Value} {pv ev : Nat → Value} {wx w1 w2 : World} {g cap : Nat}
theorem BT.quiet (h : BT wr tv nz m rc p PB EB n np ne sv pv ev wx) (hb : Below wx.heap.size wx w1) : BT wr tv nz m rc p PB EB n np ne sv pv ev w1 := by
  have hs := h.sz
  exact ⟨h.bel.trans (hb.mono (by omega)), Nat.le_trans hs hb.size, h.ge, h.ps.keep (hb.mono hs), h.rs.keep hb⟩
theorem BT.ownS (h : BT wr tv nz m rc p PB EB n np ne sv pv ev wx) : wx.ownsRow (wr.heap.size + 3) 42 3 sv n (rowT (slF nz m rc) n) := h.rs.own _ List.mem_cons_self
theorem BT.ownP (h : BT wr tv nz m rc p PB EB n np ne sv pv ev wx) (a : Nat) (ha : a < 2) : wx.ownsRow (wr.heap.size + 3) 21 1 (pv a) (np a) (rowT (stL nz rc a) (np a)) := by
  match a, ha with
  | 0, _ => exact h.rs.own ⟨21, 1, pv 0, np 0, rowT (stL nz rc 0) (np 0)⟩ (by simp [rowsG])
  | 1, _ => exact h.rs.own ⟨21, 1, pv 1, np 1, rowT (stL nz rc 1) (np 1)⟩ (by simp [rowsG])
theorem BT.ownE (h : BT wr tv nz m rc p PB EB n np ne sv pv ev wx) (a : Nat) (ha : a < 2) : wx.ownsRow (wr.heap.size + 3) 21 1 (ev a) (ne a) (rowT (enL nz m rc a) (ne a)) := by
  match a, ha with
  | 0, _ => exact h.rs.own ⟨21, 1, ev 0, ne 0, rowT (enL nz m rc 0) (ne 0)⟩ (by simp [rowsG])
  | 1, _ => exact h.rs.own ⟨21, 1, ev 1, ne 1, rowT (enL nz m rc 1) (ne 1)⟩ (by simp [rowsG])
/-- What the parser's struct says once a row has grown. -/
theorem BT.grow (h : BT wr tv nz m rc p PB EB n np ne sv pv ev wx) (hb : Below wx.heap.size wx w1) {e : TypeId} {s nn : Nat} {v : Value} {l : List Value} (ho : wx.ownsRow (wr.heap.size + 3) e s v nn l) (hg : w1.grownBy w2 v.ownBlock) : Below (wr.heap.size + 3) wx w2 := by
  have hs := h.sz
  have h1 := hb.size
  exact (hb.mono hs).grown hg (by omega) (fun k hk => (ownLt ho hk).1)
theorem BT.slot (h : BT wr tv nz m rc p PB EB n np ne sv pv ev wx) {x : List Value} (hb : Below wx.heap.size wx w1) (hg : w1.grownBy w2 sv.ownBlock) (hat : sv.ownBlock = some g ∨ g = w1.heap.size) (ho : w2.ownsRow (wr.heap.size + 3) 42 3 (.slice (some ⟨g, 0, none⟩) (n + 1) cap) (n + 1) (rowT (slF nz m rc) n ++ x)) (hx : slF nz m rc n = x) :
    BT wr tv nz m rc p PB EB (n + 1) np ne (.slice (some ⟨g, 0, none⟩) (n + 1) cap) pv ev (w2.setCell ⟨p, 0, none⟩ (.slice (some ⟨g, 0, none⟩) (n + 1) cap)) := by
  subst hx
  have hs := h.sz
  have hbw := h.grow hb h.ownS hg
  have hp := RS.push [] _ _ ⟨42, 3, .slice (some ⟨g, 0, none⟩) (n + 1) cap, n + 1, rowT (slF nz m rc) (n + 1)⟩ (h.rs.keep hb) hg ho (fun k hk => by
    simp [Value.ownBlock] at hk
    subst hk
    rcases hat with e | e
    · exact .inl e
    · exact .inr (by omega))
  exact ⟨(h.bel.trans (hbw.mono (by omega))).setCell (p := ⟨p, 0, none⟩) h.ge.1 _, by have h9 := hbw.size; simp; omega, h.ge, (h.ps.keep hbw).setS _, hp.set p 0 _ h.ps.lt.1⟩
theorem BT.prod (h : BT wr tv nz m rc p PB EB n np ne sv pv ev wx) (a : Nat) (ha : a < 2) {nn : Nat} {v x : Value} (hv : pv a = v) (hnn : np a = nn) (hb : Below wx.heap.size wx w1) (hg : w1.grownBy w2 v.ownBlock) (hat : v.ownBlock = some g ∨ g = w1.heap.size) (ho : w2.ownsRow (wr.heap.size + 3) 21 1 (.slice (some ⟨g, 0, none⟩) (nn + 1) cap) (nn + 1) (rowT (stL nz rc a) nn ++ [x])) (hx : stL nz rc a nn = [x]) :
    BT wr tv nz m rc p PB EB n (upN np a (nn + 1)) ne sv (upN pv a (.slice (some ⟨g, 0, none⟩) (nn + 1) cap)) ev (w2.setCell ⟨PB, a, none⟩ (.slice (some ⟨g, 0, none⟩) (nn + 1) cap)) := by
  subst hv hnn
  rw [← hx] at ho
  have hs := h.sz
  have hbw := h.grow hb (h.ownP a ha) hg
  have hk : ∀ k, (Value.slice (some ⟨g, 0, none⟩) (np a + 1) cap).ownBlock = some k → (pv a).ownBlock = some k ∨ w1.heap.size ≤ k := fun k hk => by
    simp [Value.ownBlock] at hk
    subst hk
    rcases hat with e | e
    · exact .inl e
    · exact .inr (by omega)
  refine ⟨(h.bel.trans (hbw.mono (by omega))).setCell (p := ⟨PB, a, none⟩) h.ge.2.1 _, by have h9 := hbw.size; simp; omega, h.ge, (h.ps.keep hbw).setP a ha _, RS.set ?_ PB a _ h.ps.lt.2.1⟩
  match a, ha, hg, hat, ho, hk with
  | 0, _, hg, hat, ho, hk => exact RS.push [_] [_, _, _] _ ⟨21, 1, .slice (some ⟨g, 0, none⟩) (np 0 + 1) cap, np 0 + 1, rowT (stL nz rc 0) (np 0 + 1)⟩ (h.rs.keep hb) hg ho hk
  | 1, _, hg, hat, ho, hk => exact RS.push [_, _] [_, _] _ ⟨21, 1, .slice (some ⟨g, 0, none⟩) (np 1 + 1) cap, np 1 + 1, rowT (stL nz rc 1) (np 1 + 1)⟩ (h.rs.keep hb) hg ho hk
theorem BT.end' (h : BT wr tv nz m rc p PB EB n np ne sv pv ev wx) (a : Nat) (ha : a < 2) {nn : Nat} {v x : Value} (hv : ev a = v) (hnn : ne a = nn) (hb : Below wx.heap.size wx w1) (hg : w1.grownBy w2 v.ownBlock) (hat : v.ownBlock = some g ∨ g = w1.heap.size) (ho : w2.ownsRow (wr.heap.size + 3) 21 1 (.slice (some ⟨g, 0, none⟩) (nn + 1) cap) (nn + 1) (rowT (enL nz m rc a) nn ++ [x])) (hx : enL nz m rc a nn = [x]) :
    BT wr tv nz m rc p PB EB n np (upN ne a (nn + 1)) sv pv (upN ev a (.slice (some ⟨g, 0, none⟩) (nn + 1) cap)) (w2.setCell ⟨EB, a, none⟩ (.slice (some ⟨g, 0, none⟩) (nn + 1) cap)) := by
  subst hv hnn
  rw [← hx] at ho
  have hs := h.sz
  have hbw := h.grow hb (h.ownE a ha) hg
  have hk : ∀ k, (Value.slice (some ⟨g, 0, none⟩) (ne a + 1) cap).ownBlock = some k → (ev a).ownBlock = some k ∨ w1.heap.size ≤ k := fun k hk => by
    simp [Value.ownBlock] at hk
    subst hk
    rcases hat with e | e
    · exact .inl e
    · exact .inr (by omega)
  refine ⟨(h.bel.trans (hbw.mono (by omega))).setCell (p := ⟨EB, a, none⟩) h.ge.2.2 _, by have h9 := hbw.size; simp; omega, h.ge, (h.ps.keep hbw).setE a ha _, RS.set ?_ EB a _ h.ps.lt.2.2.1⟩
  match a, ha, hg, hat, ho, hk with
  | 0, _, hg, hat, ho, hk => exact RS.push [_, _, _] [_] _ ⟨21, 1, .slice (some ⟨g, 0, none⟩) (ne 0 + 1) cap, ne 0 + 1, rowT (enL nz m rc 0) (ne 0 + 1)⟩ (h.rs.keep hb) hg ho hk
  | 1, _, hg, hat, ho, hk => exact RS.push [_, _, _, _] [] _ ⟨21, 1, .slice (some ⟨g, 0, none⟩) (ne 1 + 1) cap, ne 1 + 1, rowT (enL nz m rc 1) (ne 1 + 1)⟩ (h.rs.keep hb) hg ho hk
end
/-- Two numbers. -/
def two2 (x y : Nat) : Nat → Nat := fun a => if a = 0 then x else y
theorem up20 (x y z : Nat) : upN (two2 x y) 0 z = two2 z y := by
  funext a; simp only [upN, two2]; split <;> simp_all
theorem up21 (x y z : Nat) : (∀ a, a < 2 → upN (two2 x y) 1 z a = two2 x z a) := fun a ha => by
  match a, ha with
  | 0, _ => rfl
  | 1, _ => rfl
theorem BT.congr {wr : World} {tv : Value} {nz m : Nat} {rc : Bool} {p PB EB n : Nat} {np ne np' ne' : Nat → Nat} {sv : Value} {pv ev : Nat → Value} {wx : World} (h : BT wr tv nz m rc p PB EB n np ne sv pv ev wx) (h1 : ∀ a, a < 2 → np a = np' a) (h2 : ∀ a, a < 2 → ne a = ne' a) : BT wr tv nz m rc p PB EB n np' ne' sv pv ev wx := by
  refine ⟨h.bel, h.sz, h.ge, h.ps, ?_⟩
  have e : rowsG nz m rc n np' ne' sv pv ev = rowsG nz m rc n np ne sv pv ev := by
    rw [rowsG, rowsG, h1 0 (by omega), h1 1 (by omega), h2 0 (by omega), h2 1 (by omega)]
  rw [e]
  exact h.rs
/-- The parser so far: n slots, k0 and k1 productions, e0 and e1 ends. -/
def BK (wr : World) (tv : Value) (nz m : Nat) (rc : Bool) (p PB EB n k0 k1 e0 e1 : Nat) (wx : World) : Prop := ∃ sv pv ev, BT wr tv nz m rc p PB EB n (two2 k0 k1) (two2 e0 e1) sv pv ev wx
section
variable {wr : World} {tv : Value} {nz m : Nat} {rc : Bool} {p PB EB n k0 k1 e0 e1 : Nat} {wx : World}
theorem BK.size (h : BK wr tv nz m rc p PB EB n k0 k1 e0 e1 wx) : wr.heap.size + 3 ≤ wx.heap.size ∧ Below wr.heap.size wr wx := by
  obtain ⟨sv, pv, ev, h⟩ := h
  exact ⟨h.sz, h.bel⟩
theorem BK.start {v : Value} (h : BS0 wr tv v wx) : ∃ p PB EB, v = .pointer (some ⟨p, 0, none⟩) ∧ BK wr tv nz m rc p PB EB 0 0 0 0 0 wx := by
  obtain ⟨p, PB, EB, hv, hb, hsz, hge, hps⟩ := h
  refine ⟨p, PB, EB, hv, _, _, _, hb, by omega, hge, hps, ?_⟩
  exact RS.nil (RS.nil (RS.nil (RS.nil (RS.nil ⟨fun r hr => by simp at hr, List.Pairwise.nil⟩ 21 1) 21 1) 21 1) 21 1) 42 3
/-- One more slot. -/
theorem BK.slots (h : BK wr tv nz m rc p PB EB n k0 k1 e0 e1 wx) : ∃ s0 s1, wx.cell? ⟨p, 0, none⟩ = some (.slice s0 n s1) ∧ wx.ownsRow (wr.heap.size + 3) 42 3 (.slice s0 n s1) n (rowT (slF nz m rc) n) ∧
    (∀ (w1 w2 : World) (g cap : Nat) (x : List Value), Below wx.heap.size wx w1 → w1.grownBy w2 (Value.slice s0 n s1).ownBlock → ((Value.slice s0 n s1).ownBlock = some g ∨ g = w1.heap.size) → w2.ownsRow (wr.heap.size + 3) 42 3 (.slice (some ⟨g, 0, none⟩) (n + 1) cap) (n + 1) (rowT (slF nz m rc) n ++ x) → slF nz m rc n = x →
      w2.cell? ⟨p, 0, none⟩ = some (.slice s0 n s1) ∧ w2.frozen? ⟨p, 0, none⟩ = false ∧ BK wr tv nz m rc p PB EB (n + 1) k0 k1 e0 e1 (w2.setCell ⟨p, 0, none⟩ (.slice (some ⟨g, 0, none⟩) (n + 1) cap))) := by
  obtain ⟨sv, pv, ev, h⟩ := h
  obtain ⟨s0, s1, rfl, _⟩ := owns_form h.ownS
  refine ⟨s0, s1, h.ps.c0, h.ownS, fun w1 w2 g cap x hb hg hat ho hx => ?_⟩
  have hw := h.grow hb h.ownS hg
  exact ⟨keepB hw h.ps.c0 h.ps.lt.1, (frozenB hw (p := ⟨p, 0, none⟩) h.ps.lt.1).trans (h.ps.f 0), _, _, _, h.slot hb hg hat ho hx⟩
/-- One more production of a. -/
theorem BK.prods (h : BK wr tv nz m rc p PB EB n k0 k1 e0 e1 wx) (a : Nat) (ha : a < 2) (nn : Nat) (hnn : two2 k0 k1 a = nn) : ∃ s0 s1, wx.cell? ⟨p, 1, none⟩ = some (.slice (some ⟨PB, 0, none⟩) 2 2) ∧ wx.cell? ⟨PB, a, none⟩ = some (.slice s0 nn s1) ∧ wx.ownsRow (wr.heap.size + 3) 21 1 (.slice s0 nn s1) nn (rowT (stL nz rc a) nn) ∧
    (∀ (w1 w2 : World) (g cap : Nat) (x : Value), Below wx.heap.size wx w1 → w1.grownBy w2 (Value.slice s0 nn s1).ownBlock → ((Value.slice s0 nn s1).ownBlock = some g ∨ g = w1.heap.size) → w2.ownsRow (wr.heap.size + 3) 21 1 (.slice (some ⟨g, 0, none⟩) (nn + 1) cap) (nn + 1) (rowT (stL nz rc a) nn ++ [x]) → stL nz rc a nn = [x] →
      w2.cell? ⟨p, 1, none⟩ = some (.slice (some ⟨PB, 0, none⟩) 2 2) ∧ w2.cell? ⟨PB, a, none⟩ = some (.slice s0 nn s1) ∧ w2.frozen? ⟨PB, a, none⟩ = false ∧ BK wr tv nz m rc p PB EB n (if a = 0 then nn + 1 else k0) (if a = 0 then k1 else nn + 1) e0 e1 (w2.setCell ⟨PB, a, none⟩ (.slice (some ⟨g, 0, none⟩) (nn + 1) cap))) := by
  subst hnn
  obtain ⟨sv, pv, ev, h⟩ := h
  obtain ⟨s0, s1, hv, _⟩ := owns_form (h.ownP a ha)
  have ho' := h.ownP a ha
  have c := h.ps.pr' a ha
  rw [hv] at ho' c
  refine ⟨s0, s1, h.ps.c1, c, ho', fun w1 w2 g cap x hb hg hat ho hx => ?_⟩
  have hw := h.grow hb ho' hg
  refine ⟨keepB hw h.ps.c1 h.ps.lt.1, keepB hw c h.ps.lt.2.1, (frozenB hw (p := ⟨PB, a, none⟩) h.ps.lt.2.1).trans (h.ps.fp a), _, _, _, (h.prod a ha hv rfl hb hg hat ho hx).congr (fun b hb => ?_) (fun _ _ => rfl)⟩
  match a, ha, b, hb with
  | 0, _, 0, _ => rfl
  | 0, _, 1, _ => rfl
  | 1, _, 0, _ => rfl
  | 1, _, 1, _ => rfl
/-- One more end of a. -/
theorem BK.ends (h : BK wr tv nz m rc p PB EB n k0 k1 e0 e1 wx) (a : Nat) (ha : a < 2) (nn : Nat) (hnn : two2 e0 e1 a = nn) : ∃ s0 s1, wx.cell? ⟨p, 2, none⟩ = some (.slice (some ⟨EB, 0, none⟩) 2 2) ∧ wx.cell? ⟨EB, a, none⟩ = some (.slice s0 nn s1) ∧ wx.ownsRow (wr.heap.size + 3) 21 1 (.slice s0 nn s1) nn (rowT (enL nz m rc a) nn) ∧
    (∀ (w1 w2 : World) (g cap : Nat) (x : Value), Below wx.heap.size wx w1 → w1.grownBy w2 (Value.slice s0 nn s1).ownBlock → ((Value.slice s0 nn s1).ownBlock = some g ∨ g = w1.heap.size) → w2.ownsRow (wr.heap.size + 3) 21 1 (.slice (some ⟨g, 0, none⟩) (nn + 1) cap) (nn + 1) (rowT (enL nz m rc a) nn ++ [x]) → enL nz m rc a nn = [x] →
      w2.cell? ⟨p, 2, none⟩ = some (.slice (some ⟨EB, 0, none⟩) 2 2) ∧ w2.cell? ⟨EB, a, none⟩ = some (.slice s0 nn s1) ∧ w2.frozen? ⟨EB, a, none⟩ = false ∧ BK wr tv nz m rc p PB EB n k0 k1 (if a = 0 then nn + 1 else e0) (if a = 0 then e1 else nn + 1) (w2.setCell ⟨EB, a, none⟩ (.slice (some ⟨g, 0, none⟩) (nn + 1) cap))) := by
  subst hnn
  obtain ⟨sv, pv, ev, h⟩ := h
  obtain ⟨s0, s1, hv, _⟩ := owns_form (h.ownE a ha)
  have ho' := h.ownE a ha
  have c := h.ps.en' a ha
  rw [hv] at ho' c
  refine ⟨s0, s1, h.ps.c2, c, ho', fun w1 w2 g cap x hb hg hat ho hx => ?_⟩
  have hw := h.grow hb ho' hg
  refine ⟨keepB hw h.ps.c2 h.ps.lt.1, keepB hw c h.ps.lt.2.2.1, (frozenB hw (p := ⟨EB, a, none⟩) h.ps.lt.2.2.1).trans (h.ps.fe a), _, _, _, (h.end' a ha hv rfl hb hg hat ho hx).congr (fun _ _ => rfl) (fun b hb => ?_)⟩
  match a, ha, b, hb with
  | 0, _, 0, _ => rfl
  | 0, _, 1, _ => rfl
  | 1, _, 0, _ => rfl
  | 1, _, 1, _ => rfl
end
theorem info42 : (Yba.prog.info? 42).map (fun i => (i.zero, i.size, i.bytes)) = some (some (.agg #[.int .i32 0, .int .i32 0, .int .i32 0]), 3, 12) := by kernel_rfl
end Go.Proofs.Ybulkdamm
