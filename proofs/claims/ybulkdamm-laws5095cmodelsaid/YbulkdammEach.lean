import Derived.Test.YbulkdammEnter
namespace Go.Proofs.Ybulkdamm
open Go.RowKit
set_option linter.unusedVariables false

theorem own_take {w : World} {base : Nat} {e : TypeId} {size g n cap : Nat} {xs : List Value} (h : w.ownsRow base e size (.slice (some ⟨g, 0, none⟩) n cap) n xs) (k : Nat) (hk : k ≤ n) : w.ownsRow base e size (.slice (some ⟨g, 0, none⟩) k cap) k (xs.take (k * size)) := by
  have hkn : k * size ≤ n * size := Nat.mul_le_mul_right size hk
  rcases h.2 with ⟨h', _⟩ | ⟨g', cap', cur, h', hb, hg, hnc, hcm, hcs, htake⟩
  · simp at h'
  · simp only [Value.slice.injEq, Option.some.injEq, Addr.mk.injEq, and_true, true_and] at h'
    obtain ⟨rfl, rfl⟩ := h'
    refine ⟨by rw [List.length_take, h.1]; omega, .inr ⟨g, cap, cur, rfl, hb, hg, by omega, hcm, hcs, ?_⟩⟩
    rw [← htake, List.take_take, Nat.min_eq_left hkn]
theorem own_cap {w : World} {base : Nat} {e : TypeId} {size g n cap : Nat} {xs : List Value} (h : w.ownsRow base e size (.slice (some ⟨g, 0, none⟩) n cap) n xs) : n ≤ cap := by
  rcases h.2 with ⟨h', _⟩ | ⟨g', cap', cur, h', hb, hg, hnc, _⟩
  · simp at h'
  · simp only [Value.slice.injEq, Option.some.injEq, Addr.mk.injEq, and_true, true_and] at h'
    obtain ⟨rfl, rfl⟩ := h'
    exact hnc
theorem slice_hi (t : TypeId) (ht : Yba.prog.underlying t = some (.slice (Yba.prog.elem t))) (s : Nat) (hsz : ∀ W, (sizeOf (Yba.prog.elem t)).run Yba.prog W = .ok s W) (g o n cap : Nat) (h : Int) (h0 : 0 ≤ h) (h1 : h ≤ cap) (W : World) :
    Sem.run Yba.prog (Instr.sliceAt t (.slice (some ⟨g, o, none⟩) n cap) none (some (.int .i64 h)) none) W = .ok (.slice (some ⟨g, o, none⟩) h.toNat cap) W := by
  rw [run_sliceAt_slice _ _ _ _ _ _ ht, run_slice_h _ _ _ _ _ ht .i64 h h0 h1, hsz]
  simp [sliced, Result.andThen, Addr.add]
theorem slice_lo (t : TypeId) (ht : Yba.prog.underlying t = some (.slice (Yba.prog.elem t))) (s : Nat) (hsz : ∀ W, (sizeOf (Yba.prog.elem t)).run Yba.prog W = .ok s W) (g o n cap : Nat) (l : Int) (h0 : 0 ≤ l) (h1 : l < n) (h2 : n ≤ cap) (W : World) :
    Sem.run Yba.prog (Instr.sliceAt t (.slice (some ⟨g, o, none⟩) n cap) (some (.int .i64 l)) none none) W = .ok (.slice (some ⟨g, o + l.toNat * s, none⟩) (n - l.toNat) (cap - l.toNat)) W := by
  rw [run_sliceAt_slice _ _ _ _ _ _ ht, run_slice_l _ _ _ _ _ ht .i64 l h0 (by omega), hsz]
  have hne : cap ≠ l.toNat := by omega
  simp [sliced, Result.andThen, Addr.add, hne]
theorem ht27 : Yba.prog.underlying 27 = some (.slice (Yba.prog.elem 27)) := by kernel_rfl
theorem hs27 (W : World) : (sizeOf (Yba.prog.elem 27)).run Yba.prog W = .ok 1 W := by kernel_rfl
theorem ht105 : Yba.prog.underlying 105 = some (.slice (Yba.prog.elem 105)) := by kernel_rfl
theorem hs105 (W : World) : (sizeOf (Yba.prog.elem 105)).run Yba.prog W = .ok 2 W := by kernel_rfl

/-- The walk over the graph, as it stands in wr: w is where it began. -/
structure EC (w wr : World) (R H : Nat) (ix lw : Nat → Int) (os : Nat → Bool) (vis : Int) (sk : Value) (n : Nat) (ys : List Value) (cv : Value) (m : Nat) (xs : List Value) (sv : Nat → Value) : Prop where
  ch : Ch R [R + 2] w wr
  hH : R + 4 ≤ H
  hw : w.heap.size = H
  tj : TJ wr H ix lw os sk vis
  stk : wr.ownsRow (H + 8) 21 1 sk n ys
  calls : wr.ownsRow (H + 8) 107 2 cv m xs
  apart : ∀ k, sk.ownBlock = some k → cv.ownBlock ≠ some k
  sets : ∀ a, a < 2 → wr.cell? ⟨R + 2, a, none⟩ = some (sv a)
  setf : ∀ o, wr.frozen? ⟨R + 2, o, none⟩ = false
  setv : ∀ a, a < 2 → SetV wr (sv a)
theorem SetV.keep {w w' : World} {s : Value} (h : SetV w s) (hk : ∀ {p : Addr} {u : Value}, w.cell? p = some u → (∃ x, u = .int .u64 x) → w'.cell? p = some u) : SetV w' s := by
  rcases h with h | ⟨D, x, h1, h2⟩
  · exact .inl h
  · exact .inr ⟨D, x, h1, hk h2 ⟨x, rfl⟩⟩
section
variable {w wr : World} {R H : Nat} {ix lw : Nat → Int} {os : Nat → Bool} {vis : Int} {sk : Value} {n : Nat} {ys : List Value} {cv : Value} {m : Nat} {xs : List Value} {sv : Nat → Value}
theorem EC.drewN (h : EC w wr R H ix lw os vis sk n ys cv m xs sv) (k : Nat) : EC w (wr.drewN k) R H ix lw os vis sk n ys cv m xs sv :=
  ⟨h.ch.drewN k, h.hH, h.hw, h.tj.drewN k, owns_same h.stk fun _ _ => rfl, owns_same h.calls fun _ _ => rfl, h.apart, h.sets, h.setf, h.setv⟩
/-- A write into a variable of the walk, the sets of the nodes being words elsewhere. -/
theorem EC.edge {g cap : Nat} (h : EC w wr R H ix lw os vis sk n ys (.slice (some ⟨g, 0, none⟩) m cap) m xs sv) (o : Nat) (u : Value) (hu : ∀ D, (∃ a, a < 2 ∧ sv a = .slice (some ⟨D, 0, none⟩) 1 1) → D ≠ g) : EC w (wr.setCell ⟨g, o, none⟩ u) R H ix lw os vis sk n ys (.slice (some ⟨g, 0, none⟩) m cap) m (xs.set o u) sv := by
  have hg := (ownLt h.calls (k := g) rfl).1
  have hH := h.hH
  have hw := h.hw
  refine ⟨h.ch.setNew g o u (by omega) (by omega), h.hH, h.hw, h.tj.keep fun k hk => heap_same_setCell _ _ _ _ k (by omega), owns_same h.stk fun k hk => heap_same_setCell _ _ _ _ k (fun e => h.apart k hk (by rw [e]; rfl)), (h.calls.stored o u).1, h.apart, fun a ha => by rw [cell_far _ _ _ _ _ (by simp; omega)]; exact h.sets a ha, fun o' => by rw [setCell_frozen]; exact h.setf o', fun a ha => ?_⟩
  rcases h.setv a ha with hn | ⟨D, x, h1, h2⟩
  · exact .inl hn
  · exact .inr ⟨D, x, h1, by rw [cell_far _ _ _ _ _ (hu D ⟨a, ha, h1⟩)]; exact h2⟩
theorem EC.low (h : EC w wr R H ix lw os vis sk n ys cv m xs sv) (v : Nat) (x : Int) (hv : v < 2) (hu : ∀ D, (∃ a, a < 2 ∧ sv a = .slice (some ⟨D, 0, none⟩) 1 1) → D ≠ H + 2) : EC w (wr.setCell ⟨H + 2, v, none⟩ (.int .i32 x)) R H ix (upN lw v x) os vis sk n ys cv m xs sv := by
  have hH := h.hH
  have hw := h.hw
  have hlt := h.tj.lt
  refine ⟨h.ch.setNew (H + 2) v _ (by omega) (by omega), h.hH, h.hw, h.tj.setL v x hv, owns_same h.stk fun k hk => heap_same_setCell _ _ _ _ k (by have := (ownLt h.stk hk).1; omega), owns_same h.calls fun k hk => heap_same_setCell _ _ _ _ k (by have := (ownLt h.calls hk).1; omega), h.apart, fun a ha => by rw [cell_far _ _ _ _ _ (by simp; omega)]; exact h.sets a ha, fun o' => by rw [setCell_frozen]; exact h.setf o', fun a ha => ?_⟩
  rcases h.setv a ha with hn | ⟨D, x, h1, h2⟩
  · exact .inl hn
  · exact .inr ⟨D, x, h1, by rw [cell_far _ _ _ _ _ (hu D ⟨a, ha, h1⟩)]; exact h2⟩
end

def nilS : Value := .slice none 0 0
def Ph (w : World) (R H q n0 n1 : Nat) (ow1 : Int) (k : Nat) (cv : Value) (wr : World) : Prop :=
  ∃ ix lw os vis sk n ys m xs sv, EC w wr R H ix lw os vis sk n ys cv m xs sv ∧ ix 0 = 1 ∧ lw 0 = 1 ∧
   ((ix 1 = 0 ∧ os 0 = true ∧ vis = 1 ∧ n = 1 ∧ ys = [.int .i32 0] ∧ m = 1 ∧ (∃ j : Nat, j ≤ q ∧ xs = [.int .i32 0, .int .i64 j] ∧ k = n0 + n1 + 5 + (q - j)) ∧ sv 0 = nilS ∧ sv 1 = nilS) ∨
    (ix 1 = 2 ∧ lw 1 = 2 ∧ os 0 = true ∧ os 1 = true ∧ n = 2 ∧ ys = [.int .i32 0, .int .i32 1] ∧ m = 2 ∧ (∃ j : Nat, j ≤ n1 ∧ xs = [.int .i32 0, .int .i64 (q + 1 : Nat), .int .i32 1, .int .i64 j] ∧ k = n0 + 3 + (n1 - j)) ∧ sv 0 = nilS ∧ sv 1 = nilS) ∨
    (ix 1 = 2 ∧ os 0 = true ∧ n = 1 ∧ ys = [.int .i32 0] ∧ m = 1 ∧ (∃ j : Nat, q < j ∧ j ≤ n0 ∧ xs = [.int .i32 0, .int .i64 j] ∧ k = 1 + (n0 - j)) ∧ sv 0 = nilS ∧ ∃ D, H + 8 ≤ D ∧ sk.ownBlock ≠ some D ∧ cv.ownBlock ≠ some D ∧ sv 1 = .slice (some ⟨D, 0, none⟩) 1 1 ∧ wr.cell? ⟨D, 0, none⟩ = some (.int .u64 ow1)) ∨
    (ix 1 = 2 ∧ m = 0 ∧ k = 0 ∧ ∃ D0 D x0, sv 0 = .slice (some ⟨D0, 0, none⟩) 1 1 ∧ wr.cell? ⟨D0, 0, none⟩ = some (.int .u64 x0) ∧ sv 1 = .slice (some ⟨D, 0, none⟩) 1 1 ∧ wr.cell? ⟨D, 0, none⟩ = some (.int .u64 ow1)))

end Go.Proofs.Ybulkdamm
