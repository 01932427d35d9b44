import Derived.Test.YbulkdammEach
namespace Go.Proofs.Ybulkdamm
open Go.RowKit
set_option linter.unusedVariables false
set_option linter.unusedSimpArgs false

theorem run_make27 (n : Nat) (hn : n ≤ 1000000) (w : World) : (Instr.makeSlice 27 (.int .i64 n) (.int .i64 n)).run Yba.prog w = .ok (.slice (some ⟨w.heap.size, 0, none⟩) n n) (w.alloc (.cells (madeCells #[.int .i32 0] n) 21)) := by
  obtain ⟨i0, hi, hz0, hz1, hz2⟩ := info_parts info21
  have := run_make (P := Yba.prog) w 27 21 i0 _ Yba.underlying27 hi hz0 .i64 .i64 n n (by omega) (by omega) (by rw [hz2]; omega) (by omega)
  rw [hz1, Int.toNat_natCast, Nat.mul_one] at this
  exact this
theorem made27 : madeCells #[.int .i32 0] 2 = #[.int .i32 0, .int .i32 0] := by kernel_rfl
theorem made34 : falses 2 = #[.bool false, .bool false] := by kernel_rfl

def W8 (w : World) (H : Nat) : World := (((((((w.alloc (.cells #[.int .i32 0, .int .i32 0] 21)).alloc (.cells #[.slice (some ⟨H, 0, none⟩) 2 2] 27)).alloc (.cells #[.int .i32 0, .int .i32 0] 21)).alloc (.cells #[.slice (some ⟨H + 2, 0, none⟩) 2 2] 27)).alloc
  (.cells #[.bool false, .bool false] 4)).alloc (.cells #[.slice (some ⟨H + 4, 0, none⟩) 2 2] 34)).alloc (.cells #[.slice none 0 0] 27)).alloc (.cells #[.int .i32 0] 21)
theorem two {p : Nat → Prop} (h0 : p 0) (h1 : p 1) : ∀ v, v < 2 → p v := fun v hv => by
  match v, hv with
  | 0, _ => exact h0
  | 1, _ => exact h1
theorem blk_new {w : World} (o : Obj) {k : Nat} (hk : k = w.heap.size) : (w.alloc o).heap[k]? = some o := by subst hk; exact Deep.blk_alloc_new w o
theorem blk_past {w : World} {o v : Obj} {k : Nat} (h : w.heap[k]? = some v) : (w.alloc o).heap[k]? = some v := by
  have : k < w.heap.size := by
    rcases Nat.lt_or_ge k w.heap.size with h' | h'
    · exact h'
    · rw [Array.getElem?_eq_none h'] at h; cases h
  rw [Below.heap_alloc w o k this]; exact h
theorem tj_start (w : World) (H : Nat) (hH : H = w.heap.size) : TJ (W8 w H) H (fun _ => 0) (fun _ => 0) (fun _ => false) (.slice none 0 0) 0 := by
  subst hH
  have h0 : (W8 w w.heap.size).heap[w.heap.size]? = some (.cells #[.int .i32 0, .int .i32 0] 21) := by unfold W8; (repeat (first | (apply blk_new; simp; done) | apply blk_past))
  have h1 : (W8 w w.heap.size).heap[w.heap.size + 1]? = some (.cells #[.slice (some ⟨w.heap.size, 0, none⟩) 2 2] 27) := by unfold W8; (repeat (first | (apply blk_new; simp; done) | apply blk_past))
  have h2 : (W8 w w.heap.size).heap[w.heap.size + 2]? = some (.cells #[.int .i32 0, .int .i32 0] 21) := by unfold W8; (repeat (first | (apply blk_new; simp; done) | apply blk_past))
  have h3 : (W8 w w.heap.size).heap[w.heap.size + 3]? = some (.cells #[.slice (some ⟨w.heap.size + 2, 0, none⟩) 2 2] 27) := by unfold W8; (repeat (first | (apply blk_new; simp; done) | apply blk_past))
  have h4 : (W8 w w.heap.size).heap[w.heap.size + 4]? = some (.cells #[.bool false, .bool false] 4) := by unfold W8; (repeat (first | (apply blk_new; simp; done) | apply blk_past))
  have h5 : (W8 w w.heap.size).heap[w.heap.size + 5]? = some (.cells #[.slice (some ⟨w.heap.size + 4, 0, none⟩) 2 2] 34) := by unfold W8; (repeat (first | (apply blk_new; simp; done) | apply blk_past))
  have h6 : (W8 w w.heap.size).heap[w.heap.size + 6]? = some (.cells #[.slice none 0 0] 27) := by unfold W8; (repeat (first | (apply blk_new; simp; done) | apply blk_past))
  have h7 : (W8 w w.heap.size).heap[w.heap.size + 7]? = some (.cells #[.int .i32 0] 21) := by unfold W8; (repeat (first | (apply blk_new; simp; done) | apply blk_past))
  generalize W8 w w.heap.size = W at *
  exact ⟨two (cell_of_row _ _ _ _ _ _ h0) (cell_of_row _ _ _ _ _ _ h0), cell_of_row _ _ _ _ _ _ h1, two (cell_of_row _ _ _ _ _ _ h2) (cell_of_row _ _ _ _ _ _ h2), cell_of_row _ _ _ _ _ _ h3, two (cell_of_row _ _ _ _ _ _ h4) (cell_of_row _ _ _ _ _ _ h4), cell_of_row _ _ _ _ _ _ h5, cell_of_row _ _ _ _ _ _ h6, cell_of_row _ _ _ _ _ _ h7,
    fun o => frozen_of_row _ _ _ _ _ h0, fun o => frozen_of_row _ _ _ _ _ h2, fun o => frozen_of_row _ _ _ _ _ h4, fun o => frozen_of_row _ _ _ _ _ h6, fun o => frozen_of_row _ _ _ _ _ h7⟩
theorem below_W8 (w : World) (H : Nat) (hH : H = w.heap.size) : Below H w (W8 w H) := by
  subst hH
  unfold W8
  exact (((((((((Below.refl _ w).alloc (Nat.le_refl _) _).alloc (by simp) _).alloc (by simp; omega) _).alloc (by simp; omega) _).alloc (by simp; omega) _).alloc (by simp; omega) _).alloc (by simp; omega) _).alloc (by simp; omega) _)

theorem ec_of {w wr wr' : World} {R H : Nat} {ix lw : Nat → Int} {os : Nat → Bool} {vis : Int} {sk : Value} {n : Nat} {ys : List Value} {cv : Value} {m : Nat} {xs : List Value} {sv : Nat → Value} (hch : Ch R [R + 2] w wr) (hH : R + 4 ≤ H) (hw : w.heap.size = H) (hs : ∀ a, a < 2 → wr.cell? ⟨R + 2, a, none⟩ = some (sv a)) (hf : ∀ o, wr.frozen? ⟨R + 2, o, none⟩ = false)
    (hn : ∀ a, a < 2 → sv a = nilS) (hS : ST wr wr' H ix lw os vis sk n ys cv m xs) : EC w wr' R H ix lw os vis sk n ys cv m xs sv :=
  ⟨⟨hch.below.trans (hS.below.mono (by omega)), fun k hk hL => (hS.below.block k (by omega)).trans (hch.block k hk hL)⟩, hH, hw, hS.tj, hS.stk, hS.calls, hS.apart,
   fun a ha => keepB hS.below (hs a ha) (by simp; omega), fun o => by rw [frozenB hS.below (by simp; omega)]; exact hf o, fun a ha => .inl (hn a ha)⟩

section
variable {w wr : World} {R H : Nat} {ix lw : Nat → Int} {os : Nat → Bool} {vis : Int} {sk : Value} {n : Nat} {ys : List Value} {cv : Value} {m : Nat} {xs : List Value} {sv : Nat → Value}
theorem EC.onst (h : EC w wr R H ix lw os vis sk n ys cv m xs sv) (v : Nat) (x : Bool) (hv : v < 2) (hu : ∀ D, (∃ a, a < 2 ∧ sv a = .slice (some ⟨D, 0, none⟩) 1 1) → D ≠ H + 4) : EC w (wr.setCell ⟨H + 4, v, none⟩ (.bool x)) R H ix lw (upN os v x) vis sk n ys cv m xs sv := by
  have hH := h.hH
  have hw := h.hw
  refine ⟨h.ch.setNew (H + 4) v _ (by omega) (by omega), h.hH, h.hw, h.tj.setO v x hv, owns_same h.stk fun k hk => heap_same_setCell _ _ _ _ k (by have := (ownLt h.stk hk).1; omega), owns_same h.calls fun k hk => heap_same_setCell _ _ _ _ k (by have := (ownLt h.calls hk).1; omega), h.apart, fun a ha => by rw [cell_far _ _ _ _ _ (by simp; omega)]; exact h.sets a ha, fun o' => by rw [setCell_frozen]; exact h.setf o', fun a ha => ?_⟩
  rcases h.setv a ha with hn | ⟨D, x, h1, h2⟩
  · exact .inl hn
  · exact .inr ⟨D, x, h1, by rw [cell_far _ _ _ _ _ (hu D ⟨a, ha, h1⟩)]; exact h2⟩
theorem EC.pop {g cap : Nat} (h : EC w wr R H ix lw os vis (.slice (some ⟨g, 0, none⟩) n cap) n ys cv m xs sv) (k : Nat) (hk : k ≤ n) (hu : ∀ D, (∃ a, a < 2 ∧ sv a = .slice (some ⟨D, 0, none⟩) 1 1) → D ≠ H + 6) : EC w (wr.setCell ⟨H + 6, 0, none⟩ (.slice (some ⟨g, 0, none⟩) k cap)) R H ix lw os vis (.slice (some ⟨g, 0, none⟩) k cap) k (ys.take k) cv m xs sv := by
  have hH := h.hH
  have hw := h.hw
  have ht := own_take h.stk k hk
  rw [Nat.mul_one] at ht
  refine ⟨h.ch.setNew (H + 6) 0 _ (by omega) (by omega), h.hH, h.hw, h.tj.setS _, owns_same ht fun k hk => heap_same_setCell _ _ _ _ k (by have := (ownLt ht hk).1; omega), owns_same h.calls fun k hk => heap_same_setCell _ _ _ _ k (by have := (ownLt h.calls hk).1; omega), fun k hk => h.apart k hk, fun a ha => by rw [cell_far _ _ _ _ _ (by simp; omega)]; exact h.sets a ha, fun o' => by rw [setCell_frozen]; exact h.setf o', fun a ha => ?_⟩
  rcases h.setv a ha with hn | ⟨D, x, h1, h2⟩
  · exact .inl hn
  · exact .inr ⟨D, x, h1, by rw [cell_far _ _ _ _ _ (hu D ⟨a, ha, h1⟩)]; exact h2⟩
theorem EC.ret {g cap : Nat} (h : EC w wr R H ix lw os vis sk n ys (.slice (some ⟨g, 0, none⟩) m cap) m xs sv) (k : Nat) (hk : k ≤ m) : EC w wr R H ix lw os vis sk n ys (.slice (some ⟨g, 0, none⟩) k cap) k (xs.take (k * 2)) sv :=
  ⟨h.ch, h.hH, h.hw, h.tj, h.stk, own_take h.calls k hk, fun j hj => h.apart j hj, h.sets, h.setf, h.setv⟩
theorem EC.visit (h : EC w wr R H ix lw os vis sk n ys cv m xs sv) (v D : Nat) (x : Int) (w2 : World) (hv : v < 2) (hb : Below wr.heap.size wr w2) (hx : w2.cell? ⟨D, 0, none⟩ = some (.int .u64 x)) (hD : wr.heap.size ≤ D) (hu : ∀ D, (∃ a, a < 2 ∧ sv a = .slice (some ⟨D, 0, none⟩) 1 1) → D ≠ R + 2) :
    EC w (w2.setCell ⟨R + 2, v, none⟩ (.slice (some ⟨D, 0, none⟩) 1 1)) R H ix lw os vis sk n ys cv m xs (upN sv v (.slice (some ⟨D, 0, none⟩) 1 1)) := by
  have hH := h.hH
  have hw := h.hw
  have hlt := h.tj.lt
  have same : ∀ k, k < wr.heap.size → k ≠ R + 2 → (w2.setCell ⟨R + 2, v, none⟩ (.slice (some ⟨D, 0, none⟩) 1 1)).heap[k]? = wr.heap[k]? := fun k hk hne => (heap_same_setCell _ _ _ _ k hne).trans (hb.block k hk)
  refine ⟨⟨(h.ch.below.trans (hb.mono (by omega))).setCell (p := ⟨R + 2, v, none⟩) (by simp) _, fun k hk hL => (same k (by omega) (by simpa using hL)).trans (h.ch.block k hk hL)⟩, h.hH, h.hw, ?_, owns_same h.stk fun k hk => ?_, owns_same h.calls fun k hk => ?_, h.apart, fun a ha => ?_, fun o => ?_, fun a ha => ?_⟩
  · rcases Nat.lt_or_ge (R + 2) H with hR | hR
    · have : TJ w2 H ix lw os sk vis := h.tj.keep fun k hk => hb.block k (by omega)
      have c : ∀ {p : Addr} {u : Value}, w2.cell? p = some u → p.block ≠ R + 2 → (w2.setCell ⟨R + 2, v, none⟩ (.slice (some ⟨D, 0, none⟩) 1 1)).cell? p = some u := fun hu hp => by rw [cell_far _ _ _ _ _ hp]; exact hu
      have f : ∀ {p : Addr}, w2.frozen? p = false → (w2.setCell ⟨R + 2, v, none⟩ (.slice (some ⟨D, 0, none⟩) 1 1)).frozen? p = false := fun hu => by rw [setCell_frozen]; exact hu
      exact ⟨fun v hv => c (this.ci v hv) (by simp; omega), c this.vi (by simp; omega), fun v hv => c (this.cl v hv) (by simp; omega), c this.vl (by simp; omega), fun v hv => c (this.co v hv) (by simp; omega), c this.vo (by simp; omega), c this.cs (by simp; omega), c this.cv (by simp; omega),
        fun o => f (this.f0 o), fun o => f (this.f2 o), fun o => f (this.f4 o), fun o => f (this.f6 o), fun o => f (this.f7 o)⟩
    · omega
  · have := ownLt h.stk hk; exact same k this.2 (by omega)
  · have := ownLt h.calls hk; exact same k this.2 (by omega)
  · have ha' := keepW hb (h.sets a ha)
    unfold upN
    by_cases e : a = v
    · subst e; rw [if_pos rfl]; exact setCell_self _ _ _ _ _ ha'
    · rw [if_neg e, setCell_off _ _ _ _ _ e]; exact ha'
  · rw [setCell_frozen, frozenB hb (by simp; omega)]; exact h.setf o
  · unfold upN
    by_cases e : a = v
    · subst e; rw [if_pos rfl]
      exact .inr ⟨D, x, rfl, by rw [cell_far _ _ _ _ _ (by simp; omega)]; exact hx⟩
    · rw [if_neg e]
      rcases h.setv a ha with hn | ⟨D', x', h1, h2⟩
      · exact .inl hn
      · exact .inr ⟨D', x', h1, by rw [cell_far _ _ _ _ _ (hu D' ⟨a, ha, h1⟩)]; exact keepW hb h2⟩
end
theorem GR.ch {w w' : World} {R U O : Nat} {ua : Nat → Option Addr} {ub un uc : Nat → Nat} {e : Nat → Nat → Nat} {ob : Nat → Nat} {ow : Nat → Int} (h : GR w U O ua ub un uc e ob ow) (hc : Ch R [R + 2] w w') (hne : ∀ v, v < 2 → U ≠ R + 2 ∧ O ≠ R + 2 ∧ ub v ≠ R + 2 ∧ ob v ≠ R + 2) : GR w' U O ua ub un uc e ob ow :=
  ⟨fun v hv => hc.keep (h.row v hv) (by simpa using (hne v hv).1), fun v j hv hj => by obtain ⟨h1, h2, h3⟩ := h.edge v j hv hj; exact ⟨h1, h2, hc.keep h3 (by simpa using (hne v hv).2.2.1)⟩, fun v hv => by obtain ⟨h1, h2, h3⟩ := h.own v hv; exact ⟨hc.keep h1 (by simpa using (hne v hv).2.1), hc.keep h2 (by simpa using (hne v hv).2.2.2), h3⟩, h.len⟩

set_option maxHeartbeats 6400000 in
set_option maxRecDepth 100000 in
theorem each_any (R U O q : Nat) (ua : Nat → Option Addr) (ub un uc : Nat → Nat) (e : Nat → Nat → Nat) (ob : Nat → Nat) (ow : Nat → Int) (w : World)
    (hU : w.cell? ⟨R, 0, none⟩ = some (.slice (some ⟨U, 0, none⟩) 2 2)) (hO : w.cell? ⟨R + 1, 0, none⟩ = some (.slice (some ⟨O, 0, none⟩) 2 2))
    (hS : w.cell? ⟨R + 3, 0, none⟩ = some (.slice (some ⟨R + 2, 0, none⟩) 2 2)) (hs : ∀ a, a < 2 → w.cell? ⟨R + 2, a, none⟩ = some nilS) (hfr : ∀ o, w.frozen? ⟨R + 2, o, none⟩ = false)
    (hG : GR w U O ua ub un uc e ob ow) (hGR : ∀ v, v < 2 → U ≠ R + 2 ∧ O ≠ R + 2 ∧ ub v ≠ R + 2 ∧ ob v ≠ R + 2)
    (hq : q < un 0) (hq1 : e 0 q = 1) (hq0 : ∀ j, j < un 0 → j ≠ q → e 0 j = 0) (he1 : ∀ j, j < un 1 → e 1 j = 1) :
    Calls Yba.prog 30 #[.slice (some ⟨U, 0, none⟩) 2 2, .func (.func 31) #[] #[.pointer (some ⟨R + 1, 0, none⟩), .pointer (some ⟨R, 0, none⟩), .pointer (some ⟨R + 3, 0, none⟩)]] w fun r w' => r = .returned (.tuple #[]) ∧
      ∃ D0 D1 x0, Ch R [R + 2] w w' ∧ w'.cell? ⟨R + 2, 0, none⟩ = some (.slice (some ⟨D0, 0, none⟩) 1 1) ∧ w'.cell? ⟨D0, 0, none⟩ = some (.int .u64 x0) ∧ w'.cell? ⟨R + 2, 1, none⟩ = some (.slice (some ⟨D1, 0, none⟩) 1 1) ∧ w'.cell? ⟨D1, 0, none⟩ = some (.int .u64 (ow 1)) := by
  have hmk : ∀ W : World, (Instr.makeSlice 27 (.int .i64 2) (.int .i64 2)).run Yba.prog W = .ok (.slice (some ⟨W.heap.size, 0, none⟩) 2 2) (W.alloc (.cells #[.int .i32 0, .int .i32 0] 21)) := fun W => by
    have := run_make27 2 (by omega) W
    rw [made27] at this
    exact this
  have hmb : ∀ W : World, (Instr.makeSlice 34 (.int .i64 2) (.int .i64 2)).run Yba.prog W = .ok (.slice (some ⟨W.heap.size, 0, none⟩) 2 2) (W.alloc (.cells #[.bool false, .bool false] 4)) := fun W => by
    have := run_make34 2 (by omega) W
    rw [made34] at this
    exact this
  have HG := hid hG
  have HGR := hid hGR
  have HQ0 := hid hq0
  have HE1 := hid he1
  have HQ1 := hid hq1
  have HS := hid hs
  have HF := hid hfr
  have HC := hid (And.intro hU (And.intro hO hS))
  have hR3 : R + 3 < w.heap.size := block_lt_of_cell hS
  clear hG hGR hq0 he1 hs hfr hU hO hS hq1
  go_enter Yba.func30, Yba.ntmps30
  go_wp2_with fail
  obtain ⟨H, hH⟩ : ∃ H, H = w.heap.size := ⟨_, rfl⟩
  rw [← hH]
  simp only [Nat.add_assoc, Nat.reduceAdd]
  have tj := tj_start w H hH
  have bl := below_W8 w H hH
  have hWd : W8 w H = W8 w H := rfl
  conv at hWd => rhs; unfold W8
  rw [← hWd]
  generalize W8 w H = W at tj bl ⊢
  clear hmk hmb hWd
  have HH := hid hH
  clear hH
  have t1 := tj.vi
  have t2 := tj.ci 0 (by omega)
  have hlt := tj.lt
  have TJ0 := hid tj
  have BL := hid bl
  have ST0 := hid (ST.mk (Below.refl H W) tj (World.ownsRow_nil _ _ _ _) (World.ownsRow_nil W (H + 8) 107 2) (fun k hk => by simp [Value.ownBlock] at hk))
  clear tj bl
  refine wp_loop_rounds 3 ?_
  rw [rounds_succ]
  go_wp2_with fail
  refine (enter_any 0 H _ _ _ 0 _ 0 [] _ 0 [] W W (by omega) ST0.out (by omega) (by omega) (by omega) (by omega)).mono ?_
  rintro r w1 ⟨sk1, cv1, rfl, hST⟩
  have hR4 : R + 4 ≤ H := by rw [HH.out]; omega
  have hec := ec_of (w := w) (R := R) (sv := fun _ => nilS) (Ch.of_below (HH.out ▸ BL.out) (by omega) _) hR4 HH.out.symm (fun a ha => keepB BL.out (HS.out a ha) (by simp; omega)) (fun o => by rw [frozenB BL.out (by simp; omega)]; exact HF.out o) (fun _ _ => rfl) hST
  have P0 : Hid (Ph w R H q (un 0) (un 1) (ow 1) (un 0 + un 1 + 5 + q) cv1 w1) := ⟨_, _, _, _, _, _, _, _, _, _, hec, rfl, rfl, .inl ⟨rfl, rfl, rfl, rfl, rfl, rfl, ⟨0, by omega, rfl, by omega⟩, rfl, rfl⟩⟩
  clear hec hST ST0 t1 t2 BL TJ0 hlt
  go_wp2_with fail
  go_loopg [11] (un 0 + un 1 + 5 + q) (fun k v wr => Ph w R H q (un 0) (un 1) (ow 1) k v wr)
  case atStart => exact P0.out
  case round =>
    clear P0
    obtain ⟨ix, lw, os, vis, sk, n, ys, m, xs, sv, hec, hi0, hl0, hph⟩ := hrel
    -- an edge of node 0 to itself
    by_cases hself : (m = 1 ∧ os 0 = true ∧ 0 < gk ∧ (∀ D, (∃ a, a < 2 ∧ sv a = .slice (some ⟨D, 0, none⟩) 1 1) → H + 8 ≤ D ∧ u11.ownBlock ≠ some D) ∧ ∃ j : Nat, j < un 0 ∧ e 0 j = 0 ∧ xs = [.int .i32 0, .int .i64 j] ∧ ∀ wr' lw' xs', EC w wr' R H ix lw' os vis sk n ys u11 1 xs' sv → lw' 0 = 1 → lw' 1 = lw 1 → xs' = [.int .i32 0, .int .i64 (j + 1 : Nat)] → (∀ D x, H + 8 ≤ D → u11.ownBlock ≠ some D → wr.cell? ⟨D, 0, none⟩ = some x → wr'.cell? ⟨D, 0, none⟩ = some x) → Ph w R H q (un 0) (un 1) (ow 1) (gk - 1) u11 wr')
    · clear hph
      obtain ⟨rfl, ho0, hgk, hD, j, hj, hej, rfl, hnext⟩ := hself
      obtain ⟨g, cap, rfl, hg8, hgl⟩ := hec.calls.form (by omega)
      have k1 := hec.calls.cellAt 0 (by omega)
      have k2 := hec.calls.cellAt 1 (by omega)
      have k3 := hec.calls.frozenAt 1
      simp only [List.getElem?_cons_zero, List.getElem?_cons_succ] at k1 k2
      have G2 := (HG.out.row 0 (by omega))
      obtain ⟨A, hA⟩ : ∃ A, A = ua 0 := ⟨_, rfl⟩
      obtain ⟨e1, e2, e3⟩ := HG.out.edge 0 j (by omega) hj
      rw [e1] at G2
      rw [hej] at e3
      have hch := hec.ch
      have kk : ∀ {p : Addr} {u : Value}, w.cell? p = some u → p.block ≠ R + 2 → wr.cell? p = some u := fun hu hp => hch.keep hu (by simpa using hp)
      have q1 := kk G2 (HGR.out 0 (by omega)).1
      have q2 := kk e3 (HGR.out 0 (by omega)).2.2.1
      have hUl : U < H := by have := block_lt_of_cell G2; rw [HH.out]; exact this
      have hubl : ub 0 < H := by have := block_lt_of_cell e3; rw [HH.out]; exact this
      have t1 := hec.tj.vi
      have t2 := hec.tj.ci 0 (by omega)
      have t3 := hec.tj.vo
      have t4 := hec.tj.co 0 (by omega)
      have t5 := hec.tj.vl
      have t6 := hec.tj.cl 0 (by omega)
      have t7 := hec.tj.f2 0
      rw [hi0] at t2
      rw [ho0] at t4
      rw [hl0] at t6
      have b1 : (j : Int) < (un 0 : Int) := by omega
      have hlen := HG.out.len 0 (by omega)
      have HEC := hid hec
      have HN := hid hnext
      have HD := hid hD
      have HL := hid (And.intro hi0 (And.intro hl0 ho0))
      clear hec hnext hD hch kk G2 e1 e2 e3 hA A hej hi0 hl0 ho0
      go_wp2_with fail
      go_quiet (fail)
      go_wp2_with fail
      go_quiet (fail)
      go_wp2_with fail
      go_region
      all_goals
        go_wp2_with fail
        go_roundg (gk - 1)
        case measure => omega
        case rel =>
          have hgD : ∀ D, (∃ a, a < 2 ∧ sv a = .slice (some ⟨D, 0, none⟩) 1 1) → D ≠ g := fun D hD' e => (HD.out D hD').2 (by rw [e]; rfl)
          have hec := fun k => (((HEC.out.drewN k).edge 1 (.int .i64 ((j : Int) + 1)) hgD).low 0 1 (by omega) (fun D hD' => by have := (HD.out D hD').1; omega)).drewN 1
          refine HN.out _ _ _ (hec _) rfl rfl (by simp) (fun D x h8 hne hx => ?_)
          have hDg : D ≠ g := fun e => hne (by rw [e]; rfl)
          exact (cell_far _ (H + 2) 0 (.int .i32 1) ⟨D, 0, none⟩ (by simp; omega)).trans ((cell_far _ g 1 (.int .i64 ((j : Int) + 1)) ⟨D, 0, none⟩ hDg).trans hx)
    rcases hph with ⟨hi1, ho0, rfl, rfl, rfl, rfl, ⟨j, hj, rfl, hk⟩, hs0, hs1⟩ | ⟨hi1, hl1, ho0, ho1, rfl, rfl, rfl, ⟨j, hj, rfl, hk⟩, hs0, hs1⟩ | ⟨hi1, ho0, rfl, rfl, rfl, ⟨j, hqj, hj, rfl, hk⟩, hs0, D, hD8, hDs, hDc, hs1, hDx⟩ | ⟨hi1, rfl, hk, D0, D, x0, hs0, hD0, hs1, hDx⟩
    · -- node 1 is entered
      have hnil : ∀ a, a < 2 → sv a = nilS := two hs0 hs1
      have noD : ∀ D, (∃ a, a < 2 ∧ sv a = .slice (some ⟨D, 0, none⟩) 1 1) → False := fun D ⟨a, ha, h⟩ => by rw [hnil a ha] at h; simp [nilS] at h
      by_cases hjq : j < q
      · refine absurd ⟨rfl, ho0, by omega, fun D h => (noD D h).elim, j, by omega, HQ0.out j (by omega) (by omega), rfl, fun wr' lw' xs' h1 h2 h3 h4 h5 => ?_⟩ hself
        subst h4
        exact ⟨_, _, _, _, _, _, _, _, _, _, h1, hi0, h2, .inl ⟨hi1, ho0, rfl, rfl, rfl, rfl, ⟨j + 1, by omega, rfl, by omega⟩, hs0, hs1⟩⟩
      clear hself
      have hjq' : j = q := by omega
      subst hjq'
      obtain ⟨g, cap, rfl, hg8, hgl⟩ := hec.calls.form (by omega)
      have k1 := hec.calls.cellAt 0 (by omega)
      have k2 := hec.calls.cellAt 1 (by omega)
      have k3 := hec.calls.frozenAt 1
      simp only [List.getElem?_cons_zero, List.getElem?_cons_succ] at k1 k2
      have G2 := (HG.out.row 0 (by omega))
      obtain ⟨e1, e2, e3⟩ := HG.out.edge 0 j (by omega) hq
      rw [e1] at G2
      rw [HQ1.out] at e3
      have hch := hec.ch
      have kk : ∀ {p : Addr} {u : Value}, w.cell? p = some u → p.block ≠ R + 2 → wr.cell? p = some u := fun hu hp => hch.keep hu (by simpa using hp)
      have q1 := kk G2 (HGR.out 0 (by omega)).1
      have q2 := kk e3 (HGR.out 0 (by omega)).2.2.1
      have hUl : U < H := by have := block_lt_of_cell G2; rw [HH.out]; exact this
      have hubl : ub 0 < H := by have := block_lt_of_cell e3; rw [HH.out]; exact this
      have t1 := hec.tj.vi
      have t2 := hec.tj.ci 1 (by omega)
      rw [hi1] at t2
      have b1 : (j : Int) < (un 0 : Int) := by omega
      have hlen := HG.out.len 0 (by omega)
      have hE := fun k => (hec.drewN k).edge 1 (.int .i64 ((j : Int) + 1)) (fun D h => (noD D h).elim)
      have hST := fun k => ST.mk (Below.refl H _) (hE k).tj (hE k).stk (hE k).calls (hE k).apart
      have HE := hid hE
      have HST := hid hST
      have HL := hid (And.intro hi0 (And.intro hl0 (And.intro ho0 (And.intro hi1 (And.intro hs0 (And.intro hs1 (And.intro hk hnil)))))))
      clear hec noD hE hST hch kk G2 e1 e2 e3 hi0 hl0 ho0 hi1 hs0 hs1 hk hnil
      go_wp2_with fail
      go_quiet (fail)
      go_wp2_with fail
      go_quiet (fail)
      go_wp2_with fail
      refine (enter_any 1 H _ _ _ _ _ 1 _ _ 1 _ _ _ (by omega) (HST.out _) (by omega) (by omega) (by omega) (by omega)).mono ?_
      rintro r w3 ⟨sk3, cv3, rfl, hST3⟩
      obtain ⟨hi0, hl0, ho0, hi1, hs0, hs1, hk, hnil⟩ := HL.out
      have hec3 := ec_of (HE.out _).ch (HE.out 0).hH (HE.out 0).hw (HE.out _).sets (HE.out _).setf hnil hST3
      have P1 : Hid (Ph w R H j (un 0) (un 1) (ow 1) (un 0 + 3 + un 1) cv3 w3) := ⟨_, _, _, _, _, _, _, _, _, _, hec3, hi0, hl0, .inr (.inl ⟨rfl, rfl, ho0, rfl, rfl, rfl, rfl, ⟨0, by omega, by simp, by omega⟩, hs0, hs1⟩)⟩
      have hgk : un 0 + 3 + un 1 < gk := by omega
      clear hec3 hST3 HE HST HL hi0 hl0 ho0 hi1 hs0 hs1 hk hnil k1 k2 k3 q1 q2 t1 t2
      go_wp2_with fail
      go_roundg (un 0 + 3 + un 1)
      case measure => exact hgk
      case rel => exact P1.out
    · -- node 1: its edges, or its end
      have hnil : ∀ a, a < 2 → sv a = nilS := two hs0 hs1
      have noD : ∀ D, (∃ a, a < 2 ∧ sv a = .slice (some ⟨D, 0, none⟩) 1 1) → False := fun D ⟨a, ha, h⟩ => by rw [hnil a ha] at h; simp [nilS] at h
      clear hself
      obtain ⟨g, cap, rfl, hg8, hgl⟩ := hec.calls.form (by omega)
      have k0 := hec.calls.cellAt 0 (by omega)
      have k1 := hec.calls.cellAt 2 (by omega)
      have k2 := hec.calls.cellAt 3 (by omega)
      have k3 := hec.calls.frozenAt 3
      simp only [List.getElem?_cons_zero, List.getElem?_cons_succ] at k0 k1 k2
      have G2 := (HG.out.row 1 (by omega))
      have hch := hec.ch
      have kk : ∀ {p : Addr} {u : Value}, w.cell? p = some u → p.block ≠ R + 2 → wr.cell? p = some u := fun hu hp => hch.keep hu (by simpa using hp)
      have q1 := kk G2 (HGR.out 1 (by omega)).1
      have hUl : U < H := by have := block_lt_of_cell G2; rw [HH.out]; exact this
      have t1 := hec.tj.vi
      have t2 := hec.tj.ci 1 (by omega)
      have t3 := hec.tj.vo
      have t4 := hec.tj.co 1 (by omega)
      have t5 := hec.tj.vl
      have t6 := hec.tj.cl 1 (by omega)
      have t6b := hec.tj.cl 0 (by omega)
      rw [hi1] at t2
      rw [ho1] at t4
      rw [hl1] at t6
      rw [hl0] at t6b
      have hlen := HG.out.len 1 (by omega)
      by_cases hjn : j < un 1
      · obtain ⟨e1, e2, e3⟩ := HG.out.edge 1 j (by omega) hjn
        rw [e1] at q1
        rw [HE1.out j hjn] at e3
        have q2 := kk e3 (HGR.out 1 (by omega)).2.2.1
        have hubl : ub 1 < H := by have := block_lt_of_cell e3; rw [HH.out]; exact this
        have t7 := hec.tj.f2 1
        have b1 : (j : Int) < (un 1 : Int) := by omega
        have HEC := hid hec
        have HL := hid (And.intro hi0 (And.intro hl0 (And.intro ho0 (And.intro hi1 (And.intro hs0 (And.intro hs1 (And.intro hk (And.intro hl1 (And.intro ho1 noD)))))))))
        clear hec noD hch kk G2 e1 e2 e3 hi0 hl0 ho0 hi1 hs0 hs1 hk hnil ho1 hl1
        go_wp2_with fail
        go_quiet (fail)
        go_wp2_with fail
        go_quiet (fail)
        go_wp2_with fail
        go_region
        all_goals
          go_wp2_with fail
          go_roundg (un 0 + 3 + (un 1 - (j + 1)))
          case measure => have := HL.out.2.2.2.2.2.2.1; omega
          case rel =>
            obtain ⟨hi0, hl0, ho0, hi1, hs0, hs1, hk, hl1, ho1, noD⟩ := HL.out
            have hec := fun k => (((HEC.out.drewN k).edge 3 (.int .i64 ((j : Int) + 1)) (fun D h => (noD D h).elim)).low 1 2 (by omega) (fun D h => (noD D h).elim)).drewN 1
            exact ⟨_, _, _, _, _, _, _, _, _, _, hec _, hi0, hl0, .inr (.inl ⟨hi1, rfl, ho0, ho1, rfl, rfl, rfl, ⟨j + 1, by omega, by simp, rfl⟩, hs0, hs1⟩)⟩
      · have t7 := hec.tj.f2 0
        have t8 := hec.tj.f4 1
        have t9 := hec.tj.cs
        have t10 := hec.tj.f6 0
        have hjn' : j = un 1 := by omega
        subst hjn'
        obtain ⟨gs, cs, rfl, hgs8, hgsl⟩ := hec.stk.form (by omega)
        have s1 := hec.stk.cellAt 1 (by omega)
        simp only [List.getElem?_cons_zero, List.getElem?_cons_succ] at s1
        have cc1 := own_cap hec.calls
        have cc2 := own_cap hec.stk
        have hsl1 := slice_hi 105 ht105 2 hs105 g 0 2 cap 1 (by omega) (by omega)
        have hsl2 := slice_lo 27 ht27 1 hs27 gs 0 2 cs 1 (by omega) (by omega) (by omega)
        have hsl3 := slice_hi 27 ht27 1 hs27 gs 0 2 cs 1 (by omega) (by omega)
        simp only [Int.toNat_one, Nat.mul_one, Nat.zero_add, Nat.add_one_sub_one] at hsl1 hsl2 hsl3
        have hapart := hec.apart gs rfl
        have hne : gs ≠ g := fun e => hapart (by rw [e]; rfl)
        have HEC := hid hec
        have HL := hid (And.intro hi0 (And.intro hl0 (And.intro ho0 (And.intro hi1 (And.intro hs0 (And.intro hs1 (And.intro hk (And.intro hnil noD))))))))
        have hE := fun a b => (((((hec.drewN a).low 0 1 (by omega) (fun D h => (noD D h).elim)).drewN b).onst 1 false (by omega) (fun D h => (noD D h).elim)).ret 1 (by omega))
        have HE := hid hE
        have hV := fun a b => visit_any 1 gs 1 (cs - 1) R U O ua ub un uc e ob ow sv w _ (by omega) (by
            have := (hE a b).stk.cellAt 1 (by omega)
            simp only [List.getElem?_cons_zero, List.getElem?_cons_succ] at this
            exact this) ((hE a b).ch.keep HC.out.1 (by simp)) ((hE a b).ch.keep HC.out.2.1 (by simp)) ((hE a b).ch.keep HC.out.2.2 (by simp)) (hE a b).sets (hE a b).setf (hE a b).setv (HG.out.ch (hE a b).ch HGR.out)
        have HV := hid hV
        clear hec noD hch kk G2 hi0 hl0 ho0 hi1 hs0 hs1 hk hnil ho1 hl1 hapart hE hV
        go_wp2_with fail
        go_quiet (fail)
        go_wp2_with fail
        go_region
        all_goals
          go_wp2_with fail
          go_quiet (fail)
          go_wp2_with fail
          refine wp_loop_rounds 1 ?_
          rw [rounds_succ]
          go_wp2_with fail
          refine wp_loop_rounds 2 ?_
          rw [rounds_succ]
          go_wp2_with fail
          rw [rounds_succ]
          go_wp2_with fail
          refine (HV.out _ _).mono ?_
          rintro r w3 ⟨rfl, w2, D, x, hb2, rfl, hDl, hx, hall⟩
          obtain ⟨hi0, hl0, ho0, hi1, hs0, hs1, hk, hnil, noD⟩ := HL.out
          have hec3 := (HE.out _ _).visit 1 D x w2 (by omega) hb2 hx hDl (fun D h => (noD D h).elim)
          have hx1 : x = ow 1 := hall fun j hj => by rw [HE1.out j hj]; exact hs1
          have hsz := (HE.out 0 0).tj.lt
          simp at hDl hsz
          have hgs : gs < D := by omega
          have hgg : g < D := by omega
          have hDR : D ≠ R + 2 := by omega
          have hec4 := hec3.pop 1 (by omega) (fun D' h => by
            obtain ⟨a, ha, h⟩ := h
            match a, ha with
            | 0, _ => have : sv 0 = .slice (some ⟨D', 0, none⟩) 1 1 := h; rw [hs0] at this; simp [nilS] at this
            | 1, _ => have : Value.slice (some ⟨D, 0, none⟩) 1 1 = .slice (some ⟨D', 0, none⟩) 1 1 := h; simp at this; omega)
          have z1 := hec3.tj.cs
          have z2 := hec3.tj.f6 0
          have P1 : Hid (Ph w R H q (un 0) (un 1) (ow 1) (1 + (un 0 - (q + 1))) (.slice (some ⟨g, 0, none⟩) 1 cap) ((w2.setCell ⟨R + 2, 1, none⟩ (.slice (some ⟨D, 0, none⟩) 1 1)).setCell ⟨H + 6, 0, none⟩ (.slice (some ⟨gs, 0, none⟩) 1 cs))) :=
            ⟨_, _, _, _, _, _, _, _, _, _, hec4, hi0, rfl, .inr (.inr (.inl ⟨hi1, ho0, rfl, rfl, rfl, ⟨q + 1, by omega, by omega, rfl, rfl⟩, hs0, D, by omega, by simp [Value.ownBlock]; omega, by simp [Value.ownBlock]; omega, rfl, by
              rw [cell_far _ _ _ _ _ (by simp; omega), cell_far _ _ _ _ _ (by simpa using hDR), hx, hx1]⟩))⟩
          have hgk : 1 + (un 0 - (q + 1)) < gk := by omega
          clear hec3 hec4 hall hx hx1 hb2 hi0 hl0 ho0 hi1 hs0 hs1 hk hnil noD HE HV HL HEC
          go_wp2_with fail
          go_roundg (1 + (un 0 - (q + 1)))
          case measure => exact hgk
          case rel => exact P1.out
    · -- node 0, behind node 1: its last edges, or its end
      have onlyD : ∀ D', (∃ a, a < 2 ∧ sv a = .slice (some ⟨D', 0, none⟩) 1 1) → D' = D := fun D' ⟨a, ha, h⟩ => by
        match a, ha with
        | 0, _ => rw [hs0] at h; simp [nilS] at h
        | 1, _ => rw [hs1] at h; simp at h; omega
      by_cases hjn : j < un 0
      · refine absurd ⟨rfl, ho0, by omega, fun D' h => by rw [onlyD D' h]; exact ⟨hD8, hDc⟩, j, by omega, HQ0.out j (by omega) (by omega), rfl, fun wr' lw' xs' h1 h2 h3 h4 h5 => ?_⟩ hself
        subst h4
        exact ⟨_, _, _, _, _, _, _, _, _, _, h1, hi0, h2, .inr (.inr (.inl ⟨hi1, ho0, rfl, rfl, rfl, ⟨j + 1, by omega, by omega, rfl, by omega⟩, hs0, D, hD8, hDs, hDc, hs1, h5 D _ hD8 hDc hDx⟩))⟩
      clear hself
      have hjn' : j = un 0 := by omega
      subst hjn'
      obtain ⟨g, cap, rfl, hg8, hgl⟩ := hec.calls.form (by omega)
      have k1 := hec.calls.cellAt 0 (by omega)
      have k2 := hec.calls.cellAt 1 (by omega)
      simp only [List.getElem?_cons_zero, List.getElem?_cons_succ] at k1 k2
      have G2 := (HG.out.row 0 (by omega))
      have hch := hec.ch
      have kk : ∀ {p : Addr} {u : Value}, w.cell? p = some u → p.block ≠ R + 2 → wr.cell? p = some u := fun hu hp => hch.keep hu (by simpa using hp)
      have q1 := kk G2 (HGR.out 0 (by omega)).1
      have hUl : U < H := by have := block_lt_of_cell G2; rw [HH.out]; exact this
      have t1 := hec.tj.vi
      have t2 := hec.tj.ci 0 (by omega)
      have t3 := hec.tj.vo
      have t4 := hec.tj.co 0 (by omega)
      have t5 := hec.tj.vl
      have t6 := hec.tj.cl 0 (by omega)
      rw [hi0] at t2
      rw [ho0] at t4
      rw [hl0] at t6
      have hlen := HG.out.len 0 (by omega)
      have t8 := hec.tj.f4 0
      have t9 := hec.tj.cs
      have t10 := hec.tj.f6 0
      obtain ⟨gs, cs, rfl, hgs8, hgsl⟩ := hec.stk.form (by omega)
      have s1 := hec.stk.cellAt 0 (by omega)
      simp only [List.getElem?_cons_zero, List.getElem?_cons_succ] at s1
      have cc1 := own_cap hec.calls
      have cc2 := own_cap hec.stk
      have hsl1 := slice_hi 105 ht105 2 hs105 g 0 1 cap 0 (by omega) (by omega)
      have hsl2 := slice_lo 27 ht27 1 hs27 gs 0 1 cs 0 (by omega) (by omega) (by omega)
      have hsl3 := slice_hi 27 ht27 1 hs27 gs 0 1 cs 0 (by omega) (by omega)
      simp only [Int.toNat_zero, Nat.mul_one, Nat.zero_add, Nat.sub_zero] at hsl1 hsl2 hsl3
      have hE := fun a => ((hec.drewN a).onst 0 false (by omega) (fun D' h => by rw [onlyD D' h]; omega)).ret 0 (by omega)
      have HE := hid hE
      have hV := fun a => visit_any 0 gs 0 cs R U O ua ub un uc e ob ow sv w _ (by omega) (by
          have := (hE a).stk.cellAt 0 (by omega)
          simp only [List.getElem?_cons_zero, List.getElem?_cons_succ] at this
          exact this) ((hE a).ch.keep HC.out.1 (by simp)) ((hE a).ch.keep HC.out.2.1 (by simp)) ((hE a).ch.keep HC.out.2.2 (by simp)) (hE a).sets (hE a).setf (hE a).setv (HG.out.ch (hE a).ch HGR.out)
      have HV := hid hV
      have hsz := hec.tj.lt
      have hDl0 : D < wr.heap.size := block_lt_of_cell hDx
      have hDg : D ≠ gs := fun e => hDs (by rw [e]; rfl)
      have hDR : D ≠ R + 2 := by have := hec.hH; omega
      have HL := hid (And.intro hi0 (And.intro hl0 (And.intro ho0 (And.intro hi1 (And.intro hs0 (And.intro hs1 (And.intro hk (And.intro hDx onlyD))))))))
      clear hec onlyD hch kk G2 hi0 hl0 ho0 hi1 hs0 hs1 hk hDs hDc hDx hE hV
      go_wp2_with fail
      go_quiet (fail)
      go_wp2_with fail
      go_quiet (fail)
      go_wp2_with fail
      refine wp_loop_rounds 1 ?_
      rw [rounds_succ]
      go_wp2_with fail
      refine wp_loop_rounds 2 ?_
      rw [rounds_succ]
      go_wp2_with fail
      rw [rounds_succ]
      go_wp2_with fail
      refine (HV.out _).mono ?_
      rintro r w3 ⟨rfl, w2, D0, x, hb2, rfl, hDl, hx, hall⟩
      obtain ⟨hi0, hl0, ho0, hi1, hs0, hs1, hk, hDx, onlyD⟩ := HL.out
      have hec3 := (HE.out _).visit 0 D0 x w2 (by omega) hb2 hx hDl (fun D' h => by rw [onlyD D' h]; exact hDR)
      have hcD : w2.cell? ⟨D, 0, none⟩ = some (.int .u64 (ow 1)) := by
        have h1 := hb2.cell (p := ⟨D, 0, none⟩) (by simp; exact hDl0)
        exact h1.trans ((cell_far _ (H + 4) 0 (.bool false) ⟨D, 0, none⟩ (by simp; omega)).trans hDx)
      simp at hDl
      have hec4 := hec3.pop 0 (by omega) (fun D' h => by
        obtain ⟨a, ha, h⟩ := h
        match a, ha with
        | 0, _ => have : Value.slice (some ⟨D0, 0, none⟩) 1 1 = .slice (some ⟨D', 0, none⟩) 1 1 := h; simp at this; omega
        | 1, _ => have := onlyD D' ⟨1, by omega, h⟩; omega)
      have z1 := hec3.tj.cs
      have z2 := hec3.tj.f6 0
      have P1 : Hid (Ph w R H q (un 0) (un 1) (ow 1) 0 (.slice (some ⟨g, 0, none⟩) 0 cap) ((w2.setCell ⟨R + 2, 0, none⟩ (.slice (some ⟨D0, 0, none⟩) 1 1)).setCell ⟨H + 6, 0, none⟩ (.slice (some ⟨gs, 0, none⟩) 0 cs))) :=
        ⟨_, _, _, _, _, _, _, _, _, _, hec4, hi0, hl0, .inr (.inr (.inr ⟨hi1, rfl, rfl, D0, D, x, rfl, by
          rw [cell_far _ _ _ _ _ (by simp; omega), cell_far _ _ _ _ _ (by simp; omega)]; exact hx, hs1, by
          rw [cell_far _ _ _ _ _ (by simp; omega), cell_far _ _ _ _ _ (by simpa using hDR)]; exact hcD⟩))⟩
      have hgk : 0 < gk := by omega
      clear hec3 hec4 hall hx hb2 hi0 hl0 ho0 hi1 hs0 hs1 hk hcD hDx onlyD HE HV HL
      go_wp2_with fail
      go_roundg 0
      case measure => exact hgk
      case rel => exact P1.out
    · -- the end
      clear hself
      obtain ⟨ca, cc, rfl, _⟩ := owns_form hec.calls
      have t1 := hec.tj.vi
      have t2 := hec.tj.ci 1 (by omega)
      rw [hi1] at t2
      have z0 := hec.sets 0 (by omega)
      have z1 := hec.sets 1 (by omega)
      rw [hs0] at z0
      rw [hs1] at z1
      have R1 := hid (And.intro hec.ch (And.intro z0 (And.intro hD0 (And.intro z1 hDx))))
      clear hec hi0 hl0 hi1 hs0 hs1 hD0 hDx z0 z1
      go_wp2_with fail
      rw [rounds_succ]
      go_wp2_with fail
      rw [rounds_succ]
      go_wp2_with fail
      go_end0
      exact ⟨rfl, D0, D, x0, R1.out.1, R1.out.2.1, R1.out.2.2.1, R1.out.2.2.2.1, R1.out.2.2.2.2⟩
end Go.Proofs.Ybulkdamm
