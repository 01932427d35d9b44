import Derived.Test.YbulkdammVisit
namespace Go.Proofs.Ybulkdamm
open Go.RowKit
set_option linter.unusedVariables false

theorem info21 : (Yba.prog.info? 21).map (fun i => (i.zero, i.size, i.bytes)) = some (some (.int .i32 0), 1, 4) := by kernel_rfl
theorem info107 : (Yba.prog.info? 107).map (fun i => (i.zero, i.size, i.bytes)) = some (some (.agg #[.int .i32 0, .int .i64 0]), 2, 16) := by kernel_rfl

def upN {α : Type} (f : Nat → α) (k : Nat) (v : α) : Nat → α := fun i => if i = k then v else f i

/-- The variables of Tarjan's walk: numbers, low numbers, marks, the stack, the count. -/
structure TJ (w : World) (H : Nat) (ix lw : Nat → Int) (os : Nat → Bool) (sk : Value) (vis : Int) : Prop where
  ci : ∀ v, v < 2 → w.cell? ⟨H, v, none⟩ = some (.int .i32 (ix v))
  vi : w.cell? ⟨H + 1, 0, none⟩ = some (.slice (some ⟨H, 0, none⟩) 2 2)
  cl : ∀ v, v < 2 → w.cell? ⟨H + 2, v, none⟩ = some (.int .i32 (lw v))
  vl : w.cell? ⟨H + 3, 0, none⟩ = some (.slice (some ⟨H + 2, 0, none⟩) 2 2)
  co : ∀ v, v < 2 → w.cell? ⟨H + 4, v, none⟩ = some (.bool (os v))
  vo : w.cell? ⟨H + 5, 0, none⟩ = some (.slice (some ⟨H + 4, 0, none⟩) 2 2)
  cs : w.cell? ⟨H + 6, 0, none⟩ = some sk
  cv : w.cell? ⟨H + 7, 0, none⟩ = some (.int .i32 vis)
  f0 : ∀ o, w.frozen? ⟨H, o, none⟩ = false
  f2 : ∀ o, w.frozen? ⟨H + 2, o, none⟩ = false
  f4 : ∀ o, w.frozen? ⟨H + 4, o, none⟩ = false
  f6 : ∀ o, w.frozen? ⟨H + 6, o, none⟩ = false
  f7 : ∀ o, w.frozen? ⟨H + 7, o, none⟩ = false
section
variable {w w' : World} {H : Nat} {ix lw : Nat → Int} {os : Nat → Bool} {sk : Value} {vis : Int}
theorem TJ.lt (h : TJ w H ix lw os sk vis) : H + 8 ≤ w.heap.size := by have := block_lt_of_cell h.cv; simp at this; omega
theorem TJ.keep (h : TJ w H ix lw os sk vis) (hb : ∀ k, k < H + 8 → w'.heap[k]? = w.heap[k]?) : TJ w' H ix lw os sk vis := by
  have c : ∀ {p : Addr} {u : Value}, w.cell? p = some u → p.block < H + 8 → w'.cell? p = some u := fun hu hp => by rw [World.cell?_of_block (hb _ hp)]; exact hu
  have f : ∀ {p : Addr}, w.frozen? p = false → p.block < H + 8 → w'.frozen? p = false := fun hu hp => by rw [World.frozen?_of_block (hb _ hp)]; exact hu
  exact ⟨fun v hv => c (h.ci v hv) (by simp), c h.vi (by simp), fun v hv => c (h.cl v hv) (by simp), c h.vl (by simp), fun v hv => c (h.co v hv) (by simp), c h.vo (by simp), c h.cs (by simp), c h.cv (by simp),
    fun o => f (h.f0 o) (by simp), fun o => f (h.f2 o) (by simp), fun o => f (h.f4 o) (by simp), fun o => f (h.f6 o) (by simp), fun o => f (h.f7 o) (by simp)⟩
theorem TJ.drewN (h : TJ w H ix lw os sk vis) (k : Nat) : TJ (w.drewN k) H ix lw os sk vis := h.keep (fun _ _ => rfl)
theorem TJ.setI (h : TJ w H ix lw os sk vis) (v : Nat) (x : Int) (hv : v < 2) : TJ (w.setCell ⟨H, v, none⟩ (.int .i32 x)) H (upN ix v x) lw os sk vis := by
  have far : ∀ {p : Addr} {u : Value}, w.cell? p = some u → p.block ≠ H → (w.setCell ⟨H, v, none⟩ (.int .i32 x)).cell? p = some u := fun hu hp => by rw [cell_far _ _ _ _ _ hp]; exact hu
  have fz : ∀ {p : Addr}, w.frozen? p = false → (w.setCell ⟨H, v, none⟩ (.int .i32 x)).frozen? p = false := fun hu => by rw [setCell_frozen]; exact hu
  refine ⟨fun i hi => ?_, far h.vi (by simp), fun v hv => far (h.cl v hv) (by simp), far h.vl (by simp), fun v hv => far (h.co v hv) (by simp), far h.vo (by simp), far h.cs (by simp), far h.cv (by simp), fun o => fz (h.f0 o), fun o => fz (h.f2 o), fun o => fz (h.f4 o), fun o => fz (h.f6 o), fun o => fz (h.f7 o)⟩
  unfold upN
  by_cases e : i = v
  · subst e; rw [if_pos rfl]; exact setCell_self _ _ _ _ _ (h.ci i hi)
  · rw [if_neg e, setCell_off _ _ _ _ _ e]; exact h.ci i hi
theorem TJ.setL (h : TJ w H ix lw os sk vis) (v : Nat) (x : Int) (hv : v < 2) : TJ (w.setCell ⟨H + 2, v, none⟩ (.int .i32 x)) H ix (upN lw v x) os sk vis := by
  have far : ∀ {p : Addr} {u : Value}, w.cell? p = some u → p.block ≠ H + 2 → (w.setCell ⟨H + 2, v, none⟩ (.int .i32 x)).cell? p = some u := fun hu hp => by rw [cell_far _ _ _ _ _ hp]; exact hu
  have fz : ∀ {p : Addr}, w.frozen? p = false → (w.setCell ⟨H + 2, v, none⟩ (.int .i32 x)).frozen? p = false := fun hu => by rw [setCell_frozen]; exact hu
  refine ⟨fun v hv => far (h.ci v hv) (by simp), far h.vi (by simp), fun i hi => ?_, far h.vl (by simp), fun v hv => far (h.co v hv) (by simp), far h.vo (by simp), far h.cs (by simp), far h.cv (by simp), fun o => fz (h.f0 o), fun o => fz (h.f2 o), fun o => fz (h.f4 o), fun o => fz (h.f6 o), fun o => fz (h.f7 o)⟩
  unfold upN
  by_cases e : i = v
  · subst e; rw [if_pos rfl]; exact setCell_self _ _ _ _ _ (h.cl i hi)
  · rw [if_neg e, setCell_off _ _ _ _ _ e]; exact h.cl i hi
theorem TJ.setO (h : TJ w H ix lw os sk vis) (v : Nat) (x : Bool) (hv : v < 2) : TJ (w.setCell ⟨H + 4, v, none⟩ (.bool x)) H ix lw (upN os v x) sk vis := by
  have far : ∀ {p : Addr} {u : Value}, w.cell? p = some u → p.block ≠ H + 4 → (w.setCell ⟨H + 4, v, none⟩ (.bool x)).cell? p = some u := fun hu hp => by rw [cell_far _ _ _ _ _ hp]; exact hu
  have fz : ∀ {p : Addr}, w.frozen? p = false → (w.setCell ⟨H + 4, v, none⟩ (.bool x)).frozen? p = false := fun hu => by rw [setCell_frozen]; exact hu
  refine ⟨fun v hv => far (h.ci v hv) (by simp), far h.vi (by simp), fun v hv => far (h.cl v hv) (by simp), far h.vl (by simp), fun i hi => ?_, far h.vo (by simp), far h.cs (by simp), far h.cv (by simp), fun o => fz (h.f0 o), fun o => fz (h.f2 o), fun o => fz (h.f4 o), fun o => fz (h.f6 o), fun o => fz (h.f7 o)⟩
  unfold upN
  by_cases e : i = v
  · subst e; rw [if_pos rfl]; exact setCell_self _ _ _ _ _ (h.co i hi)
  · rw [if_neg e, setCell_off _ _ _ _ _ e]; exact h.co i hi
theorem TJ.setS (h : TJ w H ix lw os sk vis) (x : Value) : TJ (w.setCell ⟨H + 6, 0, none⟩ x) H ix lw os x vis := by
  have far : ∀ {p : Addr} {u : Value}, w.cell? p = some u → p.block ≠ H + 6 → (w.setCell ⟨H + 6, 0, none⟩ x).cell? p = some u := fun hu hp => by rw [cell_far _ _ _ _ _ hp]; exact hu
  have fz : ∀ {p : Addr}, w.frozen? p = false → (w.setCell ⟨H + 6, 0, none⟩ x).frozen? p = false := fun hu => by rw [setCell_frozen]; exact hu
  exact ⟨fun v hv => far (h.ci v hv) (by simp), far h.vi (by simp), fun v hv => far (h.cl v hv) (by simp), far h.vl (by simp), fun v hv => far (h.co v hv) (by simp), far h.vo (by simp), setCell_self _ _ _ _ _ h.cs, far h.cv (by simp), fun o => fz (h.f0 o), fun o => fz (h.f2 o), fun o => fz (h.f4 o), fun o => fz (h.f6 o), fun o => fz (h.f7 o)⟩
theorem TJ.setV (h : TJ w H ix lw os sk vis) (x : Int) : TJ (w.setCell ⟨H + 7, 0, none⟩ (.int .i32 x)) H ix lw os sk x := by
  have far : ∀ {p : Addr} {u : Value}, w.cell? p = some u → p.block ≠ H + 7 → (w.setCell ⟨H + 7, 0, none⟩ (.int .i32 x)).cell? p = some u := fun hu hp => by rw [cell_far _ _ _ _ _ hp]; exact hu
  have fz : ∀ {p : Addr}, w.frozen? p = false → (w.setCell ⟨H + 7, 0, none⟩ (.int .i32 x)).frozen? p = false := fun hu => by rw [setCell_frozen]; exact hu
  exact ⟨fun v hv => far (h.ci v hv) (by simp), far h.vi (by simp), fun v hv => far (h.cl v hv) (by simp), far h.vl (by simp), fun v hv => far (h.co v hv) (by simp), far h.vo (by simp), far h.cs (by simp), setCell_self _ _ _ _ _ h.cv, fun o => fz (h.f0 o), fun o => fz (h.f2 o), fun o => fz (h.f4 o), fun o => fz (h.f6 o), fun o => fz (h.f7 o)⟩
end

/-- The walk's state: its variables, its stack (n of them: ys) and its calls (m of them: xs). -/
structure ST (w0 w : World) (H : Nat) (ix lw : Nat → Int) (os : Nat → Bool) (vis : Int) (sk : Value) (n : Nat) (ys : List Value) (cv : Value) (m : Nat) (xs : List Value) : Prop where
  below : Below H w0 w
  tj : TJ w H ix lw os sk vis
  stk : w.ownsRow (H + 8) 21 1 sk n ys
  calls : w.ownsRow (H + 8) 107 2 cv m xs
  apart : ∀ k, sk.ownBlock = some k → cv.ownBlock ≠ some k
theorem heap_same_setCell (w : World) (b o : Nat) (v : Value) (k : Nat) (h : k ≠ b) : (w.setCell ⟨b, o, none⟩ v).heap[k]? = w.heap[k]? := Below.heap_setCell w ⟨b, o, none⟩ v k h
theorem ownLt {w : World} {base : Nat} {e : TypeId} {size : Nat} {v : Value} {n : Nat} {xs : List Value} (h : w.ownsRow base e size v n xs) {k : Nat} (hk : v.ownBlock = some k) : base ≤ k ∧ k < w.heap.size := h.lt k hk
theorem owns_same {base : Nat} {e : TypeId} {size : Nat} {v : Value} {n : Nat} {xs : List Value} {w w' : World} (h : w.ownsRow base e size v n xs) (hc : ∀ k, v.ownBlock = some k → w'.heap[k]? = w.heap[k]?) : w'.ownsRow base e size v n xs := by
  refine ⟨h.1, ?_⟩
  rcases h.2 with h0 | ⟨g, cap, cur, hv, hb, hg, rest⟩
  · exact .inl h0
  · refine .inr ⟨g, cap, cur, hv, hb, ?_, rest⟩
    rw [hc g (by rw [hv]; rfl)]
    exact hg
theorem owns_form {w : World} {base : Nat} {e : TypeId} {size : Nat} {v : Value} {n : Nat} {xs : List Value} (h : w.ownsRow base e size v n xs) : ∃ a c, v = .slice a n c ∧ (a = none ∨ ∃ g, a = some ⟨g, 0, none⟩) := by
  rcases h.2 with ⟨h0, h1⟩ | ⟨g, cap, cur, hv, _⟩
  · exact ⟨none, 0, by rw [h0, h1], .inl rfl⟩
  · exact ⟨_, cap, hv, .inr ⟨g, rfl⟩⟩

set_option maxHeartbeats 3200000 in
set_option maxRecDepth 100000 in
theorem enter_any (v H : Nat) (ix lw : Nat → Int) (os : Nat → Bool) (vis : Int) (sk : Value) (n : Nat) (ys : List Value) (cv : Value) (m : Nat) (xs : List Value) (w0 w : World) (hv : v < 2)
    (hS : ST w0 w H ix lw os vis sk n ys cv m xs) (hn : n ≤ 2) (hm : m ≤ 2) (hvis : 0 ≤ vis) (hvis2 : vis ≤ 100) :
    Calls Yba.prog 43 #[.int .i32 v, cv, .pointer (some ⟨H + 7, 0, none⟩), .pointer (some ⟨H + 1, 0, none⟩), .pointer (some ⟨H + 3, 0, none⟩), .pointer (some ⟨H + 6, 0, none⟩), .pointer (some ⟨H + 5, 0, none⟩)] w fun e w' =>
      ∃ sk' cv', e = .returned cv' ∧ ST w0 w' H (upN ix v (vis + 1)) (upN lw v (vis + 1)) (upN os v true) (vis + 1) sk' (n + 1) (ys ++ [.int .i32 v]) cv' (m + 1) (xs ++ [.int .i32 v, .int .i64 0]) := by
  obtain ⟨i1, hi1, hz10, hz11, hz12⟩ := info_parts info21
  obtain ⟨i2, hi2, hz20, hz21, hz22⟩ := info_parts info107
  have HI1 := hid (And.intro hi1 (And.intro hz10 (And.intro hz11 hz12)))
  have HI2 := hid (And.intro hi2 (And.intro hz20 (And.intro hz21 hz22)))
  clear hi1 hz10 hz11 hz12 hi2 hz20 hz21 hz22
  have HS := hid hS
  have hlt := hS.tj.lt
  have c1 := hS.tj.cv
  have c2 := hS.tj.vi
  have c3 := hS.tj.vl
  have c4 := hS.tj.ci v hv
  have c5 := hS.tj.cl v hv
  have f7 := hS.tj.f7 0
  have f0 := hS.tj.f0 v
  have f2 := hS.tj.f2 v
  obtain ⟨ca, cc, rfl, hca⟩ := owns_form hS.calls
  obtain ⟨sa, sc, rfl, hsa⟩ := owns_form hS.stk
  have hvi : (v : Int) < 2 := by omega
  clear hS
  go_enter Yba.func43, Yba.ntmps43
  go_wp2_with fail
  go_region
  all_goals
    have t1 : TJ (((w.setCell ⟨H + 7, 0, none⟩ (.int .i32 (vis + 1))).setCell ⟨H, v, none⟩ (.int .i32 (vis + 1))).setCell ⟨H + 2, v, none⟩ (.int .i32 (vis + 1))).drew H (upN ix v (vis + 1)) (upN lw v (vis + 1)) os (.slice sa n sc) (vis + 1) :=
      (((HS.out.tj.setV (vis + 1)).setI v (vis + 1) hv).setL v (vis + 1) hv).drewN 1
    have b1 : Below H w0 (((w.setCell ⟨H + 7, 0, none⟩ (.int .i32 (vis + 1))).setCell ⟨H, v, none⟩ (.int .i32 (vis + 1))).setCell ⟨H + 2, v, none⟩ (.int .i32 (vis + 1))).drew :=
      (((HS.out.below.setCell (p := ⟨H + 7, 0, none⟩) (by simp) _).setCell (p := ⟨H, v, none⟩) (by simp) _).setCell (p := ⟨H + 2, v, none⟩) (by simp) _).drew
    have h1 : ∀ k, H + 8 ≤ k → (((w.setCell ⟨H + 7, 0, none⟩ (.int .i32 (vis + 1))).setCell ⟨H, v, none⟩ (.int .i32 (vis + 1))).setCell ⟨H + 2, v, none⟩ (.int .i32 (vis + 1))).drew.heap[k]? = w.heap[k]? := fun k hk =>
      (heap_same_setCell _ _ _ _ k (by omega)).trans ((heap_same_setCell _ _ _ _ k (by omega)).trans (heap_same_setCell _ _ _ _ k (by omega)))
    have o1 := owns_same HS.out.stk (fun k hk => h1 k (ownLt HS.out.stk hk).1)
    have o2 := owns_same HS.out.calls (fun k hk => h1 k (ownLt HS.out.calls hk).1)
    have ap := HS.out.apart
    clear h1 HS c1 c2 c3 c4 c5 f7 f0 f2 hlt
    generalize hW : (((w.setCell ⟨H + 7, 0, none⟩ (.int .i32 (vis + 1))).setCell ⟨H, v, none⟩ (.int .i32 (vis + 1))).setCell ⟨H + 2, v, none⟩ (.int .i32 (vis + 1))).drew = W at t1 b1 o1 o2 ⊢
    clear hW
    have hlt := t1.lt
    have d1 := t1.cs
    have T1 := hid t1
    have B1 := hid b1
    have O1 := hid o1
    have O2 := hid o2
    have AP := hid ap
    have OA := hid (o1.alloc (.cells #[.int .i32 (v : Int)] 21))
    clear t1 b1 o1 o2 ap
    go_wp2_with (first | (at_builtin; refine wpList_append_lies _ rfl (.tmp 20) (.tmp 22) 27 rfl (H + 8) 21 i1 (.int .i32 0) 1 4 Yba.underlying27 HI1.out.1 HI1.out.2.1 HI1.out.2.2.1 HI1.out.2.2.2 rfl (by decide) (.slice sa n sc) n ys ?c0 OA.out ⟨W.heap.size, 0, none⟩ 1 1 [.int .i32 (v : Int)] ?c8 ?c1 ?c2 ?c3 ?c4 ?c5 ?c6 ?c7 _ rfl ?_))
    case c0 => rfl
    case c8 => rfl
    case c1 => rfl
    case c2 => exact World.news_of_block (t := 21) (fr := (0, 0)) (cs := #[.int .i32 (v : Int)]) (Deep.blk_alloc_new W _)
    case c3 => intro u hu; simp at hu; subst hu; rfl
    case c4 => omega
    case c5 => unfold maxLen; omega
    case c6 => omega
    case c7 => simp; omega
    intro g cap w1 own1 gr1 at1 lt1
    have hk : ∀ k, k < W.heap.size → (Value.slice sa n sc).ownBlock ≠ some k → w1.heap[k]? = W.heap[k]? := fun k hk hne =>
      (gr1.block k (by simp; omega) (fun e => hne e.symm)).trans (Below.heap_alloc W _ k hk)
    have hne8 : ∀ k, k < H + 8 → (Value.slice sa n sc).ownBlock ≠ some k := fun k hk e => by have := (ownLt O1.out e).1; omega
    have t2 : TJ w1 H (upN ix v (vis + 1)) (upN lw v (vis + 1)) os (.slice sa n sc) (vis + 1) := T1.out.keep fun k hk' => hk k (by omega) (hne8 k hk')
    have b2 : Below H w0 w1 := (B1.out.alloc (by omega) _).grown gr1 (by simp; omega) (fun k e => by have := (ownLt O1.out e).1; omega)
    have o2 : w1.ownsRow (H + 8) 107 2 (.slice ca m cc) m xs := owns_same O2.out fun k e => hk k (ownLt O2.out e).2 (fun e2 => AP.out k e2 e)
    have ap2 : ∀ k, (Value.slice ca m cc).ownBlock = some k → g ≠ k := fun k e e2 => by
      subst e2
      rcases at1 with e3 | e3
      · exact AP.out g e3 e
      · have := (ownLt O2.out e).2; omega
    have sz1 : W.heap.size < w1.heap.size := by have := gr1.size; simp at this; omega
    have d6 := t2.cs
    have f6 := t2.f6 0
    have d5 := t2.vo
    have d4 := t2.co v hv
    have f4 := t2.f4 v
    have OW1 := hid own1
    have T2 := hid t2
    have B2 := hid b2
    have O22 := hid o2
    have AP2 := hid ap2
    clear own1 gr1 at1 hk hne8 t2 b2 o2 ap2 T1 B1 O1 O2 AP OA d1
    have hlt2 : H + 8 ≤ w1.heap.size := by omega
    have t3 := (T2.out.setS (.slice (some ⟨g, 0, none⟩) (n + 1) cap)).setO v true hv
    have b3 : Below H w0 ((w1.setCell ⟨H + 6, 0, none⟩ (.slice (some ⟨g, 0, none⟩) (n + 1) cap)).setCell ⟨H + 4, v, none⟩ (.bool true)) := (B2.out.setCell (p := ⟨H + 6, 0, none⟩) (by simp) _).setCell (p := ⟨H + 4, v, none⟩) (by simp) _
    have h3 : ∀ k, H + 8 ≤ k → ((w1.setCell ⟨H + 6, 0, none⟩ (.slice (some ⟨g, 0, none⟩) (n + 1) cap)).setCell ⟨H + 4, v, none⟩ (.bool true)).heap[k]? = w1.heap[k]? := fun k hk =>
      (heap_same_setCell _ _ _ _ k (by omega)).trans (heap_same_setCell _ _ _ _ k (by omega))
    have o31 := owns_same OW1.out (fun k hk => h3 k (ownLt OW1.out hk).1)
    have o32 := owns_same O22.out (fun k hk => h3 k (ownLt O22.out hk).1)
    have hs3 : ((w1.setCell ⟨H + 6, 0, none⟩ (.slice (some ⟨g, 0, none⟩) (n + 1) cap)).setCell ⟨H + 4, v, none⟩ (.bool true)).heap.size = w1.heap.size := by simp
    have T3 := hid t3
    have B3 := hid b3
    have O31 := hid o31
    have OA := hid (o32.alloc (.cells #[.int .i32 (v : Int), .int .i64 0] 107))
    have O32 := hid o32
    have HW : Hid (∃ W3, W3 = ((w1.setCell ⟨H + 6, 0, none⟩ (.slice (some ⟨g, 0, none⟩) (n + 1) cap)).setCell ⟨H + 4, v, none⟩ (.bool true))) := ⟨_, rfl⟩
    clear t3 b3 h3 o31 o32 T2 B2 O22 OW1 hs3
    go_wp2_with (first | (at_builtin; refine wpList_append_lies _ rfl (.tmp 27) (.tmp 30) 105 rfl (H + 8) 107 i2 (.agg #[.int .i32 0, .int .i64 0]) 2 16 Yba.underlying105 HI2.out.1 HI2.out.2.1 HI2.out.2.2.1 HI2.out.2.2.2 rfl (by decide) (.slice ca m cc) m xs ?c0 OA.out ⟨w1.heap.size, 0, none⟩ 1 1 [.int .i32 (v : Int), .int .i64 0] ?c8 ?c1 ?c2 ?c3 ?c4 ?c5 ?c6 ?c7 _ rfl ?_))
    case c0 => rfl
    case c8 => simp [Act.eval]
    case c1 => rfl
    case c2 =>
      have := World.news_of_block (t := 107) (fr := (0, 0)) (cs := #[.int .i32 (v : Int), .int .i64 0]) (Deep.blk_alloc_new ((w1.setCell ⟨H + 6, 0, none⟩ (.slice (some ⟨g, 0, none⟩) (n + 1) cap)).setCell ⟨H + 4, v, none⟩ (.bool true)) (.cells #[.int .i32 (v : Int), .int .i64 0] 107))
      simpa using this
    case c3 => intro u hu; simp at hu; rcases hu with rfl | rfl <;> rfl
    case c4 => omega
    case c5 => unfold maxLen; omega
    case c6 => omega
    case c7 => simp; omega
    intro g2 cap2 w2 own2 gr2 at2 lt2
    have hs3 : ((w1.setCell ⟨H + 6, 0, none⟩ (.slice (some ⟨g, 0, none⟩) (n + 1) cap)).setCell ⟨H + 4, v, none⟩ (.bool true)).heap.size = w1.heap.size := by simp
    generalize hW3 : ((w1.setCell ⟨H + 6, 0, none⟩ (.slice (some ⟨g, 0, none⟩) (n + 1) cap)).setCell ⟨H + 4, v, none⟩ (.bool true)) = W3 at T3 B3 O31 O32 OA gr2 at2 hs3
    have hk : ∀ k, k < W3.heap.size → (Value.slice ca m cc).ownBlock ≠ some k → w2.heap[k]? = W3.heap[k]? := fun k hk hne =>
      (gr2.block k (by simp; omega) (fun e => hne e.symm)).trans (Below.heap_alloc W3 _ k hk)
    have hne8 : ∀ k, k < H + 8 → (Value.slice ca m cc).ownBlock ≠ some k := fun k hk e => by have := (ownLt O32.out e).1; omega
    have t4 := T3.out.keep (w' := w2) fun k hk' => hk k (by omega) (hne8 k hk')
    have b4 : Below H w0 w2 := (B3.out.alloc (by omega) _).grown gr2 (by simp; omega) (fun k e => by have := (ownLt O32.out e).1; omega)
    have o4 : w2.ownsRow (H + 8) 21 1 (.slice (some ⟨g, 0, none⟩) (n + 1) cap) (n + 1) (ys ++ [.int .i32 v]) := owns_same O31.out fun k e => hk k (ownLt O31.out e).2 (fun e2 => AP2.out k e2 (by simpa [Value.ownBlock] using e))
    have ap4 : ∀ k, (Value.slice (some ⟨g, 0, none⟩) (n + 1) cap).ownBlock = some k → (Value.slice (some ⟨g2, 0, none⟩) (m + 1) cap2).ownBlock ≠ some k := fun k e e2 => by
      have e' : g = k := by simpa [Value.ownBlock] using e
      have e2' : g2 = k := by simpa [Value.ownBlock] using e2
      subst e'
      rcases at2 with e3 | e3
      · exact AP2.out _ e3 e2'.symm
      · have := (ownLt O31.out e).2; omega
    have R := hid (ST.mk b4 t4 o4 own2 ap4)
    clear b4 t4 o4 own2 ap4 hk hne8 gr2 at2 T3 B3 O31 O32 OA AP2
    go_wp2
    go_ret
    exact ⟨_, _, rfl, R.out⟩
end Go.Proofs.Ybulkdamm
