import Derived.Test.YbulkdammGraph
namespace Go.Proofs.Ybulkdamm
open Go.RowKit
set_option linter.unusedVariables false

/-- From w to w' only the blocks in L are written, none of them older than base; new ones may be made. -/
structure Ch (base : Nat) (L : List Nat) (w w' : World) : Prop where
  below : Below base w w'
  block : ∀ k, k < w.heap.size → k ∉ L → w'.heap[k]? = w.heap[k]?

theorem Ch.refl (base : Nat) (L : List Nat) (w : World) : Ch base L w w := ⟨Below.refl _ _, fun _ _ _ => rfl⟩
theorem Ch.size {base : Nat} {L : List Nat} {w w' : World} (h : Ch base L w w') : w.heap.size ≤ w'.heap.size := h.below.size
theorem Ch.trans {base : Nat} {L : List Nat} {a b c : World} (h : Ch base L a b) (k : Ch base L b c) : Ch base L a c :=
  ⟨h.below.trans k.below, fun x hx hL => (k.block x (Nat.lt_of_lt_of_le hx h.size) hL).trans (h.block x hx hL)⟩
theorem Ch.mono {base : Nat} {L L' : List Nat} {a b : World} (h : Ch base L a b) (hL : ∀ x ∈ L, x ∈ L') : Ch base L' a b :=
  ⟨h.below, fun x hx hn => h.block x hx fun hm => hn (hL x hm)⟩
theorem Ch.drewN {base : Nat} {L : List Nat} {a b : World} (h : Ch base L a b) (k : Nat) : Ch base L a (b.drewN k) := ⟨below_drewN h.below k, h.block⟩
theorem Ch.setCell {base : Nat} {L : List Nat} {a b : World} (h : Ch base L a b) (M o : Nat) (v : Value) (hM : base ≤ M) (hL : M ∈ L) : Ch base L a (b.setCell ⟨M, o, none⟩ v) :=
  ⟨h.below.setCell (p := ⟨M, o, none⟩) hM v, fun x hx hn => (Below.heap_setCell b ⟨M, o, none⟩ v x (fun e => hn (by subst e; exact hL))).trans (h.block x hx hn)⟩
theorem Ch.alloc {base : Nat} {L : List Nat} {a b : World} (h : Ch base L a b) (hb : base ≤ b.heap.size) (o : Obj) : Ch base L a (b.alloc o) :=
  ⟨h.below.alloc hb o, fun x hx hn => (Below.heap_alloc b o x (Nat.lt_of_lt_of_le hx h.size)).trans (h.block x hx hn)⟩
theorem Ch.grown {base : Nat} {L : List Nat} {a b c : World} {row : Option Nat} (h : Ch base L a b) (hg : b.grownBy c row) (hb : base ≤ b.heap.size) (hr : ∀ k, row = some k → base ≤ k ∧ k ∈ L) : Ch base L a c :=
  ⟨h.below.grown hg hb fun k hk => (hr k hk).1, fun x hx hn => (hg.block x (Nat.lt_of_lt_of_le hx h.size) (fun e => hn (hr x e.symm).2)).trans (h.block x hx hn)⟩
theorem Ch.setNew {base : Nat} {L : List Nat} {a b : World} (h : Ch base L a b) (T o : Nat) (v : Value) (hT : a.heap.size ≤ T) (hb : base ≤ T) : Ch base L a (b.setCell ⟨T, o, none⟩ v) :=
  ⟨h.below.setCell (p := ⟨T, o, none⟩) hb v, fun x hx hn => (Below.heap_setCell b ⟨T, o, none⟩ v x (fun e => by have : x = T := e; omega)).trans (h.block x hx hn)⟩
theorem cell_far (w : World) (b o : Nat) (v : Value) (p : Addr) (h : p.block ≠ b) : (w.setCell ⟨b, o, none⟩ v).cell? p = w.cell? p := World.cell?_setCell_other _ _ _ _ (fun e => h (by rw [← e]))
theorem Ch.of_below {base : Nat} {w w' : World} (h : Below w.heap.size w w') (hb : base ≤ w.heap.size) (L : List Nat) : Ch base L w w' := ⟨h.mono hb, fun k hk _ => h.block k hk⟩
theorem Ch.cell {base : Nat} {L : List Nat} {w w' : World} (h : Ch base L w w') {p : Addr} (hp : p.block < w.heap.size) (hL : p.block ∉ L) : w'.cell? p = w.cell? p := World.cell?_of_block (h.block _ hp hL)
theorem Ch.frozen {base : Nat} {L : List Nat} {w w' : World} (h : Ch base L w w') {p : Addr} (hp : p.block < w.heap.size) (hL : p.block ∉ L) : w'.frozen? p = w.frozen? p := World.frozen?_of_block (h.block _ hp hL)
theorem Ch.keep {base : Nat} {L : List Nat} {w w' : World} (h : Ch base L w w') {p : Addr} {v : Value} (hv : w.cell? p = some v) (hL : p.block ∉ L) : w'.cell? p = some v := by rw [h.cell (block_lt_of_cell hv) hL]; exact hv
theorem keepB {B : Nat} {w w' : World} (h : Below B w w') {p : Addr} {v : Value} (hv : w.cell? p = some v) (hB : p.block < B) : w'.cell? p = some v := by rw [h.cell hB]; exact hv
theorem keepW {w w' : World} (h : Below w.heap.size w w') {p : Addr} {v : Value} (hv : w.cell? p = some v) : w'.cell? p = some v := by rw [h.cell (block_lt_of_cell hv)]; exact hv
theorem frozenB {B : Nat} {w w' : World} (h : Below B w w') {p : Addr} (hB : p.block < B) : w'.frozen? p = w.frozen? p := World.frozen?_of_block (h.block _ hB)

theorem owns_ch {base : Nat} {e : TypeId} {size : Nat} {v : Value} {n : Nat} {xs : List Value} {base' : Nat} {L : List Nat} {w w' : World} (h : w.ownsRow base e size v n xs) (hc : Ch base' L w w') (hL : ∀ k, v.ownBlock = some k → k ∉ L) : w'.ownsRow base e size v n xs := by
  have hlt := h.lt
  refine ⟨h.1, ?_⟩
  rcases h.2 with h0 | ⟨g, cap, cur, hv, hb, hg, rest⟩
  · exact .inl h0
  · refine .inr ⟨g, cap, cur, hv, hb, ?_, rest⟩
    have hk : v.ownBlock = some g := by rw [hv]; rfl
    rw [hc.block g (hlt g hk).2 (hL g hk)]
    exact hg
theorem owns_below {base : Nat} {e : TypeId} {size : Nat} {v : Value} {n : Nat} {xs : List Value} {w w' : World} (h : w.ownsRow base e size v n xs) (hc : Below w.heap.size w w') : w'.ownsRow base e size v n xs :=
  owns_ch (base' := w.heap.size) (L := []) h (Ch.of_below hc (Nat.le_refl _) _) (fun _ _ => by simp)

theorem setCell_self (w : World) (b o : Nat) (v u : Value) (h : w.cell? ⟨b, o, none⟩ = some u) : (w.setCell ⟨b, o, none⟩ v).cell? ⟨b, o, none⟩ = some v := World.cell?_setCell_same _ _ _ h
theorem setCell_frozen (w : World) (a : Addr) (v : Value) (p : Addr) : (w.setCell a v).frozen? p = w.frozen? p := World.frozen?_setCell _ _ _ _
theorem setCell_off (w : World) (b o o' : Nat) (v : Value) (h : o' ≠ o) : (w.setCell ⟨b, o, none⟩ v).cell? ⟨b, o', none⟩ = w.cell? ⟨b, o', none⟩ := World.cell?_setCell_other _ _ _ _ (fun e => h (congrArg Addr.off e).symm)

/-- The law's grammar: where its parts lie, and what they hold. -/
structure G where
  p : Nat
  SB : Nat
  PB : Nat
  EB : Nat
  TB : Nat
  sc : Nat
  tc : Nat
  tA : Option Addr
  nS : Nat
  np : Nat → Nat
  pA : Nat → Option Addr
  eA : Nat → Option Addr
  pa : Nat → Nat
  ea : Nat → Nat
  cp : Nat → Nat
  ce : Nat → Nat
  st : Nat → Nat → Nat
  en : Nat → Nat → Nat
  nx : Nat → Int
  lhs : Nat → Int
  alt : Nat → Int
  nZ : Nat
  lo : Nat → Int
  hi : Nat → Int
  nB : Nat
  wb : Nat → Nat
  wc : Nat → Nat
  wn : Nat → Nat
  wf : Nat → Bool
  wx : Nat → Nat → Int
  rc : Bool

/-- The grammar lies in the world, in blocks below B. -/
structure PV (B : Nat) (w : World) (g : G) : Prop where
  bp : g.p < B
  bS : g.SB < B
  bP : g.PB < B
  bE : g.EB < B
  slots : w.cell? ⟨g.p, 0, none⟩ = some (.slice (some ⟨g.SB, 0, none⟩) g.nS g.sc)
  prods : w.cell? ⟨g.p, 1, none⟩ = some (.slice (some ⟨g.PB, 0, none⟩) 2 2)
  ends : w.cell? ⟨g.p, 2, none⟩ = some (.slice (some ⟨g.EB, 0, none⟩) 2 2)
  terms : w.cell? ⟨g.p, 6, none⟩ = some (.slice g.tA (g.nZ + g.nB) g.tc)
  rowP : ∀ a, a < 2 → w.cell? ⟨g.PB, a, none⟩ = some (.slice (g.pA a) (g.np a) (g.cp a))
  rowE : ∀ a, a < 2 → w.cell? ⟨g.EB, a, none⟩ = some (.slice (g.eA a) (g.np a) (g.ce a))
  atP : ∀ a k, a < 2 → k < g.np a → g.pA a = some ⟨g.pa a, 0, none⟩ ∧ g.pa a < B ∧ w.cell? ⟨g.pa a, k, none⟩ = some (.int .i32 (g.st a k))
  atE : ∀ a k, a < 2 → k < g.np a → g.eA a = some ⟨g.ea a, 0, none⟩ ∧ g.ea a < B ∧ w.cell? ⟨g.ea a, k, none⟩ = some (.int .i32 (g.en a k))
  slot : ∀ i, i < g.nS → w.cell? ⟨g.SB, i * 3, none⟩ = some (.int .i32 (g.nx i)) ∧ w.cell? ⟨g.SB, i * 3 + 1, none⟩ = some (.int .i32 (g.lhs i)) ∧ w.cell? ⟨g.SB, i * 3 + 2, none⟩ = some (.int .i32 (g.alt i))
  term : 0 < g.nZ + g.nB → g.tA = some ⟨g.TB, 0, none⟩ ∧ g.TB < B
  range : ∀ i, i < g.nZ → w.cell? ⟨g.TB, i * 5, none⟩ = some (.slice none 0 0) ∧ w.cell? ⟨g.TB, i * 5 + 2, none⟩ = some (.int .i32 (g.lo i)) ∧ w.cell? ⟨g.TB, i * 5 + 3, none⟩ = some (.int .i32 (g.hi i))
  word : ∀ j, j < g.nB → w.cell? ⟨g.TB, (g.nZ + j) * 5, none⟩ = some (.slice (some ⟨g.wb j, 0, none⟩) (g.wn j) (g.wc j)) ∧ w.cell? ⟨g.TB, (g.nZ + j) * 5 + 1, none⟩ = some (.bool (g.wf j)) ∧ g.wb j < B
  wordx : ∀ j i, j < g.nB → i < g.wn j → w.cell? ⟨g.wb j, i, none⟩ = some (.int .i32 (g.wx j i))

theorem PV.below {B : Nat} {w w' : World} {g : G} (h : PV B w g) (hb : Below B w w') : PV B w' g := by
  have k : ∀ {p : Addr} {v : Value}, w.cell? p = some v → p.block < B → w'.cell? p = some v := fun hv hB => keepB hb hv hB
  refine ⟨h.bp, h.bS, h.bP, h.bE, k h.slots h.bp, k h.prods h.bp, k h.ends h.bp, k h.terms h.bp, fun a ha => k (h.rowP a ha) h.bP, fun a ha => k (h.rowE a ha) h.bE, fun a i ha hi => ?_, fun a i ha hi => ?_, fun i hi => ?_, h.term, fun i hi => ?_, fun j hj => ?_, fun j i hj hi => k (h.wordx j i hj hi) (h.word j hj).2.2⟩
  · obtain ⟨h1, h2, h3⟩ := h.atP a i ha hi
    exact ⟨h1, h2, k h3 h2⟩
  · obtain ⟨h1, h2, h3⟩ := h.atE a i ha hi
    exact ⟨h1, h2, k h3 h2⟩
  · obtain ⟨h1, h2, h3⟩ := h.slot i hi
    exact ⟨k h1 h.bS, k h2 h.bS, k h3 h.bS⟩
  · obtain ⟨h1, h2, h3⟩ := h.range i hi
    have hT := (h.term (by omega)).2
    exact ⟨k h1 hT, k h2 hT, k h3 hT⟩
  · obtain ⟨h1, h2, h3⟩ := h.word j hj
    have hT := (h.term (by omega)).2
    exact ⟨k h1 hT, k h2 hT, h3⟩

/-- What the law's building gives. -/
structure Shape (g : G) : Prop where
  bZ : g.nZ ≤ 1024
  bB : g.nB ≤ 1024
  bS : g.nS ≤ 10000
  n0 : g.np 0 = g.nZ + 1
  n1 : g.np 1 = if g.rc = true ∧ 0 < g.nB then g.nB + 1 else g.nB
  z : ∀ k, k < g.nZ → g.st 0 k = 3 * k ∧ g.en 0 k = 3 * k + 2 ∧ g.nx (3 * k) = -(k : Int) - 1 ∧ g.nx (3 * k + 1) = 0
  x : g.st 0 g.nZ = 3 * g.nZ ∧ g.en 0 g.nZ = 3 * g.nZ + 2 ∧ g.nx (3 * g.nZ) = 1 ∧ g.nx (3 * g.nZ + 1) = 0
  x2 : 3 * g.nZ + 2 < g.nS
  b : ∀ j, j < g.nB → g.st 1 j + 2 < g.nS + 1 ∧ g.nx (g.st 1 j) = -((g.nZ + j : Nat) : Int) - 1 ∧ (if g.rc = true then g.st 1 j + 2 < g.nS ∧ g.en 1 j = g.st 1 j + 2 ∧ g.nx (g.st 1 j + 1) = 1 else g.en 1 j = g.st 1 j + 1)
  l : g.rc = true → 0 < g.nB → g.st 1 g.nB + 1 < g.nS ∧ g.en 1 g.nB = g.st 1 g.nB + 1 ∧ g.nx (g.st 1 g.nB) = -((g.nZ : Nat) : Int) - 1
  rle : ∀ i, i < g.nZ → 0 ≤ g.lo i ∧ g.lo i ≤ g.hi i ∧ g.hi i ≤ 1000
  wn1 : ∀ j, j < g.nB → 1 ≤ g.wn j ∧ g.wn j ≤ 8192
  wx0 : ∀ j i, j < g.nB → i < g.wn j → 0 ≤ g.wx j i ∧ g.wx j i ≤ 1000
end Go.Proofs.Ybulkdamm
