import Derived.Test.YbulkdammDoorTab
import Derived.Laws.OwnMore
namespace Go.Proofs.YbulkdammDoor
open Go.RowKit
set_option linter.unusedVariables false

/-- From w to w' only the blocks in L are written, none of them older than base; new ones may be made. -/
structure Ch (base : Nat) (L : List Nat) (w w' : World) : Prop where
  below : Below base w w'
  block : ∀ k, k < w.heap.size → k ∉ L → w'.heap[k]? = w.heap[k]?

theorem Ch.refl (base : Nat) (L : List Nat) (w : World) : Ch base L w w := ⟨Below.refl _ _, fun _ _ _ => rfl⟩
theorem Ch.size {base : Nat} {L : List Nat} {w w' : World} (h : Ch base L w w') : w.heap.size ≤ w'.heap.size := h.below.size
theorem Ch.trans {base : Nat} {L : List Nat} {a b c : World} (h : Ch base L a b) (k : Ch base L b c) : Ch base L a c :=
  ⟨h.below.trans k.below, fun x hx hL => (k.block x (Nat.lt_of_lt_of_le hx h.size) hL).trans (h.block x hx hL)⟩
theorem Ch.mono {base : Nat} {L L' : List Nat} {a b : World} (h : Ch base L a b) (hL : ∀ x ∈ L, x ∈ L') : Ch base L' a b :=
  ⟨h.below, fun x hx hn => h.block x hx fun hm => hn (hL x hm)⟩
theorem Ch.drewN {base : Nat} {L : List Nat} {a b : World} (h : Ch base L a b) (k : Nat) : Ch base L a (b.drewN k) := ⟨below_drewN h.below k, h.block⟩
theorem Ch.setCell {base : Nat} {L : List Nat} {a b : World} (h : Ch base L a b) (M o : Nat) (v : Value) (hM : base ≤ M) (hL : M ∈ L) : Ch base L a (b.setCell ⟨M, o, none⟩ v) :=
  ⟨h.below.setCell (p := ⟨M, o, none⟩) hM v, fun x hx hn => (Below.heap_setCell b ⟨M, o, none⟩ v x (fun e => hn (by subst e; exact hL))).trans (h.block x hx hn)⟩
theorem Ch.alloc {base : Nat} {L : List Nat} {a b : World} (h : Ch base L a b) (hb : base ≤ b.heap.size) (o : Obj) : Ch base L a (b.alloc o) :=
  ⟨h.below.alloc hb o, fun x hx hn => (Below.heap_alloc b o x (Nat.lt_of_lt_of_le hx h.size)).trans (h.block x hx hn)⟩
theorem Ch.grown {base : Nat} {L : List Nat} {a b c : World} {row : Option Nat} (h : Ch base L a b) (hg : b.grownBy c row) (hb : base ≤ b.heap.size) (hr : ∀ k, row = some k → base ≤ k ∧ k ∈ L) : Ch base L a c :=
  ⟨h.below.grown hg hb fun k hk => (hr k hk).1, fun x hx hn => (hg.block x (Nat.lt_of_lt_of_le hx h.size) (fun e => hn (hr x e.symm).2)).trans (h.block x hx hn)⟩
theorem Ch.setNew {base : Nat} {L : List Nat} {a b : World} (h : Ch base L a b) (T o : Nat) (v : Value) (hT : a.heap.size ≤ T) (hb : base ≤ T) : Ch base L a (b.setCell ⟨T, o, none⟩ v) :=
  ⟨h.below.setCell (p := ⟨T, o, none⟩) hb v, fun x hx hn => (Below.heap_setCell b ⟨T, o, none⟩ v x (fun e => by have : x = T := e; omega)).trans (h.block x hx hn)⟩
theorem cell_far (w : World) (b o : Nat) (v : Value) (p : Addr) (h : p.block ≠ b) : (w.setCell ⟨b, o, none⟩ v).cell? p = w.cell? p := World.cell?_setCell_other _ _ _ _ (fun e => h (by rw [← e]))
theorem Ch.of_below {base : Nat} {w w' : World} (h : Below w.heap.size w w') (hb : base ≤ w.heap.size) : Ch base [] w w' := ⟨h.mono hb, fun k hk _ => h.block k hk⟩
theorem Ch.cell {base : Nat} {L : List Nat} {w w' : World} (h : Ch base L w w') {p : Addr} (hp : p.block < w.heap.size) (hL : p.block ∉ L) : w'.cell? p = w.cell? p := World.cell?_of_block (h.block _ hp hL)
theorem Ch.frozen {base : Nat} {L : List Nat} {w w' : World} (h : Ch base L w w') {p : Addr} (hp : p.block < w.heap.size) (hL : p.block ∉ L) : w'.frozen? p = w.frozen? p := World.frozen?_of_block (h.block _ hp hL)

theorem owns_ch {base : Nat} {e : TypeId} {size : Nat} {v : Value} {n : Nat} {xs : List Value} {base' : Nat} {L : List Nat} {w w' : World} (h : w.ownsRow base e size v n xs) (hc : Ch base' L w w') (hL : ∀ k, v.ownBlock = some k → k ∉ L) : w'.ownsRow base e size v n xs := by
  have hlt := h.lt
  refine ⟨h.1, ?_⟩
  rcases h.2 with h0 | ⟨g, cap, cur, hv, hb, hg, rest⟩
  · exact .inl h0
  · refine .inr ⟨g, cap, cur, hv, hb, ?_, rest⟩
    have hk : v.ownBlock = some g := by rw [hv]; rfl
    rw [hc.block g (hlt g hk).2 (hL g hk)]
    exact hg

/-- The 31 cells of the merging. -/
structure MB (w : World) (M : Nat) (f : Nat → Value) : Prop where
  cell : ∀ i, i < 31 → w.cell? ⟨M, i, none⟩ = some (f i)
  fr : ∀ o, w.frozen? ⟨M, o, none⟩ = false
theorem MB.lt {w : World} {M : Nat} {f : Nat → Value} (h : MB w M f) : M < w.heap.size := block_lt_of_cell (h.cell 0 (by decide))
def upd (f : Nat → Value) (k : Nat) (v : Value) : Nat → Value := fun i => if i = k then v else f i

theorem setCell_self (w : World) (b o : Nat) (v u : Value) (h : w.cell? ⟨b, o, none⟩ = some u) : (w.setCell ⟨b, o, none⟩ v).cell? ⟨b, o, none⟩ = some v := World.cell?_setCell_same _ _ _ h
theorem setCell_frozen (w : World) (a : Addr) (v : Value) (p : Addr) : (w.setCell a v).frozen? p = w.frozen? p := World.frozen?_setCell _ _ _ _
theorem MB.set {w : World} {M : Nat} {f : Nat → Value} (h : MB w M f) (k : Nat) (v : Value) (hk : k < 31) : MB (w.setCell ⟨M, k, none⟩ v) M (upd f k v) := by
  refine ⟨fun i hi => ?_, fun o => by rw [setCell_frozen]; exact h.fr o⟩
  unfold upd
  by_cases hik : i = k
  · subst hik; rw [if_pos rfl]; exact setCell_self _ _ _ _ _ (h.cell i hi)
  · rw [if_neg hik, World.cell?_setCell_other _ _ _ _ (by intro e; apply hik; simpa using e.symm)]
    exact h.cell i hi
theorem MB.ch {w w' : World} {M : Nat} {f : Nat → Value} {base : Nat} {L : List Nat} (h : MB w M f) (hc : Ch base L w w') (hL : M ∉ L) : MB w' M f :=
  ⟨fun i hi => by rw [hc.cell (p := ⟨M, i, none⟩) h.lt hL]; exact h.cell i hi, fun o => by rw [hc.frozen (p := ⟨M, o, none⟩) h.lt hL]; exact h.fr o⟩

/-- The entries, and that they may be written. -/
structure TBF (w : World) (T : Nat) (K B V : Nat → Int) : Prop where
  tb : TB w T K B V
  fr : ∀ o, w.frozen? ⟨T, o, none⟩ = false
theorem TBF.lt {w : World} {T : Nat} {K B V : Nat → Int} (h : TBF w T K B V) : T < w.heap.size := block_lt_of_cell (h.tb 0 (by decide)).1
theorem TBF.ch {w w' : World} {T : Nat} {K B V : Nat → Int} {base : Nat} {L : List Nat} (h : TBF w T K B V) (hc : Ch base L w w') (hL : T ∉ L) : TBF w' T K B V :=
  ⟨fun i hi => ⟨by rw [hc.cell (p := ⟨T, _, none⟩) h.lt hL]; exact (h.tb i hi).1, by rw [hc.cell (p := ⟨T, _, none⟩) h.lt hL]; exact (h.tb i hi).2.1, by rw [hc.cell (p := ⟨T, _, none⟩) h.lt hL]; exact (h.tb i hi).2.2⟩,
   fun o => by rw [hc.frozen (p := ⟨T, o, none⟩) h.lt hL]; exact h.fr o⟩
theorem MB.drewN {w : World} {M : Nat} {f : Nat → Value} (h : MB w M f) (k : Nat) : MB (w.drewN k) M f := ⟨h.cell, h.fr⟩
theorem TBF.drewN {w : World} {T : Nat} {K B V : Nat → Int} (h : TBF w T K B V) (k : Nat) : TBF (w.drewN k) T K B V := ⟨h.tb, h.fr⟩
def updI (f : Nat → Int) (k : Nat) (v : Int) : Nat → Int := fun i => if i = k then v else f i
theorem TBF.put {w : World} {T : Nat} {K B V : Nat → Int} (h : TBF w T K B V) (p : Nat) (hp : p < 64) (a b c : Int) :
    TBF (((w.setCell ⟨T, p * 3, none⟩ (.int .u64 a)).setCell ⟨T, p * 3 + 1, none⟩ (.int .u32 b)).setCell ⟨T, p * 3 + 2, none⟩ (.int .i32 c)) T (updI K p a) (updI B p b) (updI V p c) := by
  have ne : ∀ {x y : Nat}, x ≠ y → (⟨T, x, none⟩ : Addr) ≠ ⟨T, y, none⟩ := fun h e => h (congrArg Addr.off e)
  refine ⟨fun i hi => ?_, fun o => by rw [setCell_frozen, setCell_frozen, setCell_frozen]; exact h.fr o⟩
  obtain ⟨e0, e1, e2⟩ := h.tb i hi
  unfold updI
  by_cases hip : i = p
  · subst hip
    simp only [if_true]
    refine ⟨?_, ?_, ?_⟩
    · rw [World.cell?_setCell_other _ _ _ _ (ne (by omega)), World.cell?_setCell_other _ _ _ _ (ne (by omega))]
      exact setCell_self _ _ _ _ _ e0
    · rw [World.cell?_setCell_other _ _ _ _ (ne (by omega))]
      exact setCell_self _ _ _ _ (.int .u32 (B i)) (by rw [World.cell?_setCell_other _ _ _ _ (ne (by omega))]; exact e1)
    · exact setCell_self _ _ _ _ (.int .i32 (V i)) (by rw [World.cell?_setCell_other _ _ _ _ (ne (by omega)), World.cell?_setCell_other _ _ _ _ (ne (by omega))]; exact e2)
  · simp only [if_neg hip]
    refine ⟨?_, ?_, ?_⟩
    · rw [World.cell?_setCell_other _ _ _ _ (ne (by omega)), World.cell?_setCell_other _ _ _ _ (ne (by omega)), World.cell?_setCell_other _ _ _ _ (ne (by omega))]; exact e0
    · rw [World.cell?_setCell_other _ _ _ _ (ne (by omega)), World.cell?_setCell_other _ _ _ _ (ne (by omega)), World.cell?_setCell_other _ _ _ _ (ne (by omega))]; exact e1
    · rw [World.cell?_setCell_other _ _ _ _ (ne (by omega)), World.cell?_setCell_other _ _ _ _ (ne (by omega)), World.cell?_setCell_other _ _ _ _ (ne (by omega))]; exact e2
end Go.Proofs.YbulkdammDoor
