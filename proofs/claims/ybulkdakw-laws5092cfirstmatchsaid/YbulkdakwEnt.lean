import Derived.Test.YbulkdakwFind
namespace Go.Proofs.Ybulkdakw
open Go.RowKit
set_option linter.unusedVariables false

/-- The i-th extension as the law lays it. -/
structure Ent (E : Nat) (w : World) (i : Nat) (xs : List Int) (cr : Bool) : Prop where
  idc : ∃ v, w.cell? ⟨E, i * 3, none⟩ = some v ∧ Sl E w v xs
  crit : w.cell? ⟨E, i * 3 + 1, none⟩ = some (.bool cr)
  val : ∃ b, b ≠ E ∧ w.cell? ⟨E, i * 3 + 2, none⟩ = some (.slice (some ⟨b, 0, none⟩) 1 1) ∧ w.cell? ⟨b, 0, none⟩ = some (.int .u8 ((i : Int) % 256))

theorem Ent.keep {E m : Nat} {w w' : World} {i : Nat} {xs : List Int} {cr : Bool} (h : Ent E w i xs cr) (k : Keep E m w w') (hm : i * 3 + 2 < m) : Ent E w' i xs cr := by
  obtain ⟨⟨v, h1, h2⟩, h3, ⟨b, h4, h5, h6⟩⟩ := h
  exact ⟨⟨v, k _ _ (Or.inr (by simp; omega)) h1, h2.keep k⟩, k _ _ (Or.inr (by simp; omega)) h3, ⟨b, h4, k _ _ (Or.inr hm) h5, k _ _ (Or.inl h4) h6⟩⟩

theorem Ent.drewN {E : Nat} {w : World} {i : Nat} {xs : List Int} {cr : Bool} (h : Ent E w i xs cr) (k : Nat) : Ent E (w.drewN k) i xs cr := h.keep (m := i * 3 + 3) ((Keep.refl E (i * 3 + 3) w).drewN k) (by omega)

theorem setIf_size (a : Array Value) (i : Nat) (v : Value) : (a.setIfInBounds i v).size = a.size := by simp

/-- What a round lays. -/
def laidW (E k : Nat) (w1 : World) (v' : Value) (cr : Bool) : World :=
  (((w1.setCell ⟨E, k * 3, none⟩ v').setCell ⟨E, k * 3 + 1, none⟩ (.bool cr)).setCell ⟨E, k * 3 + 2, none⟩ (.slice (some ⟨w1.heap.size, 0, none⟩) 1 1)).alloc (.cells #[.int .u8 ((k : Int) % 256)] 5)

theorem laid_step {E k n : Nat} {w1 : World} {cur : Array Value} {v' : Value} {xs : List Int} {cr : Bool} (hblk : w1.heap[E]? = some (.cells cur 30 (0, 0))) (hsz : cur.size = n * 3) (hk : k < n) (hS : Sl E w1 v' xs) :
    (∃ cur', (laidW E k w1 v' cr).heap[E]? = some (.cells cur' 30 (0, 0)) ∧ cur'.size = n * 3) ∧ Keep E (k * 3) w1 (laidW E k w1 v' cr) ∧ Ent E (laidW E k w1 v' cr) k xs cr ∧ (∀ B, B ≤ E → Below B w1 (laidW E k w1 v' cr)) := by
  have hE := lt_of_block hblk
  have b1 := heap_setCell_same w1 E (k * 3) cur 30 v' hblk
  have b2 := heap_setCell_same _ E (k * 3 + 1) _ 30 (.bool cr) b1
  have b3 := heap_setCell_same _ E (k * 3 + 2) _ 30 (.slice (some ⟨w1.heap.size, 0, none⟩) 1 1) b2
  have hE3 := lt_of_block b3
  have b4 := (Below.heap_alloc _ (.cells #[.int .u8 ((k : Int) % 256)] 5) _ hE3).trans b3
  have hs3 : (((w1.setCell ⟨E, k * 3, none⟩ v').setCell ⟨E, k * 3 + 1, none⟩ (.bool cr)).setCell ⟨E, k * 3 + 2, none⟩ (.slice (some ⟨w1.heap.size, 0, none⟩) 1 1)).heap.size = w1.heap.size := by simp [World.setCell]
  have K1 := Keep.setCell E (k * 3) (k * 3) w1 v' (Nat.le_refl _)
  have K2 := K1.trans (Keep.setCell E (k * 3) (k * 3 + 1) (w1.setCell ⟨E, k * 3, none⟩ v') (.bool cr) (by omega))
  have K3 := K2.trans (Keep.setCell E (k * 3) (k * 3 + 2) _ (.slice (some ⟨w1.heap.size, 0, none⟩) 1 1) (by omega))
  have K : Keep E (k * 3) w1 (laidW E k w1 v' cr) := K3.trans (Keep.below (E := E) (m := k * 3) ((Below.refl _ _).alloc (Nat.le_refl _) (.cells #[.int .u8 ((k : Int) % 256)] 5)))
  refine ⟨⟨_, b4, by simp [hsz]⟩, K, ⟨⟨v', ?_, hS.keep K⟩, ?_, ⟨w1.heap.size, by omega, ?_, ?_⟩⟩, ?_⟩
  · rw [laidW, cell_of_row _ _ _ _ _ _ b4]
    simp [Array.getElem?_setIfInBounds]
    omega
  · rw [laidW, cell_of_row _ _ _ _ _ _ b4]
    simp [Array.getElem?_setIfInBounds]
    omega
  · rw [laidW, cell_of_row _ _ _ _ _ _ b4]
    simp [Array.getElem?_setIfInBounds]
    omega
  · have := heap_alloc_new (((w1.setCell ⟨E, k * 3, none⟩ v').setCell ⟨E, k * 3 + 1, none⟩ (.bool cr)).setCell ⟨E, k * 3 + 2, none⟩ (.slice (some ⟨w1.heap.size, 0, none⟩) 1 1)) (.cells #[.int .u8 ((k : Int) % 256)] 5)
    rw [hs3] at this
    rw [laidW, cell_of_row _ _ _ _ _ _ this]
    rfl
  · intro B hB
    exact ((((Below.refl B w1).setCell hB v').setCell hB _).setCell hB _).alloc (by rw [hs3]; omega) _

theorem built52 (E n : Nat) : ∃ cells, Yba.prog.built 52 [(17, .slice (some ⟨E, 0, none⟩) n n)] = some cells ∧ cells[41]? = some (.slice (some ⟨E, 0, none⟩) n n) := by
  have h1 : (Yba.prog.built 52 [(17, .slice (some ⟨E, 0, none⟩) n n)]).isSome = true := by kernel_rfl
  have h2 : (Yba.prog.built 52 [(17, .slice (some ⟨E, 0, none⟩) n n)]).bind (fun c => c[41]?) = some (.slice (some ⟨E, 0, none⟩) n n) := by kernel_rfl
  obtain ⟨cells, hc⟩ := Option.isSome_iff_exists.1 h1
  rw [hc] at h2
  exact ⟨cells, hc, h2⟩

/-- '&x509.Certificate{Extensions: exts}': the build, by a law: its 77 cells under one name. -/
theorem wpList_cert {ops : Array Oper} {rest : List Oper} {o : Oper} {a : Act} {Q : Exit → Act → World → Prop} (w : World) (hg : o.guard = none) (hop : o.op = .build 52 #[(17, .tmp 89)]) (E n : Nat)
    (hx : a.eval (.tmp 89) = .slice (some ⟨E, 0, none⟩) n n)
    (hK : ∀ cells : Array Value, cells[41]? = some (.slice (some ⟨E, 0, none⟩) n n) → wpList Yba.prog ops Q rest (a.put o.dst (.agg cells)) w) : wpList Yba.prog ops Q (o :: rest) a w := by
  obtain ⟨cells, h1, h2⟩ := built52 E n
  refine wpList_plain hg fun K hK' => ?_
  have hb : Yba.prog.built 52 ((#[(17, Operand.tmp 89)] : Array (Nat × Operand)).map fun (i, x) => (i, a.eval x)).toList = some cells := by
    simp only [List.map_toArray, List.map_cons, List.map_nil, hx]
    exact h1
  refine wp_build (P := Yba.prog) 52 #[(17, .tmp 89)] hop (by rw [hb]; rfl) ?_
  rw [hb]
  exact hK' _ _ (hK cells h2)
end Go.Proofs.Ybulkdakw
