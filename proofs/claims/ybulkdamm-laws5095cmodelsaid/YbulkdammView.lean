/-
  Seat b5095a: LawS5095CModel: the arguments as they lie.
-/
import Derived.Test.YbulkdammRows
import Derived.Test.YbulkdammWords
import Derived.ProofKit
import Derived.OpenShut
import Derived.ChangeOld
import Derived.Deep.SlicePairs
namespace Go.Proofs.Ybulkdamm
open Go.ChangeShapes Go.WideShapes Go.ChangeAt Go.RowKit Go.Deep
set_option linter.unusedVariables false
set_option linter.unusedSimpArgs false

theorem own_knob : ownKnob Yba.prog.godebug = none := by kernel_rfl
theorem laid_out : laidOutB Yba.prog = true := by kernel_rfl
theorem cells30 : Yba.prog.cellsOf 30 = 2 := by kernel_rfl
theorem cells25 : Yba.prog.cellsOf 25 = 2 := by kernel_rfl
theorem cells5 : Yba.prog.cellsOf 5 = 1 := by kernel_rfl
theorem cells9 : Yba.prog.cellsOf 9 = 1 := by kernel_rfl
theorem cells4 : Yba.prog.cellsOf 4 = 1 := by kernel_rfl

theorem u8_nat {z : Int} (h : (Lit.int .u8 z).wf = true) : ∃ n : Nat, z = n ∧ n < 256 := by
  have hb : 0 ≤ z ∧ z < 256 := by
    simp [Lit.wf, IntKind.min, IntKind.max, IntKind.signed, IntKind.bits] at h; omega
  obtain ⟨n, rfl⟩ := Int.eq_ofNat_of_zero_le hb.1
  exact ⟨n, rfl, by omega⟩

theorem view_zs {H : Type} {enc : TypeId × Value → H} {W : World} {fuel : Nat} {a0 : Option Addr} {n c : Nat} {x : DataW H × List MemPlace}
    (h : DataW.trod enc Yba.prog W 0 (fun _ => true) true fuel 22 [.slice a0 n c] = some x) : ∃ (zb zo : Nat) (lo wd : Nat → Nat), ∀ i, i < n → a0 = some ⟨zb, zo, none⟩ ∧ W.cell? ⟨zb, zo + i * 2, none⟩ = some (.int .u8 (lo i)) ∧ W.cell? ⟨zb, zo + i * 2 + 1, none⟩ = some (.int .u8 (wd i)) ∧ lo i < 256 ∧ wd i < 256 := by
  rcases open_slice_pairs Yba.underlying22 Yba.underlying30 cells30 rfl rfl cells5 cells5 h with ⟨hcs, _⟩ | ⟨a, len, cap, m, nn, V0, V1, D0, D1, P0, P1, hcs, _, hl, hm, hmm, _, hx⟩
  · simp at hcs
    obtain ⟨rfl, rfl, rfl⟩ := hcs
    exact ⟨0, 0, fun _ => 0, fun _ => 0, fun i hi => by omega⟩
  · simp at hcs
    obtain ⟨rfl, rfl, rfl⟩ := hcs
    simp only [if_true] at hmm
    subst hmm
    have each : ∀ i, i < m → ∃ q : Nat × Nat, V0 i = .int .u8 q.1 ∧ V1 i = .int .u8 q.2 ∧ q.1 < 256 ∧ q.2 < 256 := fun i hi => by
      obtain ⟨_, _, t0, t1⟩ := hx i hi
      obtain ⟨x0, e0, _, w0⟩ := DataW.trod_int Yba.underlying5 t0
      obtain ⟨x1, e1, _, w1⟩ := DataW.trod_int Yba.underlying5 t1
      obtain ⟨y0, rfl, b0⟩ := u8_nat w0
      obtain ⟨y1, rfl, b1⟩ := u8_nat w1
      exact ⟨(y0, y1), by simpa using e0, by simpa using e1, b0, b1⟩
    obtain ⟨f, hf⟩ := choose_lt each
    by_cases h0 : n = 0
    · exact ⟨0, 0, fun _ => 0, fun _ => 0, fun i hi => by omega⟩
    · obtain ⟨b, off, spot⟩ := a
      have hspot : spot = none := by simpa [Addr.add] using World.cell?_spot (hx 0 (by omega)).1
      subst hspot
      refine ⟨b, off, fun i => (f i).1, fun i => (f i).2, fun i hi => ?_⟩
      obtain ⟨c0, c1, _, _⟩ := hx i (by omega)
      obtain ⟨e0, e1, b0, b1⟩ := hf i (by omega)
      rw [Addr.add_lit, e0] at c0
      rw [Addr.add_lit, e1, ← Nat.add_assoc] at c1
      exact ⟨rfl, c0, c1, b0, b1⟩

theorem mem_weightsAll {H : Type} {P : Program} {e : TypeId} {ds : List (DataW H)} {d : DataW H} (hd : d ∈ ds) {x : Nat} (hx : x ∈ d.weights P e) : x ∈ DataW.weightsAll P e ds := by
  induction ds with
  | nil => cases hd
  | cons d' r ih =>
    rw [DataW.weightsAll, List.mem_append]
    rcases List.mem_cons.1 hd with rfl | hd
    · exact .inl hx
    · exact .inr (ih hd)

theorem view_ws {H : Type} {enc : TypeId × Value → H} {W : World} {fuel : Nat} {a0 : Option Addr} {n c : Nat} {x : DataW H × List MemPlace}
    (h : DataW.trod enc Yba.prog W 0 (fun _ => true) true fuel 23 [.slice a0 n c] = some x) (hw : ∀ y ∈ x.1.weights Yba.prog 23, y ≤ reachBytes) : ∃ (wb wo : Nat) (tx : Nat → ByteArray) (fd : Nat → Bool), ∀ i, i < n → a0 = some ⟨wb, wo, none⟩ ∧ W.cell? ⟨wb, wo + i * 2, none⟩ = some (.string (tx i)) ∧ W.cell? ⟨wb, wo + i * 2 + 1, none⟩ = some (.bool (fd i)) ∧ (tx i).size ≤ 4611686018427387904 := by
  rcases open_slice_pairs Yba.underlying23 Yba.underlying25 cells25 rfl rfl cells9 cells4 h with ⟨hcs, _⟩ | ⟨a, len, cap, m, nn, V0, V1, D0, D1, P0, P1, hcs, _, hl, hm, hmm, hX, hx⟩
  · simp at hcs
    obtain ⟨rfl, rfl, rfl⟩ := hcs
    exact ⟨0, 0, fun _ => ByteArray.empty, fun _ => false, fun i hi => by omega⟩
  · simp at hcs
    obtain ⟨rfl, rfl, rfl⟩ := hcs
    simp only [if_true] at hmm
    subst hmm
    have each : ∀ i, i < m → ∃ q : ByteArray × Bool, V0 i = .string q.1 ∧ V1 i = .bool q.2 ∧ D0 i = .lit (.string q.1.data.toList) := fun i hi => by
      obtain ⟨_, _, t0, t1⟩ := hx i hi
      obtain ⟨x0, e0, e0', _⟩ := DataW.trod_string Yba.underlying9 t0
      obtain ⟨x1, e1, _⟩ := DataW.trod_bool Yba.underlying4 t1
      simp only [Prod.mk.injEq] at e0'
      exact ⟨(x0, x1), by simpa using e0, by simpa using e1, e0'.1⟩
    obtain ⟨f, hf⟩ := choose_lt each
    by_cases h0 : n = 0
    · exact ⟨0, 0, fun _ => ByteArray.empty, fun _ => false, fun i hi => by omega⟩
    · obtain ⟨b, off, spot⟩ := a
      have hspot : spot = none := by simpa [Addr.add] using World.cell?_spot (hx 0 (by omega)).1
      subst hspot
      refine ⟨b, off, fun i => (f i).1, fun i => (f i).2, fun i hi => ?_⟩
      obtain ⟨c0, c1, _, _⟩ := hx i (by omega)
      obtain ⟨e0, e1, e2⟩ := hf i (by omega)
      rw [Addr.add_lit, e0] at c0
      rw [Addr.add_lit, e1, ← Nat.add_assoc] at c1
      refine ⟨rfl, c0, c1, ?_⟩
      subst hX
      have hin : (f i).1.data.toList.length ∈ (DataW.agg [D0 i, D1 i] : DataW H).weights Yba.prog 25 := by
        simp only [DataW.weights, Yba.underlying25, e2]
        simp [DataW.weightsEach, DataW.weights]
      have hmem : (f i).1.data.toList.length ∈ (DataW.slice ((List.range n).map fun i => .agg [D0 i, D1 i]) ((List.range (m - n)).map fun j => .agg [D0 (n + j), D1 (n + j)]) : DataW H).weights Yba.prog 23 := by
        simp only [DataW.weights, Yba.underlying23]
        refine List.mem_cons_of_mem _ (List.mem_append.2 (.inl (mem_weightsAll (List.mem_map.2 ⟨i, by simpa using hi, rfl⟩) hin)))
      have := hw _ hmem
      have hs : (f i).1.data.toList.length = (f i).1.size := by rw [Array.length_toList]; rfl
      rw [hs] at this
      have h2 : reachBytes = 140737488351232 := rfl
      show (f i).1.size ≤ _
      omega
end Go.Proofs.Ybulkdamm
