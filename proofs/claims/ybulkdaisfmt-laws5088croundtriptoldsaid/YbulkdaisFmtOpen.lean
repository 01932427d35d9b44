/-
  What the three cards of this seat share: the closed facts, the listed sentinels, the slices that came in, the witness.
-/
import Derived.Test.YbulkdaisFmtTie
import Derived.Test.YbulkdaisFmtCards
import Derived.Test.YbulkdaisFmtBuild
import Derived.ProofKit
import Derived.LaidMore
import Derived.OpenShut
import Derived.Stop.Joined
import Derived.Stop.JoinedTold
import Derived.Stop.LaidErr
import Derived.Stop.ErrReads
import Derived.Deep.DeepWitnessRef
import Derived.SevenTiedAt
namespace Go.Proofs.YbulkdaisFmt
open Go.ChangeShapes Go.WideShapes Go.ChangeAt Go.RowKit
open Go.Extern.Stop Go.Stop Go.Extern
set_option linter.unusedVariables false

theorem own : ownKnob Ybaf.prog.godebug = none := by kernel_rfl
theorem laidOut : laidOutB Ybaf.pinned.checked.prog = true := by kernel_rfl
theorem stops : Ybaf.pinned.checked.prog.stops = ["fmt.errorf"] := by kernel_rfl
theorem stopKnobs : Ybaf.pinned.checked.prog.stopKnobs = [] := by kernel_rfl
theorem quiet (os : Os) : Stop.quiet Ybaf.pinned.checked.prog os := by
  intro k hk
  rw [stopKnobs] at hk
  cases hk
theorem gU : Ybaf.prog.globalNamed "io.ErrUnexpectedEOF" = some 0 := by kernel_rfl
/-- The name of the third listed variable. -/
def nI : String := Rows.lawS5088CTruncatedSpec.vars.headD ""
theorem gI : Ybaf.prog.globalNamed nI = some 1 := by kernel_rfl
theorem gE : Ybaf.prog.globalNamed "io.EOF" = some 2 := by kernel_rfl
theorem tU : (Ybaf.prog.globals[0]?).map (·.type) = some 34 := by kernel_rfl
theorem tI : (Ybaf.prog.globals[1]?).map (·.type) = some 34 := by kernel_rfl
theorem tE : (Ybaf.prog.globals[2]?).map (·.type) = some 34 := by kernel_rfl
theorem cells64 : Ybaf.prog.cellsOf 64 = 1 := by kernel_rfl
theorem cells9 : Ybaf.prog.cellsOf 9 = 1 := by kernel_rfl
theorem cells45 : Ybaf.prog.cellsOf 45 = 1 := by kernel_rfl
theorem cells42 : Ybaf.prog.cellsOf 42 = 1 := by kernel_rfl
theorem cells5 : Ybaf.prog.cellsOf 5 = 1 := by kernel_rfl
/-- The name of the type that errors.New makes, as the rows' own data spell it. -/
def ifaceName {H : Type} : DataW H → String
  | .iface n _ => n
  | _ => ""
def nS : String := ifaceName (H := Unit) Rows.laid_io_EOF
theorem star : String.singleton (Char.ofNat 42) ++ "errors.errorString" = nS := by decide
theorem row62 (u : TypeId) (h : Ybaf.prog.typeName? 3 u = some nS) : u = 62 :=
  typeName_ptr_named (nm := "errors.errorString") (by kernel_rfl) (by kernel_rfl) (by decide) u (by rw [h]; exact congrArg some (by decide))

def laid3 : List (String × DataW Unit) := Rows.lawS5088CTruncatedRow.laid

theorem door_met (os : Os) (args : Array Value) : laidMetH Ybaf.prog laid3 ((World.doorLaid Ybaf.prog 66 os).forCall (fun _ _ => 0) ⟨#[], args, []⟩).memory :=
  laidMetH_of_parts3 (fuel := 8) (laidMet_of_run' 8 (by kernel_rfl) (by kernel_rfl)) (by kernel_rfl) (by kernel_rfl)

/-- What the condition gives the walks. -/
theorem of_laid {W : World} (h : laidMetH Ybaf.prog laid3 W) : ∃ (aU aE : Addr) (x1 : Value) (cu : Array Value) (tu : TypeId), W.cell? ⟨0, 0, none⟩ = some (.iface 62 (.pointer (some aU))) ∧ W.cell? ⟨2, 0, none⟩ = some (.iface 62 (.pointer (some aE))) ∧
    W.heap[aU.block]? = some (.cells cu tu (0, 0)) ∧ (∃ s, W.cell? aU = some (.string s)) ∧ W.var? Ybaf.prog nI = some #[.iface 62 x1] ∧ 2 < W.heap.size := by
  rw [MakeChecks.laidMetH_plain _ _ _ (by kernel_rfl)] at h
  have hL := h
  obtain ⟨aE, sE, vE, cE, _, _⟩ := laid_sentinel h gE tE Ybaf.underlying34 row62 Ybaf.underlying62 Ybaf.underlying64 rfl rfl Ybaf.underlying9 cells64 cells9
  obtain ⟨aI, sI, vI, cI, _, _⟩ := laid_sentinel h.tail.tail gI tI Ybaf.underlying34 row62 Ybaf.underlying62 Ybaf.underlying64 rfl rfl Ybaf.underlying9 cells64 cells9
  have h1 := h.tail
  obtain ⟨ps, ⟨g0, t0, cs0, f0, p0, q0, hg0, ht0, hv0, hd0, hq0, e0⟩, hnd, hrows⟩ := h1
  obtain rfl := Option.some.inj (gU.symm.trans hg0)
  obtain rfl := Option.some.inj (tU.symm.trans ht0)
  subst e0
  obtain ⟨l0⟩ := cs0
  have ok0 : ∀ u v, l0 = [.iface u v] → Value.okWide Ybaf.prog W .any 0 u v := fun u v e => by
    subst e
    exact (hrows 0 0 (by simp [MemPlace.row])).2 u v (by simpa using World.var?_cell hg0 hv0 0)
  obtain ⟨aU, sU, rfl, cU, _, _, rfl⟩ := errorString_of_trod Ybaf.underlying34 row62 Ybaf.underlying62 Ybaf.underlying64 rfl rfl Ybaf.underlying9 cells64 cells9 hd0 ok0
  obtain ⟨cu, tu, hb⟩ := (hrows aU.block aU.off (by simp [MemPlace.row])).1
  have hcE : W.cell? ⟨2, 0, none⟩ = some (.iface 62 (.pointer (some aE))) := by simpa using World.var?_cell gE vE 0
  have hcU : W.cell? ⟨0, 0, none⟩ = some (.iface 62 (.pointer (some aU))) := by simpa using World.var?_cell hg0 hv0 0
  have h2 := block_lt_of_cell hcE
  exact ⟨aU, aE, _, cu, tu, hcU, hcE, hb, ⟨sU, cU⟩, vI, by simpa using h2⟩

theorem getD_past (l : List Nat) (j : Nat) (h : l.length ≤ j) : l.getD j 0 = 0 := by
  simp [List.getD, List.getElem?_eq_none h]

/-- A slice of numbers that came in, as the walks want it. -/
theorem view {H : Type} {enc : TypeId × Value → H} {W : World} {t e : TypeId} {k : IntKind} {fuel : Nat} {a0 : Option Addr} {n c : Nat} {x : DataW H × List MemPlace} (ht : Ybaf.prog.underlying t = some (.slice e)) (he : Ybaf.prog.underlying e = some (.int k)) (hc : Ybaf.prog.cellsOf e = 1)
    (h : DataW.trod enc Ybaf.prog W 0 (fun _ => true) true fuel t [.slice a0 n c] = some x) (M : Int) (hk : ∀ z : Int, (Lit.int k z).wf = true → 0 ≤ z ∧ z < M) :
    ∃ xs : List Nat, Came W k a0 n xs ∧ n ≤ maxLen ∧ n = xs.length ∧ (0 < M → ∀ j, ((xs.getD j 0 : Nat) : Int) < M) ∧ (∀ j, n ≤ j → xs.getD j 0 = 0) := by
  rcases open_ints ht he hc h with ⟨hcs, _⟩ | ⟨a, len, cap, zs, hcs, _, hl, hm, hz, _, hcell, hwz⟩
  · simp at hcs
    obtain ⟨rfl, rfl, rfl⟩ := hcs
    exact ⟨[], Or.inl rfl, by simp [maxLen], rfl, by simp, by simp⟩
  · simp at hcs
    obtain ⟨rfl, rfl, rfl⟩ := hcs
    simp only [if_true] at hz
    have hlz : n ≤ zs.length := by omega
    refine ⟨(zs.take n).map Int.toNat, ?_, by omega, by simp; omega, fun hM j => ?_, fun j hj => ?_⟩
    · by_cases h0 : n = 0
      · exact Or.inl h0
      · right
        obtain ⟨b, off, rfl, hcc⟩ := ints_at hcell (by omega)
        have hb := block_lt_of_cell (hcc 0 (by omega))
        refine ⟨b, off, rfl, by simpa using hb, fun j hj => ?_⟩
        rw [hcc j (by omega)]
        have hmem : zs[j]'(by omega) ∈ zs := List.getElem_mem _
        have hw := hk _ (hwz _ hmem)
        simp [hj, show j < zs.length from by omega]
        omega
    · by_cases hj : j < n
      · have hmem : zs[j]'(by omega) ∈ zs := List.getElem_mem _
        have hw := hk _ (hwz _ hmem)
        simp [hj, show j < zs.length from by omega]
        omega
      · rw [getD_past _ j (by simp; omega)]; simpa using hM
    · rw [getD_past _ j (by simp; omega)]

theorem wf_u16 (z : Int) (h : (Lit.int .u16 z).wf = true) : 0 ≤ z ∧ z < 65536 := by
  simp [Lit.wf, IntKind.min, IntKind.max, IntKind.signed, IntKind.bits] at h; omega
theorem wf_u32 (z : Int) (h : (Lit.int .u32 z).wf = true) : 0 ≤ z ∧ z < 4294967296 := by
  simp [Lit.wf, IntKind.min, IntKind.max, IntKind.signed, IntKind.bits] at h; omega
theorem wf_u8 (z : Int) (h : (Lit.int .u8 z).wf = true) : 0 ≤ z ∧ z < 256 := by
  simp [Lit.wf, IntKind.min, IntKind.max, IntKind.signed, IntKind.bits] at h; omega
theorem wf_u64 (z : Int) (h : (Lit.int .u64 z).wf = true) : 0 ≤ z ∧ z < 18446744073709551616 := by
  simp [Lit.wf, IntKind.min, IntKind.max, IntKind.signed, IntKind.bits] at h; omega
end Go.Proofs.YbulkdaisFmt
