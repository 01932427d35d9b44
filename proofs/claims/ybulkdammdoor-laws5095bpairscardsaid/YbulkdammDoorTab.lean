import Derived.Test.YbulkdammDoorLeaf2
namespace Go.Proofs.YbulkdammDoor
open Go.RowKit
set_option linter.unusedVariables false

def mixA (h : Int) : Int := IntKind.u64.wrap (bits .xor .u64 h (h / 8589934592) * 18397679294719823053)
def mixI (h : Int) : Int := bits .xor .u64 (mixA h) (mixA h / 8589934592)

theorem wrap_u64 (x : Int) : 0 ≤ IntKind.u64.wrap x ∧ IntKind.u64.wrap x < 18446744073709551616 := by
  have : IntKind.u64.wrap x = x % 18446744073709551616 := rfl
  rw [this]; omega
theorem bits_u64 (op : BinOp) (x y : Int) : 0 ≤ bits op .u64 x y ∧ bits op .u64 x y < 18446744073709551616 := wrap_u64 _

set_option maxHeartbeats 800000 in
set_option maxRecDepth 100000 in
theorem mix_any (h : Int) (w : World) (h0 : 0 ≤ h) (h1 : h < 18446744073709551616) :
    Calls Ybad.prog 9 #[.int .u64 h] w fun e w' => e = .returned (.int .u64 (mixI h)) ∧ w' = w := by
  go_enter Ybad.func9, Ybad.ntmps9
  go_wp2
  go_ret
  exact ⟨rfl, rfl⟩

/-- The entries of a table. -/
def TB (w : World) (T : Nat) (K B V : Nat → Int) : Prop :=
  ∀ i, i < 64 → w.cell? ⟨T, i * 3, none⟩ = some (.int .u64 (K i)) ∧ w.cell? ⟨T, i * 3 + 1, none⟩ = some (.int .u32 (B i)) ∧ w.cell? ⟨T, i * 3 + 2, none⟩ = some (.int .i32 (V i))

def startI (h : Int) : Int := IntKind.u64.wrap (h * 11400714819323198485) / 288230376151711744

theorem and63 (t : Nat) (h : t < 63) : bits .and .u64 ((t : Int) + 1) 63 = (t : Int) + 1 := by
  have : ∀ t : Fin 63, bits .and .u64 ((t.1 : Int) + 1) 63 = (t.1 : Int) + 1 := by decide +kernel
  exact this ⟨t, h⟩

set_option maxHeartbeats 1600000 in
set_option maxRecDepth 100000 in
theorem lookup_none (M o T c : Nat) (K B V : Nat → Int) (h : Int) (s p : Nat) (n : Int) (w : World) (h0 : 0 ≤ h) (h1 : h < 18446744073709551616)
    (c0 : w.cell? ⟨M, o, none⟩ = some (.slice (some ⟨T, 0, none⟩) 64 c)) (c1 : w.cell? ⟨M, o + 1, none⟩ = some (.int .u32 1)) (c2 : w.cell? ⟨M, o + 2, none⟩ = some (.int .i64 58)) (c3 : w.cell? ⟨M, o + 3, none⟩ = some (.int .i64 n)) (hn : n ≠ 0)
    (ht : TB w T K B V) (hs : startI h = s) (hsp : s ≤ p) (hp : p < 64) (hocc : ∀ t, s ≤ t → t < p → B t = 1 ∧ K t ≠ h) (hfree : B p = 0) :
    Calls Ybad.prog 10 #[.pointer (some ⟨M, o, none⟩), .int .u64 h] w fun e w' => e = .returned (.tuple #[.int .i32 0, .bool false]) ∧ ∃ k, w' = w.drewN k := by
  have HT := hid ht
  have HO := hid hocc
  have HF := hid hfree
  clear ht hocc hfree
  have hne : (n == 0) = false := by simpa using hn
  have hs : IntKind.u64.wrap (h * 11400714819323198485) / 288230376151711744 = (s : Int) := hs
  go_enter Ybad.func10, Ybad.ntmps10
  go_wp2
  go_loopw [7] (fun i wr => ∃ t q : Nat, s ≤ t ∧ t ≤ p ∧ i = .int .u64 t ∧ wr = w.drewN q) (fun i _ => 64 - (intOf i).toNat)
  case atStart => exact ⟨s, 0, by omega, by omega, rfl, rfl⟩
  case round =>
    obtain ⟨t, q, hst, hj, rfl, rfl⟩ := hrel
    obtain ⟨e0, e1, e2⟩ := HT.out t (by omega)
    have b0 : (0 : Int) ≤ (t : Int) := by omega
    have b1 : (t : Int) < 64 := by omega
    by_cases hlt : t < p
    · rw [(HO.out t hst hlt).1] at e1
      have hk : (K t == h) = false := by simpa using (HO.out t hst hlt).2
      have ha := and63 t (by omega)
      go_wp2
      go_quiet (fail)
      go_wp2
      exact ⟨⟨t + 1, _, by omega, by omega, by go_num, rfl⟩, by simp [intOf]; omega⟩
    · have htd : t = p := by omega
      subst htd
      rw [HF.out] at e1
      go_wp2
      go_quiet (fail)
      go_wp2
      go_ret2
      exact ⟨by simp, _, World.drewN_drewN _ _ _⟩

set_option maxHeartbeats 1600000 in
set_option maxRecDepth 100000 in
theorem lookup_empty (M o : Nat) (h : Int) (w : World)
    (c3 : w.cell? ⟨M, o + 3, none⟩ = some (.int .i64 0)) :
    Calls Ybad.prog 10 #[.pointer (some ⟨M, o, none⟩), .int .u64 h] w fun e w' => e = .returned (.tuple #[.int .i32 0, .bool false]) ∧ w' = w := by
  go_enter Ybad.func10, Ybad.ntmps10
  go_wp2
  go_ret2
  exact ⟨by simp, rfl⟩

set_option maxHeartbeats 1600000 in
set_option maxRecDepth 100000 in
theorem lookup_hit (M o T c : Nat) (K B V : Nat → Int) (h : Int) (s : Nat) (n : Int) (w : World) (h0 : 0 ≤ h) (h1 : h < 18446744073709551616)
    (c0 : w.cell? ⟨M, o, none⟩ = some (.slice (some ⟨T, 0, none⟩) 64 c)) (c1 : w.cell? ⟨M, o + 1, none⟩ = some (.int .u32 1)) (c2 : w.cell? ⟨M, o + 2, none⟩ = some (.int .i64 58)) (c3 : w.cell? ⟨M, o + 3, none⟩ = some (.int .i64 n)) (hn : n ≠ 0)
    (ht : TB w T K B V) (hs : startI h = s) (hsd : s < 64) (hB : B s = 1) (hK : K s = h) :
    Calls Ybad.prog 10 #[.pointer (some ⟨M, o, none⟩), .int .u64 h] w fun e w' => e = .returned (.tuple #[.int .i32 (V s), .bool true]) ∧ ∃ k, w' = w.drewN k := by
  obtain ⟨e0, e1, e2⟩ := ht s hsd
  rw [hB] at e1
  rw [hK] at e0
  clear ht hB hK
  have hne : (n == 0) = false := by simpa using hn
  have b0 : (0 : Int) ≤ (s : Int) := by omega
  have b1 : (s : Int) < 64 := by omega
  have hs : IntKind.u64.wrap (h * 11400714819323198485) / 288230376151711744 = (s : Int) := hs
  go_enter Ybad.func10, Ybad.ntmps10
  go_wp2
  refine wp_loop_rounds 1 ?_
  rw [rounds_succ]
  go_wp2
  go_quiet (fail)
  go_wp2
  go_ret2
  exact ⟨by simp, _, rfl⟩

set_option maxHeartbeats 1600000 in
set_option maxRecDepth 100000 in
theorem entry_put (M o T c : Nat) (K B V : Nat → Int) (h v : Int) (s p : Nat) (n : Int) (w : World) (h0 : 0 ≤ h) (h1 : h < 18446744073709551616)
    (c0 : w.cell? ⟨M, o, none⟩ = some (.slice (some ⟨T, 0, none⟩) 64 c)) (c1 : w.cell? ⟨M, o + 1, none⟩ = some (.int .u32 1)) (c2 : w.cell? ⟨M, o + 2, none⟩ = some (.int .i64 58)) (c3 : w.cell? ⟨M, o + 3, none⟩ = some (.int .i64 n)) (hn : 0 ≤ n) (hn2 : n ≤ 31)
    (hMT : M ≠ T) (fT : ∀ o, w.frozen? ⟨T, o, none⟩ = false) (fM : w.frozen? ⟨M, o + 3, none⟩ = false)
    (ht : TB w T K B V) (hs : startI h = s) (hsp : s ≤ p) (hp : p < 64) (hocc : ∀ t, s ≤ t → t < p → B t = 1 ∧ K t ≠ h) (hfree : B p = 0) :
    Calls Ybad.prog 17 #[.pointer (some ⟨M, o, none⟩), .int .u64 h, .int .i32 v] w fun e w' => (∃ r, e = .returned r) ∧ ∃ k, w' = ((((w.setCell ⟨T, p * 3, none⟩ (.int .u64 h)).setCell ⟨T, p * 3 + 1, none⟩ (.int .u32 1)).setCell ⟨T, p * 3 + 2, none⟩ (.int .i32 v)).setCell ⟨M, o + 3, none⟩ (.int .i64 (n + 1))).drewN k := by
  have HT := hid ht
  have HO := hid hocc
  have HF := hid hfree
  clear ht hocc hfree
  have hs : IntKind.u64.wrap (h * 11400714819323198485) / 288230376151711744 = (s : Int) := hs
  have hg : decide (64 < 2 * (n + 1)) = false := by simp; omega
  go_enter Ybad.func17, Ybad.ntmps17
  go_wp2
  go_quiet (fail)
  go_wp2
  go_loopw [9] (fun i wr => ∃ t q : Nat, s ≤ t ∧ t ≤ p ∧ i = .int .u64 t ∧ wr = w.drewN q) (fun i _ => 64 - (intOf i).toNat)
  case atStart => exact ⟨s, _, by omega, by omega, rfl, rfl⟩
  case round =>
    obtain ⟨t, q, hst, hj, rfl, rfl⟩ := hrel
    obtain ⟨e0, e1, e2⟩ := HT.out t (by omega)
    have b0 : (0 : Int) ≤ (t : Int) := by omega
    have b1 : (t : Int) < 64 := by omega
    by_cases hlt : t < p
    · rw [(HO.out t hst hlt).1] at e1
      have hk : (K t == h) = false := by simpa using (HO.out t hst hlt).2
      have ha := and63 t (by omega)
      go_wp2
      go_quiet (fail)
      go_wp2
      exact ⟨⟨t + 1, _, by omega, by omega, by go_num, rfl⟩, by simp [intOf]; omega⟩
    · have htd : t = p := by omega
      subst htd
      rw [HF.out] at e1
      have f0 := fT (t * 3)
      have f1 := fT (t * 3 + 1)
      have f2 := fT (t * 3 + 2)
      go_wp2
      go_quiet (fail)
      go_wp2
      refine bodyPost_ret (v := .tuple #[.pointer (some ⟨T, t * 3 + 2, none⟩), .bool true]) (by simp [results, Ybad.results17]) rfl ⟨⟨_, rfl⟩, q + nq, rfl⟩
end Go.Proofs.YbulkdammDoor
