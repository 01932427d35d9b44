import Derived.Test.YbulkdammKey
import Derived.Laws.IdiomStrings
namespace Go.Proofs.Ybulkdamm
open Go.RowKit
set_option linter.unusedVariables false

theorem uv_any (base x n : Nat) (v : Value) (xs : List Value) (w : World) (hown : w.ownsRow base 5 1 v n xs) (hx : x < 16384) (hbw : base ≤ w.heap.size) (hn : n ≤ 1000000) :
    Calls Yba.prog 12 #[v, .int .u64 x] w fun e w' => ∃ v', e = .returned v' ∧ w'.ownsRow base 5 1 v' (n + (uv x).length) (xs ++ bytesV (uv x)) ∧ Below base w w' := by
  by_cases h : x < 128
  · refine (uv_small base x n v xs w hown h hbw hn).mono ?_
    rintro e w' ⟨v', h1, h2, h3⟩
    exact ⟨v', h1, by simpa [uv, h, bytesV] using h2, h3⟩
  · refine (uv_big base x n v xs w hown (by omega) hx hbw hn).mono ?_
    rintro e w' ⟨v', h1, h2, h3⟩
    exact ⟨v', h1, by simpa [uv, h, bytesV] using h2, h3⟩

/-- The bytes of the key of m pieces, the i-th the one terminal t i. -/
def keyL (t : Nat → Nat) : Nat → List Nat
  | 0 => []
  | m + 1 => keyL t m ++ (1 :: uv (t m))
theorem uv_length (x : Nat) : (uv x).length ≤ 2 := by unfold uv; split <;> simp
theorem keyL_length (t : Nat → Nat) (m : Nat) : (keyL t m).length ≤ m * 3 := by
  induction m with
  | zero => simp [keyL]
  | succ m ih => have := uv_length (t m); simp [keyL]; omega

theorem uv_byte (x : Nat) (hx : x < 16384) : ∀ b ∈ uv x, b < 256 := by
  intro b hb
  unfold uv at hb
  split at hb <;> simp at hb <;> omega
theorem keyL_mem (t : Nat → Nat) (m : Nat) (h : ∀ i, i < m → t i < 16384) : ∀ b ∈ keyL t m, b < 256 := by
  induction m with
  | zero => intro b hb; simp [keyL] at hb
  | succ m ih =>
    intro b hb
    simp [keyL] at hb
    rcases hb with hb | rfl | hb
    · exact ih (fun i hi => h i (by omega)) b hb
    · omega
    · exact uv_byte _ (h m (by omega)) b hb
theorem keyL_byte (t : Nat → Nat) (m : Nat) (h : ∀ i, i < m → t i < 16384) : ∀ j, j < (keyL t m).length → (keyL t m).getD j 0 < 256 := by
  intro j hj
  apply keyL_mem t m h
  rw [List.getD_eq_getElem?_getD, List.getElem?_eq_getElem hj]
  simp

def keyS (t : Nat → Nat) (m : Nat) : ByteArray := ⟨((keyL t m).map UInt8.ofNat).toArray⟩

/-- The pieces, each one terminal. -/
def PiecesAt (w : World) (Pb po m : Nat) (t : Nat → Nat) : Prop := ∀ i, i < m → t i < 16384 ∧ ∃ b c, w.cell? ⟨Pb, po + i, none⟩ = some (.slice (some ⟨b, 0, none⟩) 1 c) ∧ w.cell? ⟨b, 0, none⟩ = some (.int .i32 (t i))
theorem PiecesAt.below {w w' : World} {Pb po m : Nat} {t : Nat → Nat} (h : PiecesAt w Pb po m t) (hb : Below w.heap.size w w') : PiecesAt w' Pb po m t := fun i hi => by
  obtain ⟨h1, b, c, h2, h3⟩ := h i hi
  exact ⟨h1, b, c, by rw [hb.cell (block_lt_of_cell h2)]; exact h2, by rw [hb.cell (block_lt_of_cell h3)]; exact h3⟩

set_option maxHeartbeats 1600000 in
set_option maxRecDepth 100000 in
theorem key_any (Pb po m pc : Nat) (t : Nat → Nat) (w : World) (hm : 1 ≤ m) (hm2 : m ≤ 5000) (hP : PiecesAt w Pb po m t) :
    Calls Yba.prog 8 #[.slice (some ⟨Pb, po, none⟩) m pc] w fun e w' => e = .returned (.string (keyS t m)) ∧ Below w.heap.size w w' := by
  have HP := hid hP
  clear hP
  go_enter Yba.func8, Yba.ntmps8
  go_wp2
  go_loopw [3, 10] (fun v i wr => ∃ k : Nat, k ≤ m ∧ i = .int .i64 k ∧ Below w.heap.size w wr ∧ wr.ownsRow w.heap.size 5 1 v (keyL t k).length (bytesV (keyL t k))) (fun _ i _ => m - (intOf i).toNat)
  case atStart => exact ⟨0, by omega, rfl, Below.refl _ _, World.ownsRow_nil _ _ _ _⟩
  case round =>
    obtain ⟨k, hk, rfl, hb, hown⟩ := hrel
    have HB := hid hb
    have HO := hid hown
    clear hb hown
    by_cases hlt : k < m
    · obtain ⟨ht, b, c, p1, p2⟩ := HP.out k hlt
      have q1 : wr.cell? ⟨Pb, po + k, none⟩ = some (.slice (some ⟨b, 0, none⟩) 1 c) := by rw [HB.out.cell (block_lt_of_cell p1)]; exact p1
      have hbl : b < w.heap.size := block_lt_of_cell p2
      have HP2 := hid p2
      clear p1 p2
      have b1 : (k : Int) < (m : Int) := by omega
      have hlen := keyL_length t k
      have hu := uv_any w.heap.size 1 _ _ _ wr HO.out (by omega) HB.out.size (by omega)
      have HU := hid hu
      clear hu
      go_wp2_with fail
      refine HU.out.mono ?_
      rintro e w1 ⟨v1, rfl, own1, bel1⟩
      have B1 := hid (HB.out.trans bel1)
      have q2 : w1.cell? ⟨b, 0, none⟩ = some (.int .i32 (t k)) := by rw [B1.out.cell (p := ⟨b, 0, none⟩) hbl]; exact HP2.out
      have hlen1 := uv_length 1
      have hu2 := uv_any w.heap.size (t k) _ _ _ w1 own1 ht B1.out.size (by omega)
      have HU2 := hid hu2
      clear hu2 own1 bel1 HU q1
      have tb : ((t k : Nat) : Int) < 16384 := by omega
      go_wp2
      refine wp_loop_rounds 2 ?_
      rw [rounds_succ]
      go_wp2_with fail
      refine HU2.out.mono ?_
      rintro e w2 ⟨v2, rfl, own2, bel2⟩
      have B2 := hid (B1.out.trans bel2)
      have O2 := hid own2
      clear own2 bel2 HU2
      go_wp2
      rw [rounds_succ]
      go_wp2
      refine ⟨⟨k + 1, by omega, by go_num, B2.out, ?_⟩, by simp [intOf]; omega⟩
      have := O2.out
      have e1 : uv 1 = [1] := rfl
      rw [e1] at this
      have e2 : keyL t (k + 1) = keyL t k ++ (1 :: uv (t k)) := rfl
      rw [e2]
      simpa [bytesV, Nat.add_assoc, Nat.add_comm 1] using this
    · have hkm : k = m := by omega
      subst hkm
      obtain ⟨g, cap, hv, hg, hgl⟩ := HO.out.form (by
        have : keyL t k = keyL t (k - 1) ++ (1 :: uv (t (k - 1))) := by
          obtain ⟨j, rfl⟩ : ∃ j, k = j + 1 := ⟨k - 1, by omega⟩
          rfl
        rw [this]; simp; omega)
      have hO := HO.out
      rw [hv] at hO
      have hby : ∀ j, j < (keyL t k).length → (keyL t k).getD j 0 < 256 := keyL_byte t k (fun i hi => (HP.out i hi).1)
      have hconv : (convert 47 9 (.slice (some ⟨g, 0, none⟩) (keyL t k).length cap)).run Yba.prog wr = .ok (.string (keyS t k)) wr := by
        have := run_convert_bytes_back (P := Yba.prog) wr 47 9 5 ⟨g, 0, none⟩ cap ((keyL t k).map UInt8.ofNat) Yba.underlying47 Yba.underlying5 Yba.underlying9 (fun j hj => by
          have hj' : j < (keyL t k).length := by simpa using hj
          have hb := hby j hj'
          have := hO.cellAt j (by simpa using hj')
          rw [show (⟨g, 0, none⟩ : Addr).add j = ⟨g, j, none⟩ from by simp [Addr.add]; omega, this]
          simp [bytesV, hj']
          rw [List.getD_eq_getElem?_getD, List.getElem?_eq_getElem hj'] at hb
          simp at hb
          omega)
        simpa [keyS] using this
      subst hv
      clear hO hby
      go_wp2
      go_ret
      exact ⟨by simp, HB.out⟩

theorem map_inj_byte : ∀ (a b : List Nat), (∀ x ∈ a, x < 256) → (∀ x ∈ b, x < 256) → a.map UInt8.ofNat = b.map UInt8.ofNat → a = b
  | [], [], _, _, _ => rfl
  | [], _ :: _, _, _, h => by simp at h
  | _ :: _, [], _, _, h => by simp at h
  | x :: a, y :: b, ha, hb, h => by
    simp only [List.map_cons, List.cons.injEq] at h
    have hx := ha x (by simp)
    have hy := hb y (by simp)
    have e := congrArg UInt8.toNat h.1
    simp at e
    have e2 : x = y := by omega
    rw [e2, map_inj_byte a b (fun z hz => ha z (by simp [hz])) (fun z hz => hb z (by simp [hz])) h.2]

/-- The keys of two single terminals are the same only if the terminals are. -/
theorem key_inj {a b : Nat} (ha : a < 16384) (hb : b < 16384) (h : keyS (fun _ => a) 1 = keyS (fun _ => b) 1) : a = b := by
  have h1 := congrArg (fun s => s.data.toList) h
  simp only [keyS] at h1
  have h2 := map_inj_byte _ _ (keyL_mem (fun _ => a) 1 (fun _ _ => ha)) (keyL_mem (fun _ => b) 1 (fun _ _ => hb)) h1
  simp [keyL] at h2
  exact uv_inj ha hb h2
end Go.Proofs.Ybulkdamm
