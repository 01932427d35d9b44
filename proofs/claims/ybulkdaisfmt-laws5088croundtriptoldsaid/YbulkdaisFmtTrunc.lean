import Derived.Test.YbulkdaisFmtEncode
import Derived.Test.YbulkdaisFmtNamesCut
import Derived.WalkSpells
namespace Go.Proofs.YbulkdaisFmt
open Go.RowKit
set_option linter.unusedVariables false

theorem encode_n (n : Nat) (B cap : Nat) (L : List (Nat × Nat)) (w : World) (hLn : L.length = n) (hn : n ≤ 1024) (hL : ∀ p ∈ L, p.1 < 34359738368 ∧ p.2 < 34359738368)
    (hblk : w.heap[B]? = some (.cells (msgs L).toArray 38 (0, 0))) :
    Calls Ybaf.prog 7 #[.slice (some ⟨B, 0, none⟩) n cap] w fun e w' => ∃ g c h N, e = .returned (.tuple #[.slice (some ⟨g, 0, none⟩) N c, .slice (some ⟨h, 0, none⟩) n n]) ∧ Hid (N = (encAll L).length) ∧ 1 ≤ N ∧ N ≤ 20000 ∧
      w'.ownsRow w.heap.size 5 1 (.slice (some ⟨g, 0, none⟩) N c) N ((encAll L).map bv) ∧
      Hid (∀ k, k < n → w'.cell? ⟨h, k, none⟩ = some (.int .i64 (ends L k : Nat))) ∧ w.heap.size ≤ h ∧ Below w.heap.size w w' := by
  subst hLn
  refine (encode_any B cap L w hn hL hblk).mono ?_
  rintro e w' ⟨g, c, h, rfl, h1, h2, h3, h4⟩
  refine ⟨g, c, h, _, rfl, rfl, ?_, ?_, h1, h2, h3, h4⟩
  · have := encV_length L.length
    simp [encAll]; omega
  · have := encV_length L.length
    have := encL_length_le L
    simp [encAll]; omega

/-- What build makes: in order, and small. -/
theorem bld_small (ds ss : List Nat) (n : Nat) (hn : n ≤ 1024) (hd : ∀ j, ds.getD j 0 < 65536) (hq : ∀ j, ss.getD j 0 < 4294967296) : ∀ p ∈ bldTo ds ss n, p.1 < 34359738368 ∧ p.2 < 34359738368 := by
  intro p hp
  obtain ⟨j, hj, rfl⟩ := List.getElem_of_mem hp
  have hl := bldTo_length ds ss n
  rw [bldTo_get ds ss n j (by omega)]
  have h1 := snd_lt ds hd j
  have h2 := hq j
  constructor
  · show snd ds j < _
    have : 65537 * (j + 1) ≤ 65537 * 1024 := Nat.mul_le_mul_left _ (by omega)
    omega
  · show ss.getD j 0 < _
    omega
theorem bld_inc (ds ss : List Nat) (n : Nat) : ∀ j (hj : j + 1 < (bldTo ds ss n).length), ((bldTo ds ss n)[j]'(by omega)).1 < (bldTo ds ss n)[j + 1].1 := by
  intro j hj
  have hl := bldTo_length ds ss n
  rw [bldTo_get ds ss n j (by omega), bldTo_get ds ss n (j + 1) (by omega)]
  exact snd_inc ds j

/-- Where a list of pairs is cut. -/
theorem encL_cut (L : List (Nat × Nat)) (r t : List Nat) (ht : t ≠ []) (h : r ++ t = encL L) : ∃ (k : Nat) (hk : k < L.length) (r' t' : List Nat), t' ≠ [] ∧ r = encL (L.take k) ++ r' ∧ r' ++ t' = encV L[k].1 ++ encV L[k].2 := by
  induction L generalizing r with
  | nil => simp [encL] at h; exact absurd h.2 ht
  | cons p L ih =>
    simp only [encL] at h
    rw [← List.append_assoc] at h
    rcases List.append_eq_append_iff.1 h with ⟨s, h1, h2⟩ | ⟨s, h1, h2⟩
    · by_cases hs : s = []
      · subst hs
        simp at h1 h2
        obtain ⟨k, hk, r', t', a, b, c⟩ := ih [] (by simpa using h2)
        refine ⟨k + 1, by simp; omega, r', t', a, ?_, by simpa using c⟩
        simp only [List.take_succ_cons, encL]
        rw [← h1, List.append_assoc, List.append_assoc, ← b]
        simp
      · exact ⟨0, by simp, r, s, hs, by simp [encL], by simpa using h1.symm⟩
    · obtain ⟨k, hk, r', t', a, b, c⟩ := ih s h2.symm
      refine ⟨k + 1, by simp; omega, r', t', a, ?_, by simpa using c⟩
      simp only [List.take_succ_cons, encL]
      rw [h1, b]; simp

theorem readNames_trunc {R g n cap : Nat} {bs : List Nat} {aU aE : Addr} {w : World} (h : Ctx w R g n cap bs aU aE 0) (L : List (Nat × Nat)) (t : List Nat) (hN : L.length ≤ 1024)
    (hb : ∀ p ∈ L, p.1 < 34359738368 ∧ p.2 < 34359738368) (hinc : ∀ j (hj : j + 1 < L.length), (L[j]'(by omega)).1 < L[j + 1].1) (ht : t ≠ []) (hd : bs ++ t = encAll L) :
    Calls Ybaf.prog 8 #[.iface 30 (.pointer (some ⟨R, 0, none⟩))] w fun e w' => e = .returned (.tuple #[.slice none 0 0, .iface 62 (.pointer (some aU))]) ∧ w.grownBy w' (some R) ∧ Ctx w' R g n cap bs aU aE n := by
  rcases split_cut hd with ⟨s, hs, h1⟩ | ⟨r, h1, h2⟩
  · exact readNames_cut0 h L.length s hN hs h1
  · obtain ⟨k, hk, r', t', ht', e1, e2⟩ := encL_cut L r t ht h2
    have hbk := hb L[k] (List.getElem_mem hk)
    refine readNames_cut h (L.take k) L.length r' t' L[k].1 L[k].2 hN (by simp; omega) hbk.1 hbk.2 ht' e2 (fun p hp => hb p (List.mem_of_mem_take hp)) ?_ (by rw [h1, e1])
    intro j hj
    have hj' : j + 1 < k := by simp at hj; omega
    simp only [List.getElem_take]
    exact hinc j (by omega)
end Go.Proofs.YbulkdaisFmt
