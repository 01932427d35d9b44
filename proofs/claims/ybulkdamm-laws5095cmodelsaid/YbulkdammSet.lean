import Derived.Test.YbulkdammSort
import Derived.Test.YbulkdammKey2
import Derived.Test.YbulkdammEnter
import Derived.Deep.RegionLaw
namespace Go.Proofs.Ybulkdamm
open Go.RowKit
set_option linter.unusedVariables false

set_option maxHeartbeats 1600000 in
set_option maxRecDepth 100000 in
theorem first_range (T o : Nat) (a b : Int) (w : World) (ht : w.cell? ⟨T, o, none⟩ = some (.slice none 0 0)) (hl : w.cell? ⟨T, o + 2, none⟩ = some (.int .i32 a)) (hh : w.cell? ⟨T, o + 3, none⟩ = some (.int .i32 b)) :
    Calls Yba.prog 20 #[.pointer (some ⟨T, o, none⟩)] w fun e w' => e = .returned (.slice (some ⟨w.heap.size, 0, none⟩) 1 1) ∧ ∃ k, w' = (w.alloc (.cells #[.int .i32 a, .int .i32 b] 84)).drewN k := by
  have hnil := eq_nil_yes
  go_enter Yba.func20, Yba.ntmps20
  go_wp2_with fail
  go_region
  all_goals
    go_wp2
    go_ret
    exact ⟨by simp, 1, rfl⟩

/-! The plain half: the runs, sorted, then merged. -/
/-- The runs merged so far: m of them, out of the first i. -/
structure MG (lo hi : Nat → Int) (n i m : Nat) (lo' hi' : Nat → Int) : Prop where
  mi : m ≤ i
  pos : 0 < i → 0 < m
  rest : ∀ j, i ≤ j → j < n → lo' j = lo j ∧ hi' j = hi j
  sorted : ∀ a b, a < b → b < m → hi' a < lo' b
  le : ∀ a, a < m → lo' a ≤ hi' a
  next : ∀ a j, a < m → i ≤ j → j < n → lo' a ≤ lo j
  cov : ∀ c, covN lo' hi' c m = covN lo hi c i
theorem MG.start (lo hi : Nat → Int) (n : Nat) : MG lo hi n 0 0 lo hi :=
  ⟨Nat.le_refl _, fun h => h, fun _ _ _ => ⟨rfl, rfl⟩, fun _ _ _ h => by omega, fun _ h => by omega, fun _ _ h => by omega, fun _ => rfl⟩
theorem MG.join {lo hi lo' hi' : Nat → Int} {n i m : Nat} (h : MG lo hi n i m lo' hi') (hi1 : i < n) (hm : 0 < m) (ht : lo i - 1 ≤ hi' (m - 1)) : MG lo hi n (i + 1) m lo' (upN hi' (m - 1) (max (hi' (m - 1)) (hi i))) := by
  have hmi := h.mi
  refine ⟨by omega, fun _ => hm, fun j hj hn => ?_, fun a b hab hb => ?_, fun a ha => ?_, fun a j ha hj hn => h.next a j ha (by omega) hn, fun c => ?_⟩
  · obtain ⟨h1, h2⟩ := h.rest j (by omega) hn
    refine ⟨h1, ?_⟩
    unfold upN; rw [if_neg (by omega)]; exact h2
  · unfold upN; rw [if_neg (by omega)]; exact h.sorted a b hab hb
  · have := h.le a ha
    unfold upN; split
    · subst a; omega
    · exact this
  · have hc := h.cov c
    rw [Bool.eq_iff_iff] at hc ⊢
    rw [covN_iff, covN_iff] at hc ⊢
    constructor
    · rintro ⟨a, ha, h1, h2⟩
      unfold upN at h2
      by_cases e : a = m - 1
      · subst e
        rw [if_pos rfl] at h2
        by_cases h3 : c ≤ hi' (m - 1)
        · obtain ⟨j, hj, h4⟩ := hc.1 ⟨m - 1, ha, h1, h3⟩
          exact ⟨j, by omega, h4⟩
        · exact ⟨i, by omega, by omega, by omega⟩
      · rw [if_neg e] at h2
        obtain ⟨j, hj, h4⟩ := hc.1 ⟨a, ha, h1, h2⟩
        exact ⟨j, by omega, h4⟩
    · rintro ⟨j, hj, h1, h2⟩
      by_cases e : j = i
      · subst e
        have hn := h.next (m - 1) j (by omega) (by omega) hi1
        refine ⟨m - 1, by omega, by omega, ?_⟩
        unfold upN; rw [if_pos rfl]; omega
      · obtain ⟨a, ha, h3, h4⟩ := hc.2 ⟨j, by omega, h1, h2⟩
        refine ⟨a, ha, h3, ?_⟩
        unfold upN; split
        · subst a; omega
        · exact h4
theorem MG.push {lo hi lo' hi' : Nat → Int} {n i m : Nat} (h : MG lo hi n i m lo' hi') (hi1 : i < n) (ht : 0 < m → hi' (m - 1) < lo i - 1) (hle : lo i ≤ hi i) (hs : ∀ j, i < j → j < n → lo i ≤ lo j) : MG lo hi n (i + 1) (m + 1) (upN lo' m (lo i)) (upN hi' m (hi i)) := by
  have hmi := h.mi
  refine ⟨by omega, fun _ => by omega, fun j hj hn => ?_, fun a b hab hb => ?_, fun a ha => ?_, fun a j ha hj hn => ?_, fun c => ?_⟩
  · obtain ⟨h1, h2⟩ := h.rest j (by omega) hn
    unfold upN; rw [if_neg (by omega), if_neg (by omega)]; exact ⟨h1, h2⟩
  · unfold upN
    rw [if_neg (show a ≠ m by omega)]
    by_cases e : b = m
    · subst e
      rw [if_pos rfl]
      have := ht (by omega)
      by_cases e2 : a = b - 1
      · subst e2; omega
      · have h3 := h.sorted a (b - 1) (by omega) (by omega)
        have h4 := h.le (b - 1) (by omega)
        omega
    · rw [if_neg e]; exact h.sorted a b hab (by omega)
  · unfold upN; split
    · exact hle
    · exact h.le a (by omega)
  · unfold upN; split
    · exact hs j (by omega) hn
    · exact h.next a j (by omega) (by omega) hn
  · have hc := h.cov c
    rw [Bool.eq_iff_iff] at hc ⊢
    rw [covN_iff, covN_iff] at hc ⊢
    constructor
    · rintro ⟨a, ha, h1, h2⟩
      unfold upN at h1 h2
      by_cases e : a = m
      · subst e
        rw [if_pos rfl] at h1 h2
        exact ⟨i, by omega, h1, h2⟩
      · rw [if_neg e] at h1 h2
        obtain ⟨j, hj, h4⟩ := hc.1 ⟨a, by omega, h1, h2⟩
        exact ⟨j, by omega, h4⟩
    · rintro ⟨j, hj, h1, h2⟩
      by_cases e : j = i
      · subst e
        refine ⟨m, by omega, ?_, ?_⟩ <;> (unfold upN; rw [if_pos rfl]; assumption)
      · obtain ⟨a, ha, h3, h4⟩ := hc.2 ⟨j, by omega, h1, h2⟩
        refine ⟨a, by omega, ?_, ?_⟩ <;> (unfold upN; rw [if_neg (by omega)]; assumption)

/-- The runs as the row holds them. -/
def flatR (lo hi : Nat → Int) : Nat → List Value
  | 0 => []
  | k + 1 => flatR lo hi k ++ [.int .i32 (lo k), .int .i32 (hi k)]
theorem flatR_length (lo hi : Nat → Int) (k : Nat) : (flatR lo hi k).length = k * 2 := by
  induction k with
  | zero => rfl
  | succ k ih => simp [flatR, ih]; omega
theorem flatR_get (lo hi : Nat → Int) (k i : Nat) (h : i < k) : (flatR lo hi k)[i * 2]? = some (.int .i32 (lo i)) ∧ (flatR lo hi k)[i * 2 + 1]? = some (.int .i32 (hi i)) := by
  induction k with
  | zero => omega
  | succ k ih =>
    have hl := flatR_length lo hi k
    by_cases e : i = k
    · subst e
      refine ⟨?_, ?_⟩
      · rw [flatR, List.getElem?_append_right (by omega), hl]; simp
      · rw [flatR, List.getElem?_append_right (by omega), hl, show i * 2 + 1 - i * 2 = 1 by omega]; rfl
    · obtain ⟨h1, h2⟩ := ih (by omega)
      rw [flatR, List.getElem?_append_left (by omega), List.getElem?_append_left (by omega)]
      exact ⟨h1, h2⟩

/-- The sort's outcome, said of the two ends. -/
theorem sorted_ends (lo hi : Nat → Int) (n : Nat) (d d' : Array (Int × Int)) (hd : d.size = n) (hdl : ∀ i, i < n → d[i]! = (lo i, hi i)) (hp : Go.Sort.PermIn 0 n d d') (hs : Go.Sort.SortedIn (ltOf cmpLo) 0 n d') (hle : ∀ i, i < n → lo i ≤ hi i) :
    d'.size = n ∧ (∀ i j, i < j → j < n → d'[i]!.1 ≤ d'[j]!.1) ∧ (∀ i, i < n → d'[i]!.1 ≤ d'[i]!.2) ∧ (∀ i, i < n → ∃ j, j < n ∧ d'[i]! = (lo j, hi j)) ∧ ∀ c, covN (fun i => d'[i]!.1) (fun i => d'[i]!.2) c n = covN lo hi c n := by
  obtain ⟨h1, _, h3⟩ := hp
  have e1 : d'.extract 0 n = d' := by rw [← hd, ← h1]; simp
  have e2 : d.extract 0 n = d := by rw [← hd]; simp
  rw [e1, e2] at h3
  have hd' : d'.size = n := by omega
  have mem : ∀ x, x ∈ d'.toList ↔ x ∈ d.toList := fun x => h3.mem_iff
  have at' : ∀ i, i < n → d'[i]! ∈ d'.toList := fun i hi => by rw [getElem!_pos d' i (by omega)]; simp
  have atd : ∀ i, i < n → d[i]! ∈ d.toList := fun i hi => by rw [getElem!_pos d i (by omega)]; simp
  have ix : ∀ x, x ∈ d.toList → ∃ i, i < n ∧ d[i]! = x := fun x hx => by
    obtain ⟨i, hi, rfl⟩ := List.getElem_of_mem hx
    refine ⟨i, by simpa [hd] using hi, ?_⟩
    rw [getElem!_pos d i (by simpa using hi)]; simp
  have ix' : ∀ x, x ∈ d'.toList → ∃ i, i < n ∧ d'[i]! = x := fun x hx => by
    obtain ⟨i, hi, rfl⟩ := List.getElem_of_mem hx
    refine ⟨i, by simpa [hd'] using hi, ?_⟩
    rw [getElem!_pos d' i (by simpa using hi)]; simp
  refine ⟨hd', fun i j hij hj => ?_, fun i hi' => ?_, fun i hi' => ?_, fun c => ?_⟩
  · have := hs i j (by omega) hij hj
    rw [ltLo] at this
    simpa using this
  · obtain ⟨j, hj, e⟩ := ix _ ((mem _).1 (at' i hi'))
    rw [hdl j hj] at e
    rw [← e]
    exact hle j hj
  · obtain ⟨j, hj, e⟩ := ix _ ((mem _).1 (at' i hi'))
    exact ⟨j, hj, by rw [← e, hdl j hj]⟩
  · rw [Bool.eq_iff_iff, covN_iff, covN_iff]
    constructor
    · rintro ⟨i, hi', ha, hb⟩
      obtain ⟨j, hj, e⟩ := ix _ ((mem _).1 (at' i hi'))
      rw [hdl j hj] at e
      rw [← e] at ha hb
      exact ⟨j, hj, ha, hb⟩
    · rintro ⟨i, hi', ha, hb⟩
      obtain ⟨j, hj, e⟩ := ix' _ ((mem _).2 (atd i hi'))
      rw [hdl i hi'] at e
      refine ⟨j, hj, ?_, ?_⟩ <;> (simp only [e]; assumption)

def runsA (lo hi : Nat → Int) (n : Nat) : Array (Int × Int) := ((List.range n).map fun i => (lo i, hi i)).toArray
theorem runsA_size (lo hi : Nat → Int) (n : Nat) : (runsA lo hi n).size = n := by simp [runsA]
theorem runsA_get (lo hi : Nat → Int) (n i : Nat) (h : i < n) : (runsA lo hi n)[i]! = (lo i, hi i) := by
  rw [getElem!_pos _ i (by rw [runsA_size]; exact h)]; simp [runsA]
theorem holds_runs {w : World} {base Gb cap n : Nat} {lo hi : Nat → Int} (h : w.ownsRow base 84 2 (.slice (some ⟨Gb, 0, none⟩) n cap) n (flatR lo hi n)) : Go.Sort.HoldsK encR 2 w Gb 0 (runsA lo hi n) := by
  intro j hj
  rw [Go.Sort.size_flatK, runsA_size] at hj
  have hj2 : j / 2 < n := by omega
  refine ⟨?_, by rw [Nat.zero_add]; exact h.frozenAt j⟩
  rw [Nat.zero_add, h.cellAt j hj, Go.Sort.get_flatK _ _ _ _ (by rw [runsA_size]; exact hj), runsA_get _ _ _ _ hj2]
  obtain ⟨h1, h2⟩ := flatR_get lo hi n (j / 2) hj2
  rcases Nat.mod_two_eq_zero_or_one j with e | e
  · rw [e, show j = j / 2 * 2 by omega, h1, show j / 2 * 2 / 2 = j / 2 by omega]; rfl
  · rw [e, show j = j / 2 * 2 + 1 by omega, h2, show (j / 2 * 2 + 1) / 2 = j / 2 by omega]; rfl
theorem grown_sorted {w : World} {Gb n : Nat} {os : Array Obj} (d : Array (Int × Int)) : w.grownBy (Go.Proofs.sortWorldK encR 2 w Gb 0 n d os) (some Gb) := by
  unfold Go.Proofs.sortWorldK Go.Sort.putRowK
  refine ⟨rfl, rfl, rfl, by simp, fun k hk hne => ?_⟩
  rw [Go.Sort.heap_grow_old _ _ (by simpa using hk)]
  have : Gb ≠ k := fun e => hne (by rw [e])
  simp [Go.Sort.putRow, Go.Sort.mapBlock, Go.Sort.ahead, Array.getElem?_modify, this]
theorem runs_sorted {w : World} {Gb n nn : Nat} {os : Array Obj} {d d' : Array (Int × Int)} (hb : Gb < w.heap.size) (h : Go.Sort.HoldsK encR 2 w Gb 0 d) (hd : d.size = n) (hd' : d'.size = n) :
    RunsAt (Go.Proofs.sortWorldK encR 2 w Gb 0 nn d' os) Gb n (fun i => d'[i]!.1) (fun i => d'[i]!.2) ∧ ∀ j, j < n * 2 → (Go.Proofs.sortWorldK encR 2 w Gb 0 nn d' os).frozen? ⟨Gb, j, none⟩ = false := by
  have h1 : Go.Sort.HoldsK encR 2 (Go.Proofs.sortWorldK encR 2 w Gb 0 nn d' os) Gb 0 d' := by
    unfold Go.Proofs.sortWorldK
    refine Go.Sort.holdsK_grow _ _ _ _ _ _ _ ?_ (Go.Sort.holdsK_putRowK _ _ _ _ _ d d' (Go.Sort.holdsK_ahead _ _ _ _ _ _ _ h) (by omega))
    simpa [Go.Sort.putRowK, Go.Sort.putRow, Go.Sort.mapBlock, Go.Sort.ahead] using hb
  refine ⟨fun i hi => ?_, fun j hj => ?_⟩
  · have a := (h1.cell (i := i) (c := 0) (by omega) (by omega)).1
    have b := (h1.cell (i := i) (c := 1) (by omega) (by omega)).1
    rw [Nat.zero_add] at a b
    exact ⟨a, b⟩
  · have := (h1 j (by rw [Go.Sort.size_flatK]; omega)).2
    rw [Nat.zero_add] at this
    exact this
end Go.Proofs.Ybulkdamm
