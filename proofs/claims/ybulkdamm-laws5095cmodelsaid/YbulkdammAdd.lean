import Derived.Test.YbulkdammTextsL
import Derived.Test.YbulkdammPlain
import Derived.Maps.OwnSet
import Derived.Maps.OwnOps
namespace Go.Proofs.Ybulkdamm
open Go.RowKit
set_option linter.unusedVariables false

def kl (t : Nat) : Lit := .string (keyS (fun _ => t) 1).data.toList
theorem keyS_one_size (t : Nat) : (keyS (fun _ => t) 1).size ≤ 3 := by
  have := keyL_length (fun _ => t) 1
  simp [keyS, ByteArray.size]
  omega
theorem key_kl (t : Nat) : keyOf Yba.prog 9 (.string (keyS (fun _ => t) 1)) = some (kl t) :=
  WideMaps.keyOf_string_mk Yba.underlying9 (by have := keyS_one_size t; unfold maxLen; omega)
theorem kl_inj {a b : Nat} (ha : a < 16384) (hb : b < 16384) (h : kl a = kl b) : a = b := by
  unfold kl at h
  have h1 : (keyS (fun _ => a) 1).data.toList = (keyS (fun _ => b) 1).data.toList := by injection h
  refine key_inj ha hb ?_
  have h2 : (keyS (fun _ => a) 1).data = (keyS (fun _ => b) 1).data := by
    cases hx : (keyS (fun _ => a) 1).data; cases hy : (keyS (fun _ => b) 1).data
    rw [hx, hy] at h1
    simp at h1
    rw [h1]
  cases hx : keyS (fun _ => a) 1; cases hy : keyS (fun _ => b) 1
  rw [hx, hy] at h2
  simp at h2
  rw [h2]
theorem plain_false {v : Value} {ps : List MemPlace} (h : plainElem (H := Unit) Yba.prog 4 v = some (.lit (.bool false), ps)) : v = .bool false := by
  have hu := Yba.underlying4
  unfold plainElem at h
  generalize Yba.prog.underlying 4 = u at h hu
  subst hu
  cases v <;> simp at h
  simp [h]
theorem zero4 (W : World) : (zeroValue 4).run Yba.prog W = .ok (.bool false) W := by kernel_rfl
theorem map_no_cell {w : World} {k : TypeId} {R : Value → Option (DataW Unit × List MemPlace)} {b n : Nat} {D : DataW Unit} (h : w.ownsMap Yba.prog k R b n D) (o : Nat) : w.cell? ⟨b, o, none⟩ = none := by
  obtain ⟨es, clock, hb, _⟩ := h
  simp [World.cell?, hb]
theorem map_same {w w' : World} {k : TypeId} {R : Value → Option (DataW Unit × List MemPlace)} {b n : Nat} {D : DataW Unit} (h : w.ownsMap Yba.prog k R b n D) (he : w'.heap[b]? = w.heap[b]?) : w'.ownsMap Yba.prog k R b n D := by
  obtain ⟨es, clock, hb, r⟩ := h
  exact ⟨es, clock, by rw [he]; exact hb, r⟩
theorem map_not_row {w : World} {k e : TypeId} {R : Value → Option (DataW Unit × List MemPlace)} {b n base size m : Nat} {D : DataW Unit} {v : Value} {xs : List Value} (h : w.ownsMap Yba.prog k R b n D) (ho : w.ownsRow base e size v m xs) : v.ownBlock ≠ some b := by
  intro hk
  obtain ⟨es, clock, hb, _⟩ := h
  rcases ho.2 with ⟨h0, _⟩ | ⟨g, cap, cur, hv, _, hg, _⟩
  · rw [h0] at hk; simp [Value.ownBlock] at hk
  · rw [hv] at hk
    simp [Value.ownBlock] at hk
    subst hk
    rw [hb] at hg
    cases hg

/-- The pieces so far (n of them: the terminals from z on) and the map of their keys. -/
structure AS (wr : World) (base z n : Nat) (pv lv : Value) : Prop where
  ls : ∃ xs, LS wr base z n pv xs
  mp : (lv = .map none ∧ n = 0) ∨ ∃ LM D, lv = .map (some LM) ∧ base ≤ LM ∧ wr.ownsMap Yba.prog 9 (plainElem (H := Unit) Yba.prog 4) LM n D ∧ ∀ t, t < 16384 → (∀ i, i < n → t ≠ z + i) → D.atKey (kl t) (.lit (.bool false)) = .lit (.bool false)
theorem AS.start (wr : World) (base z : Nat) : AS wr base z 0 (.slice none 0 0) (.map none) := ⟨⟨[], World.ownsRow_nil _ _ _ _, fun _ => rfl, fun i hi => by omega⟩, .inl ⟨rfl, rfl⟩⟩
theorem AS.keep {wr w' : World} {base z n : Nat} {pv lv : Value} (h : AS wr base z n pv lv) (hb : Below wr.heap.size wr w') : AS w' base z n pv lv := by
  obtain ⟨xs, hls⟩ := h.ls
  refine ⟨⟨xs, hls.keep hb⟩, ?_⟩
  rcases h.mp with h0 | ⟨LM, D, h1, h2, h3, h4⟩
  · exact .inl h0
  · exact .inr ⟨LM, D, h1, h2, map_same h3 (hb.block LM h3.lt), h4⟩
theorem AS.ch {wr w' : World} {B base z n XS XL : Nat} {pv lv : Value} (h : AS wr base z n pv lv) (hc : Ch B [XS, XL] wr w') (h1 : XS < base) (h2 : XL < base) {x : Int} (hx : wr.cell? ⟨XS, 0, none⟩ = some (.int .u8 x)) {la : Option Addr} {ll lc : Nat} (hl : wr.cell? ⟨XL, 0, none⟩ = some (.slice la ll lc)) : AS w' base z n pv lv := by
  obtain ⟨xs, hls⟩ := h.ls
  have hrow := owns_ch hls.own hc (fun k hk => by have := (ownLt hls.own hk).1; simp; omega)
  refine ⟨⟨xs, hrow, hls.nil, fun i hi => ?_⟩, ?_⟩
  · obtain ⟨b, c, a1, a2⟩ := hls.at' i hi
    refine ⟨b, c, a1, hc.keep a2 ?_⟩
    intro hm
    simp at hm
    rcases hm with rfl | rfl
    · rw [a2] at hx; simp at hx
    · rw [a2] at hl; simp at hl
  · rcases h.mp with h0 | ⟨LM, D, a1, a2, a3, a4⟩
    · exact .inl h0
    · exact .inr ⟨LM, D, a1, a2, map_same a3 (hc.block LM a3.lt (by simp; omega)), a4⟩
/-- The map is made. -/
theorem AS.made {wr : World} {base z : Nat} {pv lv : Value} (h : AS wr base z 0 pv lv) (hb : base ≤ wr.heap.size) : AS (wr.alloc (.map #[] 0)) base z 0 pv (.map (some wr.heap.size)) := by
  have hq : Below wr.heap.size wr (wr.alloc (.map #[] 0)) := (Below.refl _ wr).alloc (Nat.le_refl _) _
  refine ⟨(h.keep hq).ls, .inr ⟨wr.heap.size, _, rfl, hb, World.ownsMap_made _ _ _ _, fun t _ _ => rfl⟩⟩
/-- The key is not there yet. -/
theorem AS.look {wr : World} {base z n LM : Nat} {pv : Value} (h : AS wr base z n pv (.map (some LM))) (t : Nat) (ht : t < 16384) (hn : ∀ i, i < n → t ≠ z + i) : (Instr.lookup 52 (.map (some LM)) (.string (keyS (fun _ => t) 1)) false).run Yba.prog wr = .ok (.bool false) wr := by
  rcases h.mp with ⟨h0, _⟩ | ⟨LM', D, h1, h2, h3, h4⟩
  · cases h0
  · cases h1
    obtain ⟨v, ps, hrun, hv⟩ := h3.lookup (Maps.string_keyed Yba.underlying9) Yba.underlying52 (zero4 wr) (plainElem_bool Yba.underlying4 false) (key_kl t)
    rw [h4 t ht hn] at hv
    rw [plain_false hv] at hrun
    exact hrun
/-- The key is put: the pieces stand. -/
theorem AS.put {wr : World} {base z n LM : Nat} {pv : Value} (h : AS wr base z n pv (.map (some LM))) (t : Nat) (hn : n < 10000) : ∃ w1, (Instr.mapUpdate 52 (.map (some LM)) (.string (keyS (fun _ => t) 1)) (.bool true)).run Yba.prog wr = .ok () w1 ∧ wr.grownBy w1 (some LM) ∧ base ≤ LM ∧
    (∃ xs, LS w1 base z n pv xs) ∧ ∃ D, w1.ownsMap Yba.prog 9 (plainElem (H := Unit) Yba.prog 4) LM (n + 1) D ∧ ∀ t', t' < 16384 → t < 16384 → (∀ i, i < n → t' ≠ z + i) → t' ≠ t → D.atKey (kl t') (.lit (.bool false)) = .lit (.bool false) := by
  obtain ⟨xs, hls⟩ := h.ls
  rcases h.mp with ⟨h0, _⟩ | ⟨LM', D, h1, h2, h3, h4⟩
  · cases h0
  · cases h1
    obtain ⟨w1, hrun, r1, r2⟩ := h3.update (Maps.string_keyed Yba.underlying9) Yba.underlying52 (by unfold maxLen; omega) (key_kl t) (plainElem_bool Yba.underlying4 true)
    refine ⟨w1, hrun, r2, h2, ⟨xs, hls.own.kept r2 (.inr (map_not_row h3 hls.own)), hls.nil, fun i hi => ?_⟩, _, r1, fun t' ht' ht hi hne => ?_⟩
    · obtain ⟨b, c, a1, a2⟩ := hls.at' i hi
      refine ⟨b, c, a1, r2.cell a2 ?_⟩
      intro e
      simp at e
      subst e
      rw [map_no_cell h3] at a2
      cases a2
    · rw [Maps.atKey_put_other (fun e => hne (kl_inj ht' ht e))]
      exact h4 t' ht' hi
/-- The piece is put. -/
theorem AS.push {w1 w5 : World} {base z n LM g2 cap M cM : Nat} {pv : Value} {xs : List Value} {D : DataW Unit} (hls : LS w1 base z n pv xs) (hmap : w1.ownsMap Yba.prog 9 (plainElem (H := Unit) Yba.prog 4) LM (n + 1) D) (hLM : base ≤ LM) (hD : ∀ t', t' < 16384 → z + n < 16384 → (∀ i, i < n → t' ≠ z + i) → t' ≠ z + n → D.atKey (kl t') (.lit (.bool false)) = .lit (.bool false)) (hz : z + n < 16384)
    (hM : w1.cell? ⟨M, 0, none⟩ = some (.int .i32 ((z + n : Nat) : Int))) (ho : w5.ownsRow base 27 1 (.slice (some ⟨g2, 0, none⟩) (n + 1) cap) (n + 1) (xs ++ [.slice (some ⟨M, 0, none⟩) 1 cM])) (hg : w1.grownBy w5 pv.ownBlock) : AS w5 base z (n + 1) (.slice (some ⟨g2, 0, none⟩) (n + 1) cap) (.map (some LM)) := by
  refine ⟨⟨_, hls.push hM ho hg⟩, .inr ⟨LM, D, rfl, hLM, hmap.kept hg (fun e => map_not_row hmap hls.own e.symm), fun t ht hi => ?_⟩⟩
  exact hD t ht hz (fun i hi' => hi i (by omega)) (hi n (by omega))

/-- What stands behind the walk over the productions: the marks, the map of answers, the lister. -/
structure KS (w0 wr : World) (B0 base : Nat) (g : G) (SP DM X XS XL : Nat) (f : Nat → Bool) (two' lim : Prop) : Prop where
  below : Below B0 w0 wr
  sz : base ≤ wr.heap.size
  sp : ∀ i, i < g.nS → wr.cell? ⟨SP, i, none⟩ = some (.bool (f i))
  spf : ∀ o, wr.frozen? ⟨SP, o, none⟩ = false
  lo : B0 ≤ base ∧ B0 ≤ SP ∧ B0 ≤ DM ∧ B0 ≤ XS ∧ B0 ≤ XL
  hi : SP < base ∧ DM < base ∧ X < base ∧ XS < base ∧ XL < base
  ne : SP ≠ XS ∧ SP ≠ XL ∧ DM ≠ XS ∧ DM ≠ XL
  dm : two' → wr.ownsMap Yba.prog 9 (fun _ => some (DataW.lit (.bool true), [])) DM 0 (.map [] : DataW Unit)
  tx : lim → TX wr g.p X XS XL 0 ∧ (∃ x, wr.cell? ⟨XS, 0, none⟩ = some (.int .u8 x)) ∧ ∃ la ll lc, wr.cell? ⟨XL, 0, none⟩ = some (.slice la ll lc)
theorem KS.keep {w0 wr w' : World} {B0 base : Nat} {g : G} {SP DM X XS XL : Nat} {f : Nat → Bool} {two' lim lim' : Prop} (h : KS w0 wr B0 base g SP DM X XS XL f two' lim) (hb : Below base wr w') (hl : lim' → lim) : KS w0 w' B0 base g SP DM X XS XL f two' lim' := by
  obtain ⟨a1, a2, a3, a4, a5⟩ := h.hi
  have k : ∀ {p : Addr} {u : Value}, wr.cell? p = some u → p.block < base → w'.cell? p = some u := fun hu hp => keepB hb hu hp
  refine ⟨h.below.trans (hb.mono h.lo.1), Nat.le_trans h.sz hb.size, fun i hi => k (h.sp i hi) a1, fun o => by rw [frozenB hb (p := ⟨SP, o, none⟩) a1]; exact h.spf o, h.lo, h.hi, h.ne, fun t => map_same (h.dm t) (hb.block DM a2), fun l => ?_⟩
  obtain ⟨t, ⟨x, hx⟩, la, ll, lc, hl⟩ := h.tx (hl l)
  obtain ⟨v, hv⟩ := t.l
  exact ⟨⟨k t.c0 a3, k t.c1 a3, k t.c2 a3, k t.s a4, ⟨v, k hv a5⟩, fun o => by rw [frozenB hb (p := ⟨XS, o, none⟩) a4]; exact t.fs o, fun o => by rw [frozenB hb (p := ⟨XL, o, none⟩) a5]; exact t.fl o, t.ne⟩, ⟨x, k hx a4⟩, la, ll, lc, k hl a5⟩
theorem KS.ch {w0 wr w' : World} {B B0 base : Nat} {g : G} {SP DM X XS XL : Nat} {f : Nat → Bool} {two' lim lim' : Prop} (h : KS w0 wr B0 base g SP DM X XS XL f two' lim) (hc : Ch B [XS, XL] wr w') (hl : ¬ lim') : KS w0 w' B0 base g SP DM X XS XL f two' lim' := by
  obtain ⟨a1, a2, a3, a4, a5⟩ := h.hi
  obtain ⟨n1, n2, n3, n4⟩ := h.ne
  have hsz := h.sz
  have hlo := h.lo
  have hb0 : Below B0 wr w' := ⟨hc.below.os, hc.below.tape, hc.below.output, hc.below.size, fun k hk => hc.block k (by omega) (by simp; omega)⟩
  refine ⟨h.below.trans hb0, Nat.le_trans h.sz hc.size, fun i hi => hc.keep (h.sp i hi) (by simp [n1, n2]), fun o => by rw [hc.frozen (p := ⟨SP, o, none⟩) (by show SP < _; omega) (by simp [n1, n2])]; exact h.spf o, h.lo, h.hi, h.ne, fun t => map_same (h.dm t) (hc.block DM (by omega) (by simp [n3, n4])), fun l => (hl l).elim⟩
end Go.Proofs.Ybulkdamm
