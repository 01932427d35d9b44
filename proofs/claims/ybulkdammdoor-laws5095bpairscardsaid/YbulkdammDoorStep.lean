import Derived.Test.YbulkdammDoorMem
namespace Go.Proofs.YbulkdammDoor
open Go.RowKit
set_option linter.unusedVariables false

theorem lookup_step (base M C nu nm nt : Nat) (f : Nat → Value) (w : World) (hS : Stx base M C nu nm nt w f) (hn : nt < 31) :
    Calls Ybad.prog 10 #[.pointer (some ⟨M, 7, none⟩), .int .u64 (key (nt + 1))] w fun e w' => e = .returned (.tuple #[.int .i32 0, .bool false]) ∧ ∃ k, w' = w.drewN k := by
  have k7 := hS.mb.cell 7 (by omega)
  have k8 := hS.mb.cell 8 (by omega)
  have k9 := hS.mb.cell 9 (by omega)
  have k10 := hS.mb.cell 10 (by omega)
  rcases hS.tab with ⟨h0, h7, h8, h9, h10⟩ | ⟨h1, T, c, hbT, h7, h8, h9, h10, ht, _⟩
  · rw [h10] at k10
    refine (lookup_empty M 7 (key (nt + 1)) w k10).mono ?_
    rintro e w' ⟨rfl, rfl⟩
    exact ⟨rfl, 0, rfl⟩
  · rw [h7] at k7
    rw [h8] at k8
    rw [h9] at k9
    rw [h10] at k10
    obtain ⟨p1, p2, p3, p4, p5⟩ := probe nt hn
    have kb := key_bounds (nt + 1) (by omega)
    exact lookup_none M 7 T c _ _ _ _ _ _ nt w kb.1 kb.2 k7 k8 k9 k10 (by omega) ht.tb p1 p2 p3 p5 p4

/-- One more union, and it is in the table. -/
theorem Stx.newUni {base M C nu nm nt : Nat} {w w2 : World} {f f2 : Nat → Value} (h : Stx base M C nu nm nt w f) {L : List Nat} (hc : Ch base L w w2) (hL : ∀ x ∈ L, base ≤ x ∧ (x = M ∨ (f 5).ownBlock = some x ∨ ∃ c, f 7 = .slice (some ⟨x, 0, none⟩) 64 c))
    (hmb : MB w2 M f2) (he : ∀ i, i = 0 ∨ i = 6 ∨ i = 11 ∨ i = 12 ∨ i = 13 ∨ i = 14 ∨ i = 18 → f2 i = f i) (U cap T c : Nat) (e5 : f2 5 = .slice (some ⟨U, 0, none⟩) (nu + 1) cap)
    (ho : w2.ownsRow base 38 6 (.slice (some ⟨U, 0, none⟩) (nu + 1) cap) (nu + 1) (unis (nu + 1))) (hU : (f 5).ownBlock = some U ∨ w.heap.size ≤ U)
    (hbT : base ≤ T) (e7 : f2 7 = .slice (some ⟨T, 0, none⟩) 64 c) (e8 : f2 8 = .int .u32 1) (e9 : f2 9 = .int .i64 58) (e10 : f2 10 = .int .i64 ((nt + 1 : Nat) : Int)) (ht : TBF w2 T (KT (nt + 1)) (BT (nt + 1)) (VT (nt + 1)))
    (hT : (∃ c, f 7 = .slice (some ⟨T, 0, none⟩) 64 c) ∨ w.heap.size ≤ T) (hUT : U ≠ T) : Stx base M C (nu + 1) nm (nt + 1) w2 f2 := by
  have hM := h.mb.lt
  have hM1 := h.hbM
  have hM2 := h.hb1
  obtain ⟨sn, sx, hse⟩ := h.se
  have n6 : ∀ x, (f 6).ownBlock = some x → x ∉ L := fun x hx hm => by
    rcases (hL x hm).2 with rfl | h5 | ⟨c, h7⟩
    · exact h.d6 hx
    · exact (h.d56 x h5).1 hx
    · exact (h.tab_lt x c h7).2.2.1 hx
  have n18 : ∀ x, (f 18).ownBlock = some x → x ∉ L := fun x hx hm => by
    rcases (hL x hm).2 with rfl | h5 | ⟨c, h7⟩
    · exact h.d18 hx
    · exact (h.d56 x h5).2 hx
    · exact (h.tab_lt x c h7).2.2.2 hx
  have UM : U ≠ M := by
    rintro rfl
    rcases hU with hU | hU
    · exact h.d5 hU
    · omega
  have U6 : (f 6).ownBlock ≠ some U := fun e => by
    rcases hU with hU | hU
    · exact (h.d56 U hU).1 e
    · have := (h.me.lt U e).2; omega
  have U18 : (f 18).ownBlock ≠ some U := fun e => by
    rcases hU with hU | hU
    · exact (h.d56 U hU).2 e
    · have := (hse.lt U e).2; omega
  have TM : M ≠ T := by
    rintro rfl
    rcases hT with ⟨c, hT⟩ | hT
    · exact h.noM c hT
    · omega
  have T6 : (f 6).ownBlock ≠ some T := fun e => by
    rcases hT with ⟨c, hT⟩ | hT
    · exact (h.tab_lt T c hT).2.2.1 e
    · have := (h.me.lt T e).2; omega
  have T18 : (f 18).ownBlock ≠ some T := fun e => by
    rcases hT with ⟨c, hT⟩ | hT
    · exact (h.tab_lt T c hT).2.2.2 e
    · have := (hse.lt T e).2; omega
  have ob : (Value.slice (some ⟨U, 0, none⟩) (nu + 1) cap).ownBlock = some U := rfl
  have a0 := he 0 (by omega)
  have a6 := he 6 (by omega)
  have a18 := he 18 (by omega)
  refine ⟨h.hbM, h.hb1, ?_, hmb, by rw [a0]; exact h.same, by rw [e5]; exact ho, by rw [a6]; exact owns_ch h.me hc n6, ⟨sn, sx, by rw [a18]; exact owns_ch hse hc n18⟩, .inr ⟨by omega, T, c, hbT, e7, e8, e9, e10, ht, TM, ?_, by rw [a6]; exact T6, by rw [a18]; exact T18⟩,
    by rw [he 11 (by omega), he 12 (by omega), he 13 (by omega), he 14 (by omega)]; exact h.pairs, ?_, by rw [a6]; exact h.d6, by rw [a18]; exact h.d18, ?_, by rw [a6, a18]; exact h.d68⟩
  · rw [hc.cell (p := ⟨1, 63, none⟩) (block_lt_of_cell h.glob) (fun hm => by have := (hL 1 hm).1; omega)]; exact h.glob
  · rw [e5, ob]; simpa using hUT
  · rw [e5, ob]; simpa using UM
  · rw [e5, ob, a6, a18]
    intro k hk
    have : U = k := Option.some.inj hk
    subst this
    exact ⟨U6, U18⟩

theorem made_step (base M C g : Nat) (f : Nat → Value) (w : World) (hS : Stx base M C g (g + 1) g w f) (hg : g < 31) :
    Calls Ybad.prog 12 #[.pointer (some ⟨M, 0, none⟩), .pointer (some ⟨M, 7, none⟩), .int .u64 (key (g + 1)), .agg #[.int .i32 0, .int .i32 0, .int .i32 (fs g), .int .i32 (fs (g + 1)), .int .i32 0, .int .i32 0]] w
      fun e w' => e = .returned (.int .i32 (-2 - g)) ∧ (∃ f', Stx base M C (g + 1) (g + 1) (g + 1) w' f') ∧ Below base w w' := by
  obtain ⟨uv, uc, hv⟩ : ∃ uv uc, f 5 = .slice uv g uc := by
    rcases hS.un.2 with ⟨h0, h1⟩ | ⟨b, cap, cur, h0, _⟩
    · exact ⟨none, 0, by rw [h0, h1]⟩
    · exact ⟨_, _, h0⟩
  have kb := key_bounds (g + 1) (by omega)
  obtain ⟨p1, p2, p3, p4, p5⟩ := probe g hg
  refine made_any base M 7 g f (unis g) (key (g + 1)) 0 0 (fs g) (fs (g + 1)) w hS.hbM hS.hbw hS.mb hS.un hS.d5 (by omega) uv uc hv _ ?_
  intro w1 U cap hown hmb hch hU hUlt
  have hM1 := hS.hbM
  have hM2 := hS.hb1
  have hb5 : ∀ x, (f 5).ownBlock = some x → base ≤ x := fun x hx => (hS.un.lt x hx).1
  have UM : U ≠ M := by
    rintro rfl
    rcases hU with hU | hU
    · exact hS.d5 hU
    · have := hS.mb.lt; omega
  rcases hS.tab with ⟨h0, h7, h8, h9, h10⟩ | ⟨h1, T, c, hbT, h7, h8, h9, h10, ht, hMT, t5, t6, t18⟩
  · subst h0
    have hglob : w1.cell? ⟨1, 63, none⟩ = some (.int .u8 6) := by
      rw [hch.cell (p := ⟨1, 63, none⟩) (block_lt_of_cell hS.glob) (fun hm => by
        rcases List.mem_cons.1 hm with hm | hm
        · have : (1 : Nat) = M := hm
          omega
        · have := hb5 1 (by simpa using hm); omega)]
      exact hS.glob
    refine (entry_first base M 7 _ (key 1) (-2 - (0 : Nat)) (st 1) w1 kb.1 kb.2 hglob hM1 hM2 hmb (by omega) (by simpa [upd] using h7) (by simpa [upd] using h8) (by simpa [upd] using h9) (by simpa [upd] using h10) p1 (Nat.lt_of_le_of_lt p2 p3)).mono ?_
    rintro e w2 ⟨he, T, hT, hc2, hmb2, htb⟩
    have hcc : Ch base (M :: (f 5).ownBlock.toList) w w2 := hch.trans (hc2.mono (by simp))
    have hsz := hch.size
    refine ⟨he, ⟨_, hS.newUni hcc ?_ hmb2 ?_ U cap T 64 (by simp [upd]) (owns_ch hown hc2 (owned_ne UM)) hU ?_ (by simp [upd]) (by simp [upd]) (by simp [upd]) (by simp [upd]) htb (.inr (by omega)) (by omega)⟩, hcc.below⟩
    · intro x hx
      rcases List.mem_cons.1 hx with rfl | hx
      · exact ⟨hM1, .inl rfl⟩
      · exact ⟨hb5 x (by simpa using hx), .inr (.inl (by simpa using hx))⟩
    · intro i hi
      simp only [upd]
      rcases hi with rfl | rfl | rfl | rfl | rfl | rfl | rfl <;> simp
    · have := hS.hbw; omega
  · have htM : T ∉ (M :: (f 5).ownBlock.toList) := fun hm => by
      rcases List.mem_cons.1 hm with hm | hm
      · exact hMT hm.symm
      · exact t5 (by simpa using hm)
    have UT : U ≠ T := by
      rintro rfl
      rcases hU with hU | hU
      · exact t5 hU
      · have := ht.lt; omega
    refine (entry_more base M 7 T c _ _ _ _ (key (g + 1)) (-2 - (g : Nat)) (st (g + 1)) (pos (g + 1)) g w1 kb.1 kb.2 hM1 hbT hMT hmb (by omega) (by simpa [upd] using h7) (by simpa [upd] using h8) (by simpa [upd] using h9) (by simpa [upd] using h10) (by omega) (ht.ch hch htM) p1 p2 p3 p5 p4).mono ?_
    rintro e w2 ⟨he, hc2, hmb2, htb⟩
    have hcc : Ch base (T :: M :: (f 5).ownBlock.toList) w w2 := (hch.mono (by intro x hx; exact List.mem_cons_of_mem _ hx)).trans (hc2.mono (by intro x hx; simp at hx; rcases hx with rfl | rfl <;> simp))
    refine ⟨he, ⟨_, hS.newUni hcc ?_ hmb2 ?_ U cap T c (by simp [upd]) (owns_ch hown hc2 ?_) hU hbT (by simpa [upd] using h7) (by simpa [upd] using h8) (by simpa [upd] using h9) (by simp [upd]) htb (.inl ⟨c, h7⟩) UT⟩, hcc.below⟩
    · intro x hx
      rcases List.mem_cons.1 hx with rfl | hx
      · exact ⟨hbT, .inr (.inr ⟨c, h7⟩)⟩
      rcases List.mem_cons.1 hx with rfl | hx
      · exact ⟨hM1, .inl rfl⟩
      · exact ⟨hb5 x (by simpa using hx), .inr (.inl (by simpa using hx))⟩
    · intro i hi
      simp only [upd]
      rcases hi with rfl | rfl | rfl | rfl | rfl | rfl | rfl <;> simp
    · intro k hk hm
      have : U = k := Option.some.inj hk
      subst this
      simp at hm
      rcases hm with hm | hm
      · exact UM hm
      · exact UT hm
end Go.Proofs.YbulkdammDoor
