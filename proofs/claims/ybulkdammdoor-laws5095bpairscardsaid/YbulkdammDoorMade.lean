import Derived.Test.YbulkdammDoorGrow
import Derived.Deep.RegionLaw
namespace Go.Proofs.YbulkdammDoor
open Go.RowKit
set_option linter.unusedVariables false

theorem info38 : (Ybad.prog.info? 38).map (fun i => (i.zero, i.size, i.bytes)) = some (some (.agg #[.int .i32 0, .int .i32 0, .int .i32 0, .int .i32 0, .int .i32 0, .int .i32 0]), 6, 24) := by kernel_rfl
theorem info21 : (Ybad.prog.info? 21).map (fun i => (i.zero, i.size, i.bytes)) = some (some (.int .i32 0), 1, 4) := by kernel_rfl

theorem owned_ne {g n cap M : Nat} (h : g ≠ M) : ∀ k, (Value.slice (some ⟨g, 0, none⟩) n cap).ownBlock = some k → k ∉ [M] := by
  intro k hk
  have e : g = k := Option.some.inj hk
  subst e
  simpa using h

def uni (a b fi la : Int) : List Value := [.int .i32 a, .int .i32 b, .int .i32 fi, .int .i32 la, .int .i32 0, .int .i32 (-1)]

set_option maxHeartbeats 1600000 in
set_option maxRecDepth 100000 in
theorem made_any (base M o n : Nat) (f : Nat → Value) (xs : List Value) (h a b fi la : Int) (w : World) (hbM : base ≤ M) (hbw : base ≤ w.heap.size) (hMB : MB w M f)
    (hown : w.ownsRow base 38 6 (f 5) n xs) (hne : (f 5).ownBlock ≠ some M) (hn : n ≤ 40) (uv : Option Addr) (uc : Nat) (hv : f 5 = .slice uv n uc) (Q : World → Prop)
    (hE : ∀ w1 g cap, w1.ownsRow base 38 6 (.slice (some ⟨g, 0, none⟩) (n + 1) cap) (n + 1) (xs ++ uni a b fi la) → MB w1 M (upd f 5 (.slice (some ⟨g, 0, none⟩) (n + 1) cap)) → Ch base (M :: (f 5).ownBlock.toList) w w1 →
      ((f 5).ownBlock = some g ∨ w.heap.size ≤ g) → g < w1.heap.size → Calls Ybad.prog 17 #[.pointer (some ⟨M, o, none⟩), .int .u64 h, .int .i32 (-2 - n)] w1 fun e w' => (∃ r, e = .returned r) ∧ Q w') :
    Calls Ybad.prog 12 #[.pointer (some ⟨M, 0, none⟩), .pointer (some ⟨M, o, none⟩), .int .u64 h, .agg #[.int .i32 a, .int .i32 b, .int .i32 fi, .int .i32 la, .int .i32 0, .int .i32 0]] w fun e w' => e = .returned (.int .i32 (-2 - n)) ∧ Q w' := by
  obtain ⟨i0, hi, hz0, hz1, hz2⟩ := info_parts info38
  have hM := hMB.lt
  have k5 := hMB.cell 5 (by omega)
  have f5 := hMB.fr 5
  rw [hv] at k5
  rw [hv] at hown hne hE
  have hA : ∃ A : Obj, A = .cells #[.int .i32 a, .int .i32 b, .int .i32 fi, .int .i32 la, .int .i32 0, .int .i32 (-1)] 38 := ⟨_, rfl⟩
  have hown2 : (((w.alloc (.cells #[.int .i32 a, .int .i32 b, .int .i32 fi, .int .i32 la, .int .i32 0, .int .i32 (-1)] 38)).alloc (.cells #[.int .i32 a, .int .i32 b, .int .i32 fi, .int .i32 la, .int .i32 0, .int .i32 (-1)] 38)).drew).ownsRow base 38 6 (.slice uv n uc) n xs := ((hown.alloc _).alloc _).drew
  have hnews : ∀ j u, (uni a b fi la)[j]? = some u → (((w.alloc (.cells #[.int .i32 a, .int .i32 b, .int .i32 fi, .int .i32 la, .int .i32 0, .int .i32 (-1)] 38)).alloc (.cells #[.int .i32 a, .int .i32 b, .int .i32 fi, .int .i32 la, .int .i32 0, .int .i32 (-1)] 38)).drew).cell? ((⟨w.heap.size + 1, 0, none⟩ : Addr).add j) = some u := by
    refine World.news_of_block (t := 38) (fr := (0, 0)) (cs := #[.int .i32 a, .int .i32 b, .int .i32 fi, .int .i32 la, .int .i32 0, .int .i32 (-1)]) ?_
    have := Deep.blk_alloc_new (w.alloc (.cells #[.int .i32 a, .int .i32 b, .int .i32 fi, .int .i32 la, .int .i32 0, .int .i32 (-1)] 38)) (.cells #[.int .i32 a, .int .i32 b, .int .i32 fi, .int .i32 la, .int .i32 0, .int .i32 (-1)] 38)
    rw [World.size_alloc] at this
    exact this
  have hone : ∀ u ∈ uni a b fi la, u.oneCell' = true := by simp [uni, Value.oneCell']
  have hch : Ch base (M :: (Value.slice uv n uc).ownBlock.toList) w (((w.alloc (.cells #[.int .i32 a, .int .i32 b, .int .i32 fi, .int .i32 la, .int .i32 0, .int .i32 (-1)] 38)).alloc (.cells #[.int .i32 a, .int .i32 b, .int .i32 fi, .int .i32 la, .int .i32 0, .int .i32 (-1)] 38)).drew) :=
    (((Ch.refl base _ w).alloc hbw _).alloc (by simp; omega) _).drewN 1
  have hbase : base ≤ (((w.alloc (.cells #[.int .i32 a, .int .i32 b, .int .i32 fi, .int .i32 la, .int .i32 0, .int .i32 (-1)] 38)).alloc (.cells #[.int .i32 a, .int .i32 b, .int .i32 fi, .int .i32 la, .int .i32 0, .int .i32 (-1)] 38)).drew).heap.size := by simp; omega
  have hMB2 : MB (((w.alloc (.cells #[.int .i32 a, .int .i32 b, .int .i32 fi, .int .i32 la, .int .i32 0, .int .i32 (-1)] 38)).alloc (.cells #[.int .i32 a, .int .i32 b, .int .i32 fi, .int .i32 la, .int .i32 0, .int .i32 (-1)] 38)).drew) M f := ((hMB.alloc _).alloc _).drewN 1
  have hold : ∀ k, (Value.slice uv n uc).ownBlock = some k → base ≤ k ∧ k ∈ (M :: (Value.slice uv n uc).ownBlock.toList) := fun k hk => ⟨(hown.lt k hk).1, by rw [hk]; simp⟩
  have hlow : ∀ k, (Value.slice uv n uc).ownBlock = some k → k < w.heap.size := fun k hk => (hown.lt k hk).2
  have HE := hid hE
  have HM := hid hMB2
  have HO := hid hown2
  have HN := hid hnews
  have HC := hid hch
  have HD := hid (And.intro hbase hold)
  have HL := hid hlow
  have HI := hid (And.intro hi (And.intro hz0 (And.intro hz1 hz2)))
  have H1 := hid hone
  have HNE := hid hne
  clear hE hMB hown hv hi hz0 hz1 hz2 hMB2 hown2 hnews hch hbase hone hA hold hlow hne
  go_enter Ybad.func12, Ybad.ntmps12
  go_wp2_with fail
  go_region_law (refine step_append_lies _ rfl (.tmp 22) (.tmp 24) 28 rfl base 38 i0 _ 6 24 Ybad.underlying28 HI.out.1 HI.out.2.1 HI.out.2.2.1 HI.out.2.2.2 rfl (by decide) (.slice uv n uc) n xs (by simp [Act.eval]) HO.out ⟨w.heap.size + 1, 0, none⟩ 1 1 (uni a b fi la) (by simp [Act.eval]) rfl HN.out H1.out (by decide) (by unfold maxLen; omega) (by omega) HD.out.1 _ rfl ?_; intro g cap w1 ho hg hat hlt; have hm1 : MB w1 M f := HM.out.ch ((Ch.refl base (Value.slice uv n uc).ownBlock.toList _).grown hg HD.out.1 (fun k hk => ⟨(HD.out.2 k hk).1, by rw [hk]; simp⟩)) (fun hh => HNE.out (by simpa using hh)); have q5 := hm1.cell 5 (by omega); have g5 := hm1.fr 5; have HM1 := hid hm1; have HO1 := hid ho; have HG1 := hid hg; have HA1 := hid hat; clear hm1 ho hg hat)
  all_goals
    go_wp2_with fail
    have hgM : g ≠ M := by
      rcases HA1.out with hh | hh
      · intro e; subst e; exact HNE.out hh
      · rw [hh]; simp; omega
    refine (HE.out _ g cap (owns_ch HO1.out ((Ch.refl 0 [M] _).setCell M 5 _ (Nat.zero_le _) (by simp)) (owned_ne hgM)) (HM1.out.set 5 _ (by omega)) ((HC.out.grown HG1.out HD.out.1 HD.out.2).setCell M 5 _ hbM (by simp)) ?_ (by simpa using hlt)).mono ?_
    · rcases HA1.out with hh | hh
      · exact .inl hh
      · right; rw [hh]; simp; omega
    rintro e w2 ⟨⟨r, rfl⟩, hq⟩
    go_wp2
    go_ret
    exact ⟨rfl, hq⟩
end Go.Proofs.YbulkdammDoor
