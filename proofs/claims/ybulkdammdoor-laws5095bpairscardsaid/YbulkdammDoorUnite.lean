import Derived.Test.YbulkdammDoorStep
import Derived.Test.YbulkdammDoorLen
import Derived.Deep.CutRange
import Derived.Deep.RegionWith
namespace Go.Proofs.YbulkdammDoor
open Go.RowKit
set_option linter.unusedVariables false

theorem own_zero {w : World} {base : Nat} {e : TypeId} {v : Value} {n : Nat} {xs : List Value} (h : w.ownsRow base e 1 v n xs) :
    ∃ sa sc, v = .slice sa n sc ∧ w.ownsRow base e 1 (.slice sa 0 sc) 0 [] ∧ (Value.slice sa 0 sc).ownBlock = v.ownBlock ∧ (sa = none ∨ ∃ S, sa = some ⟨S, 0, none⟩) := by
  rcases h.2 with ⟨h0, h1⟩ | ⟨g, cap, cur, h0, h1, h2, h3, h4, h5, h6⟩
  · exact ⟨none, 0, by rw [h0, h1], World.ownsRow_nil _ _ _ _, by rw [h0], .inl rfl⟩
  · exact ⟨_, cap, h0, ⟨by simp, .inr ⟨g, cap, cur, rfl, h1, h2, by omega, h4, h5, by simp⟩⟩, by rw [h0]; rfl, .inr ⟨g, rfl⟩⟩
theorem row_succ (n : Nat) : row n ++ [.int .i32 n] = row (n + 1) := by simp [row, List.range_succ]
theorem row_one (n : Nat) : ∀ u ∈ row n, u.oneCell' = true := by
  intro u hu
  simp [row] at hu
  obtain ⟨j, _, rfl⟩ := hu
  rfl
theorem row_news {w : World} {B off n : Nat} (h : SR w B off n) : ∀ j u, (row n)[j]? = some u → w.cell? ((⟨B, off, none⟩ : Addr).add j) = some u := by
  intro j u hu
  have hj : j < n := by
    have := (List.getElem?_eq_some_iff.1 hu).1
    rwa [row_length] at this
  rw [row_at n j hj] at hu
  cases hu
  have := h j hj
  unfold Addr.add
  split
  · simp_all
  · simp_all
theorem sr_own {w : World} {base S n cap : Nat} (h : w.ownsRow base 21 1 (.slice (some ⟨S, 0, none⟩) n cap) n (row n)) : SR w S 0 n := fun j hj => by
  rw [Nat.zero_add, h.cellAt j (by omega)]
  exact row_at n j hj

theorem Ch.drop {base S : Nat} {L : List Nat} {a b : World} (h : Ch base (S :: L) a b) (hS : S ∈ L ∨ a.heap.size ≤ S) : Ch base L a b :=
  ⟨h.below, fun k hk hn => h.block k hk fun hm => by
    rcases List.mem_cons.1 hm with rfl | hm
    · rcases hS with hS | hS
      · exact hn hS
      · omega
    · exact hn hm⟩
theorem wrap_i32 (q : Nat) (h : q ≤ 600) : IntKind.i32.wrap (q : Int) = (q : Int) := by
  have e : ((q : Int) % 4294967296) = q := by omega
  simp [IntKind.wrap, IntKind.bits, IntKind.signed, e]
  omega
theorem slice_none (sa : Option Addr) (sn sc : Nat) (hsa : sa = none ∨ ∃ S, sa = some ⟨S, 0, none⟩) (W : World) : Sem.run Ybad.prog (Instr.sliceAt 23 (.slice sa sn sc) none (some (.int .i64 0)) none) W = .ok (.slice sa 0 sc) W := by
  have ht : Ybad.prog.underlying 23 = some (.slice (Ybad.prog.elem 23)) := by kernel_rfl
  have hsz : (sizeOf (Ybad.prog.elem 23)).run Ybad.prog W = .ok 1 W := by kernel_rfl
  rw [run_sliceAt_slice _ _ _ _ _ _ ht, run_slice_h _ _ _ _ _ ht .i64 0 (by omega) (by omega), hsz]
  rcases hsa with rfl | ⟨S, rfl⟩
  · simp [sliced, Result.andThen]
  · simp [sliced, Result.andThen, Addr.add]

set_option maxHeartbeats 3200000 in
set_option maxRecDepth 100000 in
theorem unite_step (base M C g : Nat) (f : Nat → Value) (w : World) (hS : St base M C g w f) (hg : 1 ≤ g) (hg2 : g ≤ 31) (hC : 31 ≤ C) :
    Calls Ybad.prog 4 #[.pointer (some ⟨M, 0, none⟩), .int .i32 (ug g), .int .i32 g] w fun e w' => e = .returned (.tuple #[.int .i32 (-2 - ((g - 1 : Nat) : Int)), .bool true]) ∧ (∃ f', St base M C (g + 1) w' f') ∧ Below base w w' := by
  have hne : (ug g == (g : Int)) = false := by
    simp only [ug]; split <;> simp <;> omega
  have hnil := neq_nil_yes
  have HS := hid hS
  clear hS
  go_enter Ybad.func4, Ybad.ntmps4
  go_wp2_with fail
  refine (within_step base M C g g f w HS.out hg (by omega) (by omega) (by omega)).mono ?_
  rintro e w1 ⟨rfl, ⟨f1, s1⟩, c1⟩
  have S1 := hid s1
  have C1 := hid c1.below
  clear s1 c1
  go_wp2_with fail
  refine (within_plain M (ug g) g w1 (by omega)).mono ?_
  rintro e w2 ⟨rfl, h21⟩
  cases h21
  go_wp2_with fail
  refine (mem_step base M C g 0 f1 w1 S1.out hg (by omega) (by omega)).mono ?_
  rintro e w3 ⟨c3, f3, B, off, cap, s3, sr3, rfl, hB⟩
  have S3 := hid s3
  have R3 := hid sr3
  have C3 := hid (C1.out.trans c3.below)
  clear s3 sr3 c3
  go_wp2_with fail
  refine (mem_plain M 1 g f3 w3 S3.out.mb (by omega) (by omega)).mono ?_
  rintro e w4 ⟨rfl, h4⟩
  have hle : (g : Int) + 1 ≤ 32 := by omega
  have s4 : St base M C g w4 (upd f3 17 (.int .i32 g)) := by rw [h4]; exact S3.out.setM 17 _ (by omega)
  have r4 : SR w4 B off g := by
    rw [h4]
    intro j hj
    have hc := R3.out j hj
    rw [World.cell?_setCell_other _ _ _ _ (by
      intro e
      have e1 : M = B := congrArg Addr.block e
      have e2 : 17 = off + j := congrArg Addr.off e
      rcases hB with ⟨h0, _, h2⟩ | h2
      · omega
      · exact S3.out.d6 (by rw [e1]; exact h2))]
    exact hc
  have c4 : Below base w w4 := by rw [h4]; exact C3.out.setCell (p := ⟨M, 17, none⟩) S3.out.hbM _
  obtain ⟨f4, hf4⟩ : ∃ f4, f4 = upd f3 17 (.int .i32 (g : Int)) := ⟨_, rfl⟩
  have k17 : f4 17 = .int .i32 g := by rw [hf4]; simp [upd]
  rw [← hf4] at s4
  obtain ⟨sn, sx, se⟩ := s4.se
  obtain ⟨sa, sc, e18, own0, hob, hsa⟩ := own_zero se
  have q18 := s4.mb.cell 18 (by omega)
  rw [e18] at q18
  have q17 := s4.mb.cell 17 (by omega)
  rw [k17] at q17
  obtain ⟨i0, hi, hz0, hz1, hz2⟩ := info_parts info21
  have hsl : ∀ W : World, Sem.run Ybad.prog (Instr.sliceAt 23 (.slice sa sn sc) none (some (.int .i64 0)) none) W = .ok (.slice sa 0 sc) W := slice_none sa sn sc hsa
  have S4 := hid s4
  have C4 := hid c4
  have R4 := hid r4
  have O0 := hid own0
  have OB := hid hob
  have E18 := hid e18
  have HI := hid (And.intro hi (And.intro hz0 (And.intro hz1 hz2)))
  clear s4 c4 r4 own0 hob hf4 h4 se sx e18 hi hz0 hz1 hz2 hsa k17
  go_wp2_with (first | (at_builtin; refine wpList_append_lies _ rfl (.tmp 61) (.tmp 62) 23 rfl base 21 i0 (.int .i32 0) 1 4 Ybad.underlying23 HI.out.1 HI.out.2.1 HI.out.2.2.1 HI.out.2.2.2 rfl (by decide) (.slice sa 0 sc) 0 [] ?c0 O0.out ⟨B, off, none⟩ g cap (row g) rfl ?c1 ?c2 ?c3 ?c4 ?c5 ?c6 ?c7 _ rfl ?_))
  case c0 => rfl
  case c1 => simp [row_length]
  case c2 => exact row_news R4.out
  case c3 => exact row_one g
  case c4 => omega
  case c5 => unfold maxLen; omega
  case c6 => omega
  case c7 => exact S4.out.hbw
  intro S5 cap5 w5 own5 gr5 at5 lt5
  have hch5 : Ch base (f4 18).ownBlock.toList w4 w5 := by
    rw [OB.out] at gr5
    refine (Ch.refl base _ w4).grown gr5 S4.out.hbw fun k hk => ?_
    obtain ⟨n, xs, hs⟩ := S4.out.se
    exact ⟨(hs.lt k hk).1, by rw [hk]; simp⟩
  have at5' : (f4 18).ownBlock = some S5 ∨ w4.heap.size ≤ S5 := by
    rw [OB.out] at at5
    rcases at5 with h | h
    · exact .inl h
    · right; rw [h]; exact Nat.le_refl _
  have nM : M ∉ (f4 18).ownBlock.toList := fun hm => S4.out.d18 (by simpa using hm)
  have mb5 := S4.out.mb.ch hch5 nM
  have q17' : w5.cell? ⟨M, 17, none⟩ = some (.int .i32 g) := by
    rw [hch5.cell (p := ⟨M, 17, none⟩) S4.out.mb.lt nM]; exact q17
  have SM5 : S5 ≠ M := by
    rintro rfl
    rcases at5' with h | h
    · exact S4.out.d18 h
    · have := S4.out.mb.lt; omega
  have q18' := mb5.cell 18 (by omega)
  have z18' := mb5.fr 18
  have O5 := hid own5
  have M5 := hid mb5
  have H5 := hid hch5
  have A5 := hid at5'
  have hbw5 : base ≤ w5.heap.size := Nat.le_trans S4.out.hbw hch5.size
  clear own5 gr5 at5 at5' mb5 hch5 q17 q18
  go_wp2_with (first | (at_builtin; refine wpList_append_lies _ rfl (.tmp 63) (.tmp 64) 23 rfl base 21 i0 (.int .i32 0) 1 4 Ybad.underlying23 HI.out.1 HI.out.2.1 HI.out.2.2.1 HI.out.2.2.2 rfl (by decide) (.slice (some ⟨S5, 0, none⟩) g cap5) g (row g) ?c0 O5.out ⟨M, 17, none⟩ 1 1 [.int .i32 g] rfl ?c1 ?c2 ?c3 ?c4 ?c5 ?c6 ?c7 _ rfl ?_))
  case c0 => rfl
  case c1 => rfl
  case c2 =>
    intro j u hu
    cases j with
    | zero =>
      have hu' : (.int .i32 (g : Int) : Value) = u := by simpa using hu
      subst hu'
      simpa [Addr.add] using q17'
    | succ j => simp at hu
  case c3 =>
    intro u hu
    simp at hu
    subst hu
    rfl
  case c4 => omega
  case c5 => unfold maxLen; omega
  case c6 => omega
  case c7 => exact hbw5
  intro S6 cap6 w6 own6 gr6 at6 lt6
  rw [row_succ] at own6
  have hch6 : Ch base (S5 :: (f4 18).ownBlock.toList) w4 w6 := by
    refine (H5.out.mono (by intro x hx; simp [hx])).grown gr6 hbw5 fun k hk => ?_
    have e : S5 = k := Option.some.inj hk
    subst e
    exact ⟨(O5.out.lt S5 rfl).1, by simp⟩
  have ch6 : Ch base (f4 18).ownBlock.toList w4 w6 := hch6.drop (by
    rcases A5.out with h | h
    · exact .inl (by rw [h]; simp)
    · exact .inr h)
  have at6' : (f4 18).ownBlock = some S6 ∨ w4.heap.size ≤ S6 := by
    rcases at6 with h | h
    · have e : S5 = S6 := Option.some.inj h
      subst e; exact A5.out
    · right; rw [h]; exact H5.out.size
  have s7 := S4.out.newSet ch6 S6 cap6 (g + 1) _ own6 at6'
  have mb6 := S4.out.mb.ch ch6 nM
  have q18b := mb6.cell 18 (by omega)
  have z18b := mb6.fr 18
  have SM6 : S6 ≠ M := by
    rintro rfl
    rcases at6' with h | h
    · exact S4.out.d18 h
    · have := S4.out.mb.lt; omega
  have own7 : (w6.setCell ⟨M, 18, none⟩ (.slice (some ⟨S6, 0, none⟩) (g + 1) cap6)).ownsRow base 21 1 (.slice (some ⟨S6, 0, none⟩) (g + 1) cap6) (g + 1) (row (g + 1)) :=
    owns_ch own6 ((Ch.refl 0 [M] _).setCell M 18 _ (Nat.zero_le _) (by simp)) (owned_ne SM6)
  have c7 : Below base w (w6.setCell ⟨M, 18, none⟩ (.slice (some ⟨S6, 0, none⟩) (g + 1) cap6)) := (C4.out.trans ch6.below).setCell (p := ⟨M, 18, none⟩) S4.out.hbM _
  have S7 := hid s7
  have O7 := hid own7
  have C7 := hid c7
  clear hch6 ch6 at6 at6' gr6 own6 s7 mb6 own7 c7 q18' q17' z18'
  go_wp2_with fail
  refine (sort_sorted S6 0 (g + 1) cap6 _ (by omega) (by omega) (sr_own O7.out)).mono ?_
  rintro e w8 ⟨rfl, hb8⟩
  have ch8 := Ch.of_below (base := base) hb8 S7.out.hbw
  have s8 := S7.out.ch ch8
  have own8 := owns_ch O7.out ch8 (by simp)
  have c8 := C7.out.trans ch8.below
  obtain ⟨f7, hf7⟩ : ∃ f7, f7 = upd f4 18 (.slice (some ⟨S6, 0, none⟩) (g + 1) cap6) := ⟨_, rfl⟩
  have f718 : f7 18 = .slice (some ⟨S6, 0, none⟩) (g + 1) cap6 := by rw [hf7]; simp [upd]
  rw [← hf7] at s8
  have q18c := s8.mb.cell 18 (by omega)
  have z18c := s8.mb.fr 18
  rw [f718] at q18c
  have S8 := hid s8
  have O8 := hid own8
  have C8 := hid c8
  have F7 := hid f718
  clear s8 own8 c8 ch8 hb8 hf7 f718
  go_wp2_with fail
  refine (compact_sorted S6 0 (g + 1) cap6 w8 (by omega) (sr_own O8.out)).mono ?_
  rintro e w9 ⟨rfl, k9, rfl⟩
  go_wp2_with fail
  have s10 : St base M C g ((w8.drewN k9).setCell ⟨M, 18, none⟩ (.slice (some ⟨S6, 0, none⟩) (g + 1) cap6)) (upd f7 18 (.slice (some ⟨S6, 0, none⟩) (g + 1) cap6)) :=
    S8.out.newSet ((Ch.refl base _ w8).drewN k9) S6 cap6 (g + 1) _ (owns_ch O8.out ((Ch.refl base [] w8).drewN k9) (by simp)) (.inl (by rw [F7.out]; rfl))
  have own10 : ((w8.drewN k9).setCell ⟨M, 18, none⟩ (.slice (some ⟨S6, 0, none⟩) (g + 1) cap6)).ownsRow base 21 1 (.slice (some ⟨S6, 0, none⟩) (g + 1) cap6) (g + 1) (row (g + 1)) :=
    owns_ch O8.out (((Ch.refl 0 [M] w8).drewN k9).setCell M 18 _ (Nat.zero_le _) (by simp)) (owned_ne SM6)
  have c10 : Below base w ((w8.drewN k9).setCell ⟨M, 18, none⟩ (.slice (some ⟨S6, 0, none⟩) (g + 1) cap6)) := (below_drewN C8.out k9).setCell (p := ⟨M, 18, none⟩) S8.out.hbM _
  have e18 : upd f7 18 (.slice (some ⟨S6, 0, none⟩) (g + 1) cap6) 18 = .slice (some ⟨S6, 0, none⟩) (g + 1) cap6 := by simp [upd]
  generalize hf10 : upd f7 18 (.slice (some ⟨S6, 0, none⟩) (g + 1) cap6) = f10 at s10 e18
  generalize hw10 : ((w8.drewN k9).setCell ⟨M, 18, none⟩ (.slice (some ⟨S6, 0, none⟩) (g + 1) cap6)) = w10 at s10 own10 c10 ⊢
  have S10 := hid s10
  have O10 := hid own10
  have R10 := hid (sr_own own10)
  have C10 := hid c10
  have E10 := hid e18
  clear s10 own10 c10 hf10 hw10 S8 O8 C8 F7 q18c z18c S7 O7 C7 e18 q18b z18b S1 S3 S4 R3 R4 C3 C4 C1 hB M5 H5 A5 O5 O0 OB E18
  go_loopw [10, 92] (fun h i wr => ∃ j : Nat, j ≤ g + 1 ∧ h = .int .u64 (hv (g + 1) j) ∧ i = .int .i64 j ∧ wr = w10) (fun _ i _ => g + 1 - (intOf i).toNat)
  case atStart => exact ⟨0, by omega, by simp [hv], rfl, rfl⟩
  case round =>
    obtain ⟨j, hj, rfl, rfl, rfl⟩ := hrel
    by_cases hlt : j < g + 1
    · have cj := R10.out j hlt
      rw [Nat.zero_add] at cj
      have b0 : (0 : Int) ≤ (j : Int) := by omega
      have b1 : (j : Int) < (g : Int) + 1 := by omega
      have hb := hv_bounds (g + 1) j (by omega)
      go_wp2_with fail
      refine (mix_any _ _ (bits_u64 _ _ _).1 (bits_u64 _ _ _).2).mono ?_
      rintro e w11 ⟨rfl, h11⟩
      cases h11
      go_wp2
      exact ⟨⟨j + 1, by omega, rfl, by go_num, by simp⟩, by simp [intOf]; omega⟩
    · have hjg : j = g + 1 := by omega
      subst hjg
      have hkey : hv (g + 1) (g + 1) = key g := rfl
      rw [hkey]
      go_wp2_with fail
      have hl := lookup_step base M C _ _ (g - 1) f10 wr S10.out (by omega)
      rw [Nat.sub_add_cancel hg] at hl
      refine hl.mono ?_
      rintro e w11 ⟨rfl, k11, rfl⟩
      clear hl
      obtain ⟨n, hn⟩ : ∃ n, n = g - 1 := ⟨_, rfl⟩
      have s10 := S10.out
      simp only [St, ← hn] at s10
      obtain ⟨uv, uc, hv5⟩ : ∃ uv uc, f10 5 = .slice uv n uc := by
        rcases s10.un.2 with ⟨h0, h1⟩ | ⟨b, cap, cur, h0, _⟩
        · exact ⟨none, 0, by rw [h0, h1]⟩
        · exact ⟨_, _, h0⟩
      obtain ⟨mv, mc, hv6⟩ : ∃ mv mc, f10 6 = .slice mv (fs n) mc := by
        rcases s10.me.2 with ⟨h0, h1⟩ | ⟨b, cap, cur, h0, _⟩
        · exact ⟨none, 0, by rw [h0, h1]⟩
        · exact ⟨_, _, h0⟩
      obtain ⟨ca, cc, hv0⟩ := s10.same
      have q0 := s10.mb.cell 0 (by omega)
      have q5 := s10.mb.cell 5 (by omega)
      have q6 := s10.mb.cell 6 (by omega)
      have q18 := s10.mb.cell 18 (by omega)
      rw [hv0] at q0
      rw [hv5] at q5
      rw [hv6] at q6
      rw [E10.out] at q18
      have hcn : decide ((C : Int) ≤ (n : Int)) = false := by simp; omega
      have hcn2 : decide (C ≤ n) = false := by simp; omega
      have hcn3 : ¬ C ≤ n := by omega
      have hfn : fs n ≤ 600 := fs_le ⟨n, by omega⟩
      have HN := hid hn
      have V6 := hid hv6
      have hs10 := hid s10
      clear s10 hn hv5 hv6 hv0 S10
      go_wp2_with fail
      go_quiet (fail)
      go_wp2_with fail
      go_quiet (fail)
      go_wp2_with fail
      generalize hW : wr.drewN _ = W
      have sW : Stx base M C n n n W f10 := by rw [← hW]; exact hs10.out.ch ((Ch.refl base [] wr).drewN _)
      have rW : SR W S6 0 (g + 1) := by rw [← hW]; exact R10.out
      have cW : Below base w W := by rw [← hW]; exact below_drewN C10.out _
      have hgn : n + 1 = g := by have := HN.out; omega
      have hfs : fs n + (g + 1) = fs (n + 1) := by rw [fs, ← hgn]
      have hms : mems n ++ row (g + 1) = mems (n + 1) := by rw [mems, ← hgn]
      have me6 := sW.me
      rw [V6.out] at me6
      have me6' : W.drew.ownsRow base 21 1 (.slice mv (fs n) mc) (fs n) (mems n) := me6.drew
      have nM6 : M ∉ (Value.slice mv (fs n) mc).ownBlock.toList := fun hm => sW.d6 (by rw [V6.out]; simpa using hm)
      have w0 := sW.mb.cell 0 (by omega)
      have w6 := sW.mb.cell 6 (by omega)
      have w18 := sW.mb.cell 18 (by omega)
      rw [V6.out] at w6
      rw [E10.out] at w18
      have HW := hid hW
      have SW := hid sW
      have RW := hid rW
      have CW := hid cW
      have HG := hid hgn
      have HF := hid hfs
      have HMS := hid hms
      have ME := hid me6'
      have NM := hid nM6
      clear hW sW rW cW hgn hfs hms me6 me6' nM6 q0 q5 q6 q18
      go_cut [] from 144 to 155 (fun wx => ∃ f11 S c, Stx base M C n (n + 1) n wx f11 ∧ Below base w wx ∧ f11 6 = .slice (some ⟨S, 0, none⟩) (fs (n + 1)) c)
      case first =>
        go_region_law (refine step_append_lies _ rfl (.tmp 148) (.tmp 152) 23 rfl base 21 i0 (.int .i32 0) 1 4 Ybad.underlying23 HI.out.1 HI.out.2.1 HI.out.2.2.1 HI.out.2.2.2 rfl (by decide) (.slice mv (fs n) mc) (fs n) (mems n) (by simp [Act.eval]) ME.out ⟨S6, 0, none⟩ (g + 1) cap6 (row (g + 1)) (by simp [Act.eval]) (by simp [row_length]) (row_news (SR.drewN RW.out 1)) (row_one _) (by omega) (by unfold maxLen; omega) (by omega) SW.out.hbw _ rfl ?_; intro S c W1 ho hg hat hlt; have hc1 : Ch base (Value.slice mv (fs n) mc).ownBlock.toList W W1 := ((Ch.refl base _ W).drewN 1).grown hg SW.out.hbw (fun k hk => ⟨(ME.out.lt k hk).1, by rw [hk]; simp⟩); have hm1 := SW.out.mb.ch hc1 NM.out; have q6 := hm1.cell 6 (by omega); have g6 := hm1.fr 6; have HO1 := hid ho; have HA1 := hid hat; have HC1 := hid hc1; clear hm1 ho hg hat hc1)
        all_goals
          go_wp2_with fail
          go_meet
          have ho := HO1.out
          rw [HF.out, HMS.out] at ho
          rw [HF.out]
          have hc1 := HC1.out
          rw [← V6.out] at hc1
          refine ⟨_, S, c, SW.out.newMem hc1 S c ho ?_, (CW.out.trans hc1.below).setCell (p := ⟨M, 6, none⟩) SW.out.hbM _, by simp [upd]⟩
          rw [V6.out]
          rcases HA1.out with h | h
          · exact .inl h
          · exact .inr (by rw [h]; exact Nat.le_refl _)
      case rest =>
        obtain ⟨f11, S, c, s11, c11, e11⟩ := hcut
        have q6 := s11.mb.cell 6 (by omega)
        rw [e11] at q6
        have hgn := HG.out
        have hf1 : fs (n + 1) ≤ 600 := fs_le ⟨n + 1, by omega⟩
        have hf2 : ((fs (n + 1) : Nat) : Int) ≤ 600 := by omega
        have hmade := made_step base M C n f11 wc.drew (s11.ch ((Ch.refl base [] wc).drewN 1)) (by omega)
        rw [show key (n + 1) = key g from by rw [hgn]] at hmade
        generalize hq : fs (n + 1) = q at q6 hmade hf1 hf2
        generalize hk : key g = kk at hmade ⊢
        have hwq : IntKind.i32.wrap (q : Int) = (q : Int) := wrap_i32 q hf1
        have HMD := hid hmade
        clear hgn hmade hq hk
        have S11 := hid s11
        have C11 := hid c11
        clear s11 c11 e11
        go_wp2_with fail
        go_region_with (first | (go_at_call 12; refine HMD.out.mono ?_; rintro e w12 ⟨rfl, ⟨f12, s12⟩, c12⟩))
        all_goals
          go_wp2_with fail
          go_ret2
          have hgn := HG.out
          have hn := HN.out
          refine ⟨by rw [← hn]; rfl, ⟨f12, ?_⟩, (below_drewN C11.out 1).trans c12⟩
          rw [hgn] at s12
          exact s12
end Go.Proofs.YbulkdammDoor
