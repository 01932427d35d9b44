import Derived.Test.YbulkdammWords2
import Derived.Test.YbulkdammTail
import Derived.Deep.CutRange
namespace Go.Proofs.Ybulkdamm
open Go.RowKit
set_option linter.unusedVariables false
set_option linter.unusedSimpArgs false

theorem run_make27c (n : Nat) (hn : n ≤ 1000000) (w : World) : (Instr.makeSlice 27 (.int .i64 0) (.int .i64 n)).run Yba.prog w = .ok (.slice (some ⟨w.heap.size, 0, none⟩) 0 n) (w.alloc (.cells (madeCells #[.int .i32 0] n) 21)) := by
  obtain ⟨i0, hi, hz0, hz1, hz2⟩ := info_parts info21
  have := run_make (P := Yba.prog) w 27 21 i0 _ Yba.underlying27 hi hz0 .i64 .i64 0 n (by omega) (by omega) (by rw [hz2]; omega) (by omega)
  rw [hz1, Int.toNat_natCast, Nat.mul_one] at this
  exact this

set_option maxHeartbeats 12800000 in
set_option maxRecDepth 100000 in
theorem law_any (za wa : Option Addr) (zb zo wb wo nz nw zc wc : Nat) (lo wd : Nat → Nat) (tx : Nat → ByteArray) (fd : Nat → Bool) (rc : Bool) (w : World) (hA : LA w za wa zb zo wb wo nz nw lo wd tx fd) :
    Calls Yba.prog 3 #[.slice za nz zc, .slice wa nw wc, .bool rc] w fun e w' => e = .returned (.bool true) ∧ Below w.heap.size w w' := by
  have HA := hid hA
  clear hA
  obtain ⟨i32, hi1, hz10, hz11, hz12⟩ := info_parts info32
  have HI32 := hid (And.intro hi1 (And.intro hz10 (And.intro hz11 hz12)))
  obtain ⟨i21, hi2, hz20, hz21, hz22⟩ := info_parts info21
  have HI21 := hid (And.intro hi2 (And.intro hz20 (And.intro hz21 hz22)))
  obtain ⟨i27, hi3, hz30, hz31, hz32⟩ := info_parts info27
  have HI27 := hid (And.intro hi3 (And.intro hz30 (And.intro hz31 hz32)))
  obtain ⟨i4, hi4, hz40, hz41, hz42⟩ := info_parts info4
  have HI4 := hid (And.intro hi4 (And.intro hz40 (And.intro hz41 hz42)))
  clear hi1 hz10 hz11 hz12 hi2 hz20 hz21 hz22 hi3 hz30 hz31 hz32 hi4 hz40 hz41 hz42
  by_cases hnz : nz ≤ 1024
  · by_cases hnw : nw ≤ 1024
    · have d1 : decide ((1024 : Int) < (nz : Int)) = false := by simp; omega
      have d2 : decide ((1024 : Int) < (nw : Int)) = false := by simp; omega
      go_enter Yba.func3, Yba.ntmps3
      go_wp2_with fail
      go_loopw [7, 8] (fun t i wr => ∃ k : Nat, k ≤ nw ∧ i = .int .i64 k ∧ t = .int .i64 (sumS tx k : Nat) ∧ sumS tx k ≤ 8192 ∧ wr = w) (fun _ i _ => nw - (intOf i).toNat)
      case atStart => exact ⟨0, by omega, rfl, rfl, by simp [sumS], rfl⟩
      case round =>
        obtain ⟨k, hk, rfl, rfl, hs, hwr⟩ := hrel
        have hwr' := hwr.symm
        subst hwr'
        clear hwr
        by_cases hlt : k < nw
        · obtain ⟨e1, c1, c2, c3⟩ := HA.out.w' k hlt
          have c3' : ((tx k).size : Int) ≤ 4611686018427387904 := by omega
          subst e1
          have b1 : (k : Int) < (nw : Int) := by omega
          have hsz : ((sumS tx k : Nat) : Int) ≤ 8192 := by omega
          have hss : sumS tx (k + 1) = sumS tx k + (tx k).size := rfl
          have HSS := hid hss
          clear hss
          generalize hT : sumS tx k = T at *
          have HT := hid hT
          clear hT
          by_cases hbig : T + (tx k).size ≤ 8192
          · have d3 : decide ((8192 : Int) < (T : Int) + ((tx k).size : Int)) = false := by simp; omega
            go_wp2_with fail
            refine ⟨⟨k + 1, by omega, by go_num, by rw [HSS.out]; go_num, by rw [HSS.out]; omega, trivial⟩, by simp [intOf]; omega⟩
          · have d3 : decide ((8192 : Int) < (T : Int) + ((tx k).size : Int)) = true := by simp; omega
            go_wp2_with fail
            go_ret
            exact ⟨rfl, Below.refl _ _⟩
        · have hkn : k = nw := by omega
          have htx : ∀ i, i < nw → (tx i).size ≤ 8192 := fun i hi => Nat.le_trans (sumS_le i hi) (by rw [← hkn]; exact hs)
          have HTX := hid htx
          clear htx hkn hs
          generalize sumS tx k = T at *
          go_wp2_with fail
          go_loopw [9, 10, 11, 12] (fun tv lv hv iv wr => ∃ i : Nat, i ≤ nz ∧ iv = .int .i64 i ∧ Below w.heap.size w wr ∧ RS wr w.heap.size [⟨32, 5, tv, i, rowT (termZ lo wd) i⟩, ⟨21, 1, lv, i, rowT (fun i => [.int .i32 (chr (lo i))]) i⟩, ⟨21, 1, hv, i, rowT (fun i => [.int .i32 (zh lo wd i)]) i⟩]) (fun _ _ _ i _ => nz - (intOf i).toNat)
          case atStart => exact ⟨0, by omega, rfl, Below.refl _ _, ((RS.nil (RS.nil (RS.nil ⟨fun r hr => by simp at hr, List.Pairwise.nil⟩ 21 1) 21 1) 32 5))⟩
          case round =>
            obtain ⟨i, hi, rfl, hbel, hrs⟩ := hrel
            have HBE := hid hbel
            have HRS := hid hrs
            by_cases hlt2 : i < nz
            · obtain ⟨e1, c1, c2, l1, l2⟩ := (HA.out.below hbel).z i hlt2
              subst e1
              have b1 : (i : Int) < (nz : Int) := by omega
              have hch := char_any (lo i) wr l1
              have HCH := hid hch
              have hc1 := chr_le (lo i)
              obtain ⟨t0, t1, ht, _⟩ := owns_form (hrs.own _ (List.mem_cons_self))
              obtain ⟨a0, a1, hta, _⟩ := owns_form (hrs.own _ (List.mem_cons_of_mem _ List.mem_cons_self))
              obtain ⟨s0, s1, hsa, _⟩ := owns_form (hrs.own _ (List.mem_cons_of_mem _ (List.mem_cons_of_mem _ List.mem_cons_self)))
              simp only at ht hta hsa
              subst ht hta hsa
              clear hbel hrs hch
              have hw2 : (0 : Int) ≤ (wd i : Int) ∧ (wd i : Int) < 256 := by omega
              have HW2 := hid l2
              generalize hcc : chr (lo i) = C at *
              have HCC := hid hcc
              clear hcc
              generalize hR1 : rowT (termZ lo wd) i = R1 at *
              generalize hR2 : rowT (fun i => [Value.int .i32 (chr (lo i))]) i = R2 at *
              generalize hR3 : rowT (fun i => [Value.int .i32 (zh lo wd i)]) i = R3 at *
              have HR := hid (And.intro hR1 (And.intro hR2 hR3))
              clear hR1 hR2 hR3
              go_wp2_with fail
              refine HCH.out.mono ?_
              rintro r w1 ⟨rfl, rfl⟩
              have hlt1 : w.heap.size ≤ w1.heap.size := HBE.out.size
              have OW_k0 : Hid (∀ o, (w1.alloc o).ownsRow w.heap.size 32 5 (.slice t0 i t1) i R1) := fun o => (HRS.out.own _ List.mem_cons_self).alloc o
              go_wp2_with (first | (at_builtin; refine wpList_append_lies _ rfl (.tmp 83) (.tmp 87) 26 rfl w.heap.size 32 i32 _ 5 56 Yba.underlying26 HI32.out.1 HI32.out.2.1 HI32.out.2.2.1 HI32.out.2.2.2 rfl (by decide) (.slice t0 i t1) i R1 ?k0_0 (OW_k0.out _) ⟨w1.heap.size, 0, none⟩ 1 1 [.slice none 0 0, .bool false, .int .i32 C, .int .i32 (C + (wd i : Int) % 3), .string ByteArray.empty] ?k0_8 ?k0_1 ?k0_2 ?k0_3 ?k0_4 ?k0_5 ?k0_6 ?k0_7 _ rfl ?_))
              try (case k0_0 => (rfl))
              try (case k0_8 => (simp [Act.eval]))
              try (case k0_1 => (rfl))
              try (case k0_2 => (exact World.news_of_block (t := 32) (fr := (0, 0)) (cs := #[.slice none 0 0, .bool false, .int .i32 C, .int .i32 (C + (wd i : Int) % 3), .string ByteArray.empty]) (Deep.blk_alloc_new w1 _)))
              try (case k0_3 => (first | rfl | (intro u hu; simp at hu; rcases hu with rfl | rfl | rfl | rfl | rfl <;> rfl)))
              try (case k0_4 => (omega))
              try (case k0_5 => (first | omega | (unfold maxLen; omega) | (simp [maxLen]; omega)))
              try (case k0_6 => (first | omega | (simp; omega)))
              try (case k0_7 => (first | omega | (simp; omega)))
              intro g1 cap1 w2 own1 gr1 at1 lt1
              have rs2 := RS.app [] [⟨21, 1, .slice a0 i a1, i, R2⟩, ⟨21, 1, .slice s0 i s1, i, R3⟩] ⟨32, 5, .slice t0 i t1, i, R1⟩ HRS.out gr1 own1 at1
              have be2 := RS.bel [] [⟨21, 1, .slice a0 i a1, i, R2⟩, ⟨21, 1, .slice s0 i s1, i, R3⟩] ⟨32, 5, .slice t0 i t1, i, R1⟩ HRS.out HBE.out hlt1 gr1
              simp only [List.cons_append, List.nil_append] at rs2
              have RS2 := hid rs2
              have BE2 := hid be2
              have hlt2 : w.heap.size ≤ w2.heap.size := be2.size
              clear own1 gr1 at1 rs2 be2 HRS HBE c1 c2
              have OW_k1 : Hid (∀ o, (w2.alloc o).ownsRow w.heap.size 21 1 (.slice a0 i a1) i R2) := fun o => (RS2.out.own _ (List.mem_cons_of_mem _ List.mem_cons_self)).alloc o
              go_wp2_with (first | (at_builtin; refine wpList_append_lies _ rfl (.tmp 89) (.tmp 91) 27 rfl w.heap.size 21 i21 (.int .i32 0) 1 4 Yba.underlying27 HI21.out.1 HI21.out.2.1 HI21.out.2.2.1 HI21.out.2.2.2 rfl (by decide) (.slice a0 i a1) i R2 ?k1_0 (OW_k1.out _) ⟨w2.heap.size, 0, none⟩ 1 1 [.int .i32 C] ?k1_8 ?k1_1 ?k1_2 ?k1_3 ?k1_4 ?k1_5 ?k1_6 ?k1_7 _ rfl ?_))
              try (case k1_0 => (rfl))
              try (case k1_8 => (simp [Act.eval]))
              try (case k1_1 => (rfl))
              try (case k1_2 => (exact World.news_of_block (t := 21) (fr := (0, 0)) (cs := #[.int .i32 C]) (Deep.blk_alloc_new w2 _)))
              try (case k1_3 => (first | rfl | (intro u hu; simp at hu; rcases hu with rfl <;> rfl)))
              try (case k1_4 => (omega))
              try (case k1_5 => (first | omega | (unfold maxLen; omega) | (simp [maxLen]; omega)))
              try (case k1_6 => (first | omega | (simp; omega)))
              try (case k1_7 => (first | omega | (simp; omega)))
              intro g2 cap2 w3 own2 gr2 at2 lt2
              have rs3 := RS.app [⟨32, 5, .slice (some ⟨g1, 0, none⟩) (i + 1) cap1, i + 1, R1 ++ [.slice none 0 0, .bool false, .int .i32 C, .int .i32 (C + (wd i : Int) % 3), .string ByteArray.empty]⟩] [⟨21, 1, .slice s0 i s1, i, R3⟩] ⟨21, 1, .slice a0 i a1, i, R2⟩ RS2.out gr2 own2 at2
              have be3 := RS.bel [⟨32, 5, .slice (some ⟨g1, 0, none⟩) (i + 1) cap1, i + 1, R1 ++ [.slice none 0 0, .bool false, .int .i32 C, .int .i32 (C + (wd i : Int) % 3), .string ByteArray.empty]⟩] [⟨21, 1, .slice s0 i s1, i, R3⟩] ⟨21, 1, .slice a0 i a1, i, R2⟩ RS2.out BE2.out hlt2 gr2
              simp only [List.cons_append, List.nil_append] at rs3
              have RS3 := hid rs3
              have BE3 := hid be3
              have hlt3 : w.heap.size ≤ w3.heap.size := be3.size
              clear own2 gr2 at2 rs3 be3 RS2 BE2
              have OW_k2 : Hid (∀ o, (w3.alloc o).ownsRow w.heap.size 21 1 (.slice s0 i s1) i R3) := fun o => (RS3.out.own _ (List.mem_cons_of_mem _ (List.mem_cons_of_mem _ List.mem_cons_self))).alloc o
              go_wp2_with (first | (at_builtin; refine wpList_append_lies _ rfl (.tmp 93) (.tmp 95) 27 rfl w.heap.size 21 i21 (.int .i32 0) 1 4 Yba.underlying27 HI21.out.1 HI21.out.2.1 HI21.out.2.2.1 HI21.out.2.2.2 rfl (by decide) (.slice s0 i s1) i R3 ?k2_0 (OW_k2.out _) ⟨w3.heap.size, 0, none⟩ 1 1 [.int .i32 (C + (wd i : Int) % 3)] ?k2_8 ?k2_1 ?k2_2 ?k2_3 ?k2_4 ?k2_5 ?k2_6 ?k2_7 _ rfl ?_))
              try (case k2_0 => (rfl))
              try (case k2_8 => (simp [Act.eval]))
              try (case k2_1 => (rfl))
              try (case k2_2 => (exact World.news_of_block (t := 21) (fr := (0, 0)) (cs := #[.int .i32 (C + (wd i : Int) % 3)]) (Deep.blk_alloc_new w3 _)))
              try (case k2_3 => (first | rfl | (intro u hu; simp at hu; rcases hu with rfl <;> rfl)))
              try (case k2_4 => (omega))
              try (case k2_5 => (first | omega | (unfold maxLen; omega) | (simp [maxLen]; omega)))
              try (case k2_6 => (first | omega | (simp; omega)))
              try (case k2_7 => (first | omega | (simp; omega)))
              intro g3 cap3 w4 own3 gr3 at3 lt3
              have rs4 := RS.app [⟨32, 5, .slice (some ⟨g1, 0, none⟩) (i + 1) cap1, i + 1, R1 ++ [.slice none 0 0, .bool false, .int .i32 C, .int .i32 (C + (wd i : Int) % 3), .string ByteArray.empty]⟩, ⟨21, 1, .slice (some ⟨g2, 0, none⟩) (i + 1) cap2, i + 1, R2 ++ [.int .i32 C]⟩] [] ⟨21, 1, .slice s0 i s1, i, R3⟩ RS3.out gr3 own3 at3
              have be4 := RS.bel [⟨32, 5, .slice (some ⟨g1, 0, none⟩) (i + 1) cap1, i + 1, R1 ++ [.slice none 0 0, .bool false, .int .i32 C, .int .i32 (C + (wd i : Int) % 3), .string ByteArray.empty]⟩, ⟨21, 1, .slice (some ⟨g2, 0, none⟩) (i + 1) cap2, i + 1, R2 ++ [.int .i32 C]⟩] [] ⟨21, 1, .slice s0 i s1, i, R3⟩ RS3.out BE3.out hlt3 gr3
              simp only [List.cons_append, List.nil_append] at rs4
              have RS4 := hid rs4
              have BE4 := hid be4
              clear own3 gr3 at3 rs4 be4 RS3 BE3
              go_wp2_with fail
              refine ⟨⟨i + 1, by omega, by go_num, BE4.out, ?_⟩, by simp [intOf]; omega⟩
              have h := RS4.out
              obtain ⟨q1, q2, q3⟩ := HR.out
              have e4 : zh lo wd i = C + (wd i : Int) % 3 := by rw [zh, HCC.out]; rfl
              rw [rowT, rowT, rowT, q1, q2, q3, termZ, e4, HCC.out]
              exact h
            · have hin : nz = i := by omega
              subst hin
              have TF : Hid (∃ t0 t1, u9 = .slice t0 nz t1) := by
                obtain ⟨t0, t1, ht, _⟩ := owns_form (hrs.own _ List.mem_cons_self)
                exact ⟨t0, t1, ht⟩
              have W0 : Hid (WSt w lo wd nz 0 u10 u11 u9 (.slice none 0 0) (.slice none 0 0) wr) := by
                refine ⟨⟨fun _ => 0, fun _ => 0, fun _ => 0, fun _ _ => 0, fun _ => false⟩, fun j hj => by omega, hbel, ?_⟩
                have h4 := RS.insNil [_, _, _] [] hrs 27 1
                have h5 := RS.insNil [_, _, _, _] [] h4 4 1
                simpa [rowsW, textsR, rowT] using h5
              clear hbel hrs HBE HRS
              obtain ⟨t0, t1, rfl⟩ := TF.out
              go_wp2_with fail
              go_loopw [9, 16, 17, 18] (fun tv wv fv iv wr => ∃ i m : Nat, i ≤ nw ∧ m ≤ i ∧ iv = .int .i64 i ∧ WSt w lo wd nz m u10 u11 tv wv fv wr) (fun _ _ _ i _ => nw - (intOf i).toNat)
              case atStart => exact ⟨0, 0, by omega, by omega, rfl, W0.out⟩
              case round =>
                clear W0
                obtain ⟨i, m, hi2, hmi, rfl, hws⟩ := hrel
                obtain ⟨W, hok, hbel, hrs⟩ := hws
                have HOK := hid hok
                have HBE := hid hbel
                have HRS := hid hrs
                by_cases hlt3 : i < nw
                · obtain ⟨e1, c1, c2, c3⟩ := (HA.out.below hbel).w' i hlt3
                  subst e1
                  have b1 : (i : Int) < (nw : Int) := by omega
                  have hsz := HTX.out i hlt3
                  have hwl : wb < wr.heap.size := block_lt_of_cell c1
                  by_cases hs0 : (tx i).size = 0
                  · have d5 : (((tx i).size : Int) == 0) = true := by simp [hs0]
                    have W1 : Hid (WSt w lo wd nz m u10 u11 u9 u16 u17 wr) := ⟨W, hok, hbel, hrs⟩
                    clear hok hbel hrs HOK HBE HRS hs0
                    go_wp2_with fail
                    refine ⟨⟨i + 1, m, by omega, by omega, by go_num, W1.out⟩, by simp [intOf]; omega⟩
                  · have d5 : (((tx i).size : Int) == 0) = false := by rw [beq_eq_false_iff_ne]; omega
                    have hmk := run_make27c (tx i).size (by omega)
                    clear hok hbel hrs
                    have WI0 : Hid (WIn w (byteC (tx i)) (rowsW lo wd nz m W u9 u10 u11 u16 u17) 0 (.slice (some ⟨wr.heap.size, 0, none⟩) 0 (tx i).size) (wr.alloc (.cells (madeCells #[.int .i32 0] (tx i).size) 21))) := WIn.start (tx i).size HBE.out HRS.out (by omega)
                    have C12 := hid (And.intro c1 c2)
                    go_wp2_with fail
                    clear hmk c1 c2
                    go_loopw [19, 20] (fun xv jv wx => ∃ j : Nat, j ≤ (tx i).size ∧ jv = .int .i64 j ∧ WIn w (byteC (tx i)) (rowsW lo wd nz m W u9 u10 u11 u16 u17) j xv wx) (fun _ j _ => (tx i).size - (intOf j).toNat)
                    case atStart => exact ⟨0, by omega, rfl, WI0.out⟩
                    case round =>
                      clear WI0
                      obtain ⟨j, hj, rfl, hwi⟩ := hrel
                      have HWI := hid hwi
                      obtain ⟨e2, d1', d2', d3'⟩ := (HA.out.below hwi.1).w' i hlt3
                      obtain ⟨x0, x1, hx, _⟩ := owns_form (hwi.2.own _ List.mem_cons_self)
                      simp only at hx
                      subst hx
                      have HR2 : Hid (RS wr w.heap.size (⟨21, 1, .slice x0 j x1, j, intsN (byteC (tx i)) j⟩ :: rowsW lo wd nz m W u9 u10 u11 u16 u17)) := hwi.2
                      have HB2 := hid hwi.1
                      clear hwi e2
                      by_cases hjs : j < (tx i).size
                      · have b4 : (j : Int) < ((tx i).size : Int) := by omega
                        have hby : byteC (tx i) j = chr ((tx i)[j]).toNat := by unfold byteC; rw [dif_pos hjs]
                        have hch := char_any ((tx i)[j]).toNat wr (UInt8.toNat_lt _)
                        rw [← hby] at hch
                        have HCH := hid hch
                        clear hch hby
                        generalize hBC : byteC (tx i) j = BC at *
                        have HBC := hid hBC
                        clear hBC
                        generalize hIN : intsN (byteC (tx i)) j = IN at *
                        have HIN := hid hIN
                        clear hIN
                        generalize hRW : rowsW lo wd nz m W u9 u10 u11 u16 u17 = RW at *
                        have HRW := hid hRW
                        clear hRW
                        clear HWI
                        go_wp2_with fail
                        refine HCH.out.mono ?_
                        rintro r w1 ⟨rfl, rfl⟩
                        have hltw : w.heap.size ≤ w1.heap.size := HB2.out.size
                        have OW_k3 : Hid (∀ o, (w1.alloc o).ownsRow w.heap.size 21 1 (.slice x0 j x1) j IN) := fun o => (HR2.out.own _ List.mem_cons_self).alloc o
                        go_wp2_with (first | (at_builtin; refine wpList_append_lies _ rfl (.tmp 129) (.tmp 138) 27 rfl w.heap.size 21 i21 (.int .i32 0) 1 4 Yba.underlying27 HI21.out.1 HI21.out.2.1 HI21.out.2.2.1 HI21.out.2.2.2 rfl (by decide) (.slice x0 j x1) j IN ?k3_0 (OW_k3.out _) ⟨w1.heap.size, 0, none⟩ 1 1 [.int .i32 BC] ?k3_8 ?k3_1 ?k3_2 ?k3_3 ?k3_4 ?k3_5 ?k3_6 ?k3_7 _ rfl ?_))
                        try (case k3_0 => (rfl))
                        try (case k3_8 => (simp [Act.eval]))
                        try (case k3_1 => (rfl))
                        try (case k3_2 => (exact World.news_of_block (t := 21) (fr := (0, 0)) (cs := #[.int .i32 BC]) (Deep.blk_alloc_new w1 _)))
                        try (case k3_3 => (first | rfl | (intro u hu; simp at hu; rcases hu with rfl <;> rfl)))
                        try (case k3_4 => (omega))
                        try (case k3_5 => (first | omega | (unfold maxLen; omega) | (simp [maxLen]; omega)))
                        try (case k3_6 => (first | omega | (simp; omega)))
                        try (case k3_7 => (first | omega | (simp; omega)))
                        intro g1 cap1 w2 own1 gr1 at1 lt1
                        have rs2 := RS.app [] RW ⟨21, 1, .slice x0 j x1, j, IN⟩ HR2.out gr1 own1 at1
                        have be2 := RS.bel [] RW ⟨21, 1, .slice x0 j x1, j, IN⟩ HR2.out HB2.out hltw gr1
                        simp only [List.nil_append] at rs2
                        have WI1 : Hid (WIn w (byteC (tx i)) RW (j + 1) (.slice (some ⟨g1, 0, none⟩) (j + 1) cap1) w2) := by
                          refine ⟨be2, ?_⟩
                          have e : intsN (byteC (tx i)) (j + 1) = IN ++ [.int .i32 BC] := by rw [← HIN.out, ← HBC.out]; rfl
                          rw [e]; exact rs2
                        clear own1 gr1 at1 rs2 be2 HR2 HB2
                        go_wp2_with fail
                        refine ⟨⟨j + 1, by omega, by go_num, WI1.out⟩, by simp [intOf]; omega⟩
                      · have hjn : (tx i).size = j := by omega
                        obtain ⟨bx, cx, hxx, hbx, _⟩ := HR2.out.own _ List.mem_cons_self |>.form (by show 0 < j; omega)
                        simp only at hxx
                        cases hxx
                        obtain ⟨ta, tc, hta, _⟩ := owns_form (HR2.out.own _ (List.mem_cons_of_mem _ List.mem_cons_self))
                        obtain ⟨wa', wc', hwa, _⟩ := owns_form (HR2.out.own ⟨27, 1, u16, m, rowT (fun j => [.slice (some ⟨W.b j, 0, none⟩) (W.n j) (W.c j)]) m⟩ (by simp [rowsW]))
                        obtain ⟨fa, fc, hfa, _⟩ := owns_form (HR2.out.own ⟨4, 1, u17, m, rowT (fun j => [.bool (W.f j)]) m⟩ (by simp [rowsW]))
                        simp only at hta hwa hfa
                        subst hta hwa hfa
                        have RS1 : Hid (RS wr w.heap.size (⟨21, 1, .slice (some ⟨bx, 0, none⟩) j x1, j, intsN (byteC (tx i)) j⟩ :: ⟨32, 5, .slice ta (nz + m) tc, nz + m, rowT (termZ lo wd) nz ++ rowT (termW W) m⟩ :: ⟨21, 1, u10, nz, rowT (fun i => [.int .i32 (chr (lo i))]) nz⟩ :: ⟨21, 1, u11, nz, rowT (fun i => [.int .i32 (zh lo wd i)]) nz⟩ :: ⟨27, 1, .slice wa' m wc', m, rowT (fun j => [.slice (some ⟨W.b j, 0, none⟩) (W.n j) (W.c j)]) m⟩ :: ⟨4, 1, .slice fa m fc, m, rowT (fun j => [.bool (W.f j)]) m⟩ :: textsR W m)) := HR2.out
                        have HJN := hid hjn
                        have hm1 : m ≤ 1024 := by omega
                        have hltw : w.heap.size ≤ wr.heap.size := HB2.out.size
                        clear HR2 HWI hjn HRS HBE
                        generalize hINJ : intsN (byteC (tx i)) j = INJ at *
                        generalize hRT : rowT (termZ lo wd) nz ++ rowT (termW W) m = RT at *
                        generalize hRLO : rowT (fun i => [Value.int .i32 (chr (lo i))]) nz = RLO at *
                        generalize hRHI : rowT (fun i => [Value.int .i32 (zh lo wd i)]) nz = RHI at *
                        generalize hRWD : rowT (fun j => [Value.slice (some ⟨W.b j, 0, none⟩) (W.n j) (W.c j)]) m = RWD at *
                        generalize hRF : rowT (fun j => [Value.bool (W.f j)]) m = RF at *
                        have HGEN := hid (And.intro hINJ (And.intro hRT (And.intro hRLO (And.intro hRHI (And.intro hRWD hRF)))))
                        clear hINJ hRT hRLO hRHI hRWD hRF
                        have OW_k4 : Hid (∀ o, (wr.alloc o).ownsRow w.heap.size 32 5 (.slice ta (nz + m) tc) (nz + m) RT) := fun o => (RS1.out.own _ (List.mem_cons_of_mem _ List.mem_cons_self)).alloc o
                        go_wp2_with (first | (at_builtin; refine wpList_append_lies _ rfl (.tmp 140) (.tmp 148) 26 rfl w.heap.size 32 i32 _ 5 56 Yba.underlying26 HI32.out.1 HI32.out.2.1 HI32.out.2.2.1 HI32.out.2.2.2 rfl (by decide) (.slice ta (nz + m) tc) (nz + m) RT ?k4_0 (OW_k4.out _) ⟨wr.heap.size, 0, none⟩ 1 1 [.slice (some ⟨bx, 0, none⟩) j x1, .bool (fd i), .int .i32 0, .int .i32 0, .string ByteArray.empty] ?k4_8 ?k4_1 ?k4_2 ?k4_3 ?k4_4 ?k4_5 ?k4_6 ?k4_7 _ rfl ?_))
                        try (case k4_0 => (rfl))
                        try (case k4_8 => (simp [Act.eval]))
                        try (case k4_1 => (rfl))
                        try (case k4_2 => (exact World.news_of_block (t := 32) (fr := (0, 0)) (cs := #[.slice (some ⟨bx, 0, none⟩) j x1, .bool (fd i), .int .i32 0, .int .i32 0, .string ByteArray.empty]) (Deep.blk_alloc_new wr _)))
                        try (case k4_3 => (first | rfl | (intro u hu; simp at hu; rcases hu with rfl | rfl | rfl | rfl | rfl <;> rfl)))
                        try (case k4_4 => (omega))
                        try (case k4_5 => (first | omega | (unfold maxLen; omega) | (simp [maxLen]; omega)))
                        try (case k4_6 => (first | omega | (simp; omega)))
                        try (case k4_7 => (first | omega | (simp; omega)))
                        intro g1 cap1 w2 own1 gr1 at1 lt1
                        have rs2 := RS.app [⟨21, 1, .slice (some ⟨bx, 0, none⟩) j x1, j, INJ⟩] (⟨21, 1, u10, nz, RLO⟩ :: ⟨21, 1, u11, nz, RHI⟩ :: ⟨27, 1, .slice wa' m wc', m, RWD⟩ :: ⟨4, 1, .slice fa m fc, m, RF⟩ :: textsR W m) ⟨32, 5, .slice ta (nz + m) tc, nz + m, RT⟩ RS1.out gr1 own1 at1
                        have be2 := RS.bel [⟨21, 1, .slice (some ⟨bx, 0, none⟩) j x1, j, INJ⟩] (⟨21, 1, u10, nz, RLO⟩ :: ⟨21, 1, u11, nz, RHI⟩ :: ⟨27, 1, .slice wa' m wc', m, RWD⟩ :: ⟨4, 1, .slice fa m fc, m, RF⟩ :: textsR W m) ⟨32, 5, .slice ta (nz + m) tc, nz + m, RT⟩ RS1.out HB2.out hltw gr1
                        simp only [List.cons_append, List.nil_append] at rs2
                        have RS2 := hid rs2
                        have BE2 := hid be2
                        have hlt2' : w.heap.size ≤ w2.heap.size := be2.size
                        obtain ⟨_, c1b, c2b, _⟩ := (HA.out.below be2).w' i hlt3
                        clear own1 gr1 at1 rs2 be2 RS1 HB2
                        have OW_k5 : Hid (∀ o, (w2.alloc o).ownsRow w.heap.size 27 1 (.slice wa' m wc') m RWD) := fun o => (RS2.out.own ⟨27, 1, .slice wa' m wc', m, RWD⟩ (by simp)).alloc o
                        go_wp2_with (first | (at_builtin; refine wpList_append_lies _ rfl (.tmp 150) (.tmp 152) 33 rfl w.heap.size 27 i27 (.slice none 0 0) 1 24 Yba.underlying33 HI27.out.1 HI27.out.2.1 HI27.out.2.2.1 HI27.out.2.2.2 rfl (by decide) (.slice wa' m wc') m RWD ?k5_0 (OW_k5.out _) ⟨w2.heap.size, 0, none⟩ 1 1 [.slice (some ⟨bx, 0, none⟩) j x1] ?k5_8 ?k5_1 ?k5_2 ?k5_3 ?k5_4 ?k5_5 ?k5_6 ?k5_7 _ rfl ?_))
                        try (case k5_0 => (rfl))
                        try (case k5_8 => (simp [Act.eval]))
                        try (case k5_1 => (rfl))
                        try (case k5_2 => (exact World.news_of_block (t := 27) (fr := (0, 0)) (cs := #[.slice (some ⟨bx, 0, none⟩) j x1]) (Deep.blk_alloc_new w2 _)))
                        try (case k5_3 => (first | rfl | (intro u hu; simp at hu; rcases hu with rfl <;> rfl)))
                        try (case k5_4 => (omega))
                        try (case k5_5 => (first | omega | (unfold maxLen; omega) | (simp [maxLen]; omega)))
                        try (case k5_6 => (first | omega | (simp; omega)))
                        try (case k5_7 => (first | omega | (simp; omega)))
                        intro g2 cap2 w3 own2 gr2 at2 lt2
                        have rs3 := RS.app [⟨21, 1, .slice (some ⟨bx, 0, none⟩) j x1, j, INJ⟩, ⟨32, 5, .slice (some ⟨g1, 0, none⟩) (nz + m + 1) cap1, nz + m + 1, RT ++ [.slice (some ⟨bx, 0, none⟩) j x1, .bool (fd i), .int .i32 0, .int .i32 0, .string ByteArray.empty]⟩, ⟨21, 1, u10, nz, RLO⟩, ⟨21, 1, u11, nz, RHI⟩] (⟨4, 1, .slice fa m fc, m, RF⟩ :: textsR W m) ⟨27, 1, .slice wa' m wc', m, RWD⟩ RS2.out gr2 own2 at2
                        have be3 := RS.bel [⟨21, 1, .slice (some ⟨bx, 0, none⟩) j x1, j, INJ⟩, ⟨32, 5, .slice (some ⟨g1, 0, none⟩) (nz + m + 1) cap1, nz + m + 1, RT ++ [.slice (some ⟨bx, 0, none⟩) j x1, .bool (fd i), .int .i32 0, .int .i32 0, .string ByteArray.empty]⟩, ⟨21, 1, u10, nz, RLO⟩, ⟨21, 1, u11, nz, RHI⟩] (⟨4, 1, .slice fa m fc, m, RF⟩ :: textsR W m) ⟨27, 1, .slice wa' m wc', m, RWD⟩ RS2.out BE2.out hlt2' gr2
                        simp only [List.cons_append, List.nil_append] at rs3
                        have RS3 := hid rs3
                        have BE3 := hid be3
                        have hlt3' : w.heap.size ≤ w3.heap.size := be3.size
                        obtain ⟨_, c1c, c2c, _⟩ := (HA.out.below be3).w' i hlt3
                        clear own2 gr2 at2 rs3 be3 RS2 BE2 c1b c2b
                        have ho4 : w3.ownsRow w.heap.size 4 1 (.slice fa m fc) m RF := RS3.out.own ⟨4, 1, .slice fa m fc, m, RF⟩ (List.mem_cons_of_mem _ (List.mem_cons_of_mem _ (List.mem_cons_of_mem _ (List.mem_cons_of_mem _ (List.mem_cons_of_mem _ List.mem_cons_self)))))
                        have OW4 := hid (ho4.alloc (.cells #[.bool (fd i)] 4))
                        clear ho4
                        go_wp2_with (first | (at_builtin; refine wpList_append_lies _ rfl (.tmp 154) (.tmp 160) 34 rfl w.heap.size 4 i4 (.bool false) 1 1 Yba.underlying34 HI4.out.1 HI4.out.2.1 HI4.out.2.2.1 HI4.out.2.2.2 rfl (by decide) (.slice fa m fc) m RF ?k6_0 OW4.out ⟨w3.heap.size, 0, none⟩ 1 1 [.bool (fd i)] ?k6_8 ?k6_1 ?k6_2 ?k6_3 ?k6_4 ?k6_5 ?k6_6 ?k6_7 _ rfl ?_))
                        try (case k6_0 => (rfl))
                        try (case k6_8 => (simp [Act.eval]))
                        try (case k6_1 => (rfl))
                        try (case k6_2 => (exact World.news_of_block (t := 4) (fr := (0, 0)) (cs := #[.bool (fd i)]) (Deep.blk_alloc_new w3 _)))
                        try (case k6_3 => (first | rfl | (intro u hu; simp at hu; rcases hu with rfl <;> rfl)))
                        try (case k6_4 => (omega))
                        try (case k6_5 => (first | omega | (unfold maxLen; omega) | (simp [maxLen]; omega)))
                        try (case k6_6 => (first | omega | (simp; omega)))
                        try (case k6_7 => (first | omega | (simp; omega)))
                        intro g3 cap3 w4 own3 gr3 at3 lt3
                        have rs4 := RS.app [⟨21, 1, .slice (some ⟨bx, 0, none⟩) j x1, j, INJ⟩, ⟨32, 5, .slice (some ⟨g1, 0, none⟩) (nz + m + 1) cap1, nz + m + 1, RT ++ [.slice (some ⟨bx, 0, none⟩) j x1, .bool (fd i), .int .i32 0, .int .i32 0, .string ByteArray.empty]⟩, ⟨21, 1, u10, nz, RLO⟩, ⟨21, 1, u11, nz, RHI⟩, ⟨27, 1, .slice (some ⟨g2, 0, none⟩) (m + 1) cap2, m + 1, RWD ++ [.slice (some ⟨bx, 0, none⟩) j x1]⟩] (textsR W m) ⟨4, 1, .slice fa m fc, m, RF⟩ RS3.out gr3 own3 at3
                        have be4 := RS.bel [⟨21, 1, .slice (some ⟨bx, 0, none⟩) j x1, j, INJ⟩, ⟨32, 5, .slice (some ⟨g1, 0, none⟩) (nz + m + 1) cap1, nz + m + 1, RT ++ [.slice (some ⟨bx, 0, none⟩) j x1, .bool (fd i), .int .i32 0, .int .i32 0, .string ByteArray.empty]⟩, ⟨21, 1, u10, nz, RLO⟩, ⟨21, 1, u11, nz, RHI⟩, ⟨27, 1, .slice (some ⟨g2, 0, none⟩) (m + 1) cap2, m + 1, RWD ++ [.slice (some ⟨bx, 0, none⟩) j x1]⟩] (textsR W m) ⟨4, 1, .slice fa m fc, m, RF⟩ RS3.out BE3.out hlt3' gr3
                        simp only [List.cons_append, List.nil_append] at rs4
                        have W2 : Hid (WSt w lo wd nz (m + 1) u10 u11 (.slice (some ⟨g1, 0, none⟩) (nz + m + 1) cap1) (.slice (some ⟨g2, 0, none⟩) (m + 1) cap2) (.slice (some ⟨g3, 0, none⟩) (m + 1) cap3) w4) := by
                          obtain ⟨q1, q2, q3, q4, q5, q6⟩ := HGEN.out
                          refine ⟨W.put m bx x1 j (byteC (tx i)) (fd i), HOK.out.put bx x1 j (byteC (tx i)) (fd i) (by have := HJN.out; omega) (by have := HJN.out; omega) (fun q _ => byteC_le _ q), be4, ?_⟩
                          rw [rowsW_put]
                          refine RS.move [_, _, _, _, _] _ _ ?_
                          simp only [List.cons_append, List.nil_append]
                          rw [q1, q3, q4, q5, q6, ← List.append_assoc, q2]
                          exact rs4
                        clear own3 gr3 at3 rs4 be4 RS3 BE3 HGEN
                        go_wp2_with fail
                        refine ⟨⟨i + 1, m + 1, by omega, by omega, by go_num, W2.out⟩, by simp [intOf]; omega⟩
                · have WF1 : Hid (WSt w lo wd nz m u10 u11 u9 u16 u17 wr) := ⟨W, hok, hbel, hrs⟩
                  have hm2 : m ≤ 1024 := by omega
                  obtain ⟨wa', wc', hwa, _⟩ := owns_form (hrs.own ⟨27, 1, u16, m, rowT (fun j => [.slice (some ⟨W.b j, 0, none⟩) (W.n j) (W.c j)]) m⟩ (by simp [rowsW]))
                  obtain ⟨ta, tc, hta, _⟩ := owns_form (hrs.own _ List.mem_cons_self)
                  simp only at hwa hta
                  subst hwa hta
                  have hmk33 := make33
                  clear hok hbel hrs HOK HBE HRS
                  go_wp2_with fail
                  go_cut [22] from 164 to 168 (fun v wx => BS0 wr (.slice ta (nz + m) tc) v wx)
                  case first =>
                    go_region
                    all_goals
                      go_wp2_with fail
                      go_meet
                      simp only [Nat.add_assoc, Nat.reduceAdd]
                      first
                        | exact bsA wr (.slice ta (nz + m) tc)
                        | exact bsB wr (.slice ta (nz + m) tc)
                  case rest =>
                    rename_i hK36
                    obtain ⟨p, PB, EB, rfl, hbk⟩ := BK.start (nz := nz) (m := m) (rc := rc) hcut
                    refine hK36 _ _ ?_
                    exact tail13 w wr nz m rc p PB EB ta tc u10 u11 (.slice wa' m wc') u17 lo wd hnz hm2 WF1.out _ wc ⟨rfl, rfl, rfl, rfl, rfl, rfl, rfl, rfl, rfl, rfl⟩ hbk
    · have d1 : decide ((1024 : Int) < (nz : Int)) = false := by simp; omega
      have d2 : decide ((1024 : Int) < (nw : Int)) = true := by simp; omega
      go_enter Yba.func3, Yba.ntmps3
      go_wp2_with fail
      go_ret
      exact ⟨rfl, Below.refl _ _⟩
  · have d1 : decide ((1024 : Int) < (nz : Int)) = true := by simp; omega
    go_enter Yba.func3, Yba.ntmps3
    go_wp2_with fail
    go_ret
    exact ⟨rfl, Below.refl _ _⟩
end Go.Proofs.Ybulkdamm
