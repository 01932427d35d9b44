import Derived.Test.YbulkdammFrm
namespace Go.Proofs.Ybulkdamm
open Go.RowKit
set_option linter.unusedVariables false
set_option linter.unusedSimpArgs false
set_option maxHeartbeats 12800000 in
set_option maxRecDepth 100000 in
theorem stmt21t (w wz : World) (nz m : Nat) (p PB EB : Nat) (ta : Option Addr) (tc : Nat) (v10 v11 v16 v17 : Value) (n : Nat) (hnz : nz ≤ 1024) (hm2 : m ≤ 1024) (a : Act) (w0 : World) (hF : FR a true nz m p v10 v11 v16 v17) (hx25 : a.eval (.tmp 25) = .int .i64 (n : Nat)) (hx26 : a.eval (.tmp 26) = .int .i32 0) (hB : BK wz (.slice ta (nz + m) tc) nz m true p PB EB (3 * nz + 3) (nz + 1) (0) (nz + 1) (0) w0) (K : Act → World → Prop) (Q : Exit → Act → World → Prop) (hQp : ∀ c (a : Act) d v w, Q (.panic c) (a.put d v) w → Q (.panic c) a w) (hK : ∀ a' w', FR a' true nz m p v10 v11 v16 v17 → a'.eval (.tmp 25) = .int .i64 (n : Nat) → a'.eval (.tmp 26) = .int .i32 (m : Nat) → BK wz (.slice ta (nz + m) tc) nz m true p PB EB (3 * nz + 3 + m * dR true) (nz + 1) (m) (nz + 1) (m) w' → K a' w') : (stmtN 21).wp Yba.prog (Exit.then K Q) a w0 := by
  obtain ⟨i21, hi2, hz20, hz21, hz22⟩ := info_parts info21
  have HI21 := hid (And.intro hi2 (And.intro hz20 (And.intro hz21 hz22)))
  obtain ⟨i42, hi5, hz50, hz51, hz52⟩ := info_parts info42
  have HI42 := hid (And.intro hi5 (And.intro hz50 (And.intro hz51 hz52)))
  clear hi2 hz20 hz21 hz22 hi5 hz50 hz51 hz52
  have HK := hid hK
  have HQP := hid hQp
  have B0 := hid hB
  clear hK hB hQp
  obtain ⟨c, rfl⟩ := frame_form a 574 hF.sz hF.df
  have g2 : c 2 = .bool true := hF.e2
  have g10 : c 10 = v10 := hF.e10
  have g11 : c 11 = v11 := hF.e11
  have g15 : c 15 = .int .i64 (nz : Nat) := hF.e15
  have g16 : c 16 = v16 := hF.e16
  have g17 : c 17 = v17 := hF.e17
  have g21 : c 21 = .int .i64 (m : Nat) := hF.e21
  have g22 : c 22 = .pointer (some ⟨p, 0, none⟩) := hF.e22
  have g25 : c 25 = .int .i64 (n : Nat) := hx25
  have g26 : c 26 = .int .i32 0 := hx26
  clear hF hx25 hx26
  change Code.wp _ _ _ ⟨#[c 0, c 1, c 2, c 3, c 4, c 5, c 6, c 7, c 8, c 9, c 10, c 11, c 12, c 13, c 14, c 15, c 16, c 17, c 18, c 19, c 20, c 21, c 22, c 23, c 24, c 25, c 26, c 27, c 28, c 29, c 30, c 31, c 32, c 33, c 34, c 35, c 36, c 37, c 38, c 39, c 40, c 41, c 42, c 43, c 44, c 45, c 46, c 47, c 48, c 49, c 50, c 51, c 52, c 53, c 54, c 55, c 56, c 57, c 58, c 59, c 60, c 61, c 62, c 63, c 64, c 65, c 66, c 67, c 68, c 69, c 70, c 71, c 72, c 73, c 74, c 75, c 76, c 77, c 78, c 79, c 80, c 81, c 82, c 83, c 84, c 85, c 86, c 87, c 88, c 89, c 90, c 91, c 92, c 93, c 94, c 95, c 96, c 97, c 98, c 99, c 100, c 101, c 102, c 103, c 104, c 105, c 106, c 107, c 108, c 109, c 110, c 111, c 112, c 113, c 114, c 115, c 116, c 117, c 118, c 119, c 120, c 121, c 122, c 123, c 124, c 125, c 126, c 127, c 128, c 129, c 130, c 131, c 132, c 133, c 134, c 135, c 136, c 137, c 138, c 139, c 140, c 141, c 142, c 143, c 144, c 145, c 146, c 147, c 148, c 149, c 150, c 151, c 152, c 153, c 154, c 155, c 156, c 157, c 158, c 159, c 160, c 161, c 162, c 163, c 164, c 165, c 166, c 167, c 168, c 169, c 170, c 171, c 172, c 173, c 174, c 175, c 176, c 177, c 178, c 179, c 180, c 181, c 182, c 183, c 184, c 185, c 186, c 187, c 188, c 189, c 190, c 191, c 192, c 193, c 194, c 195, c 196, c 197, c 198, c 199, c 200, c 201, c 202, c 203, c 204, c 205, c 206, c 207, c 208, c 209, c 210, c 211, c 212, c 213, c 214, c 215, c 216, c 217, c 218, c 219, c 220, c 221, c 222, c 223, c 224, c 225, c 226, c 227, c 228, c 229, c 230, c 231, c 232, c 233, c 234, c 235, c 236, c 237, c 238, c 239, c 240, c 241, c 242, c 243, c 244, c 245, c 246, c 247, c 248, c 249, c 250, c 251, c 252, c 253, c 254, c 255, c 256, c 257, c 258, c 259, c 260, c 261, c 262, c 263, c 264, c 265, c 266, c 267, c 268, c 269, c 270, c 271, c 272, c 273, c 274, c 275, c 276, c 277, c 278, c 279, c 280, c 281, c 282, c 283, c 284, c 285, c 286, c 287, c 288, c 289, c 290, c 291, c 292, c 293, c 294, c 295, c 296, c 297, c 298, c 299, c 300, c 301, c 302, c 303, c 304, c 305, c 306, c 307, c 308, c 309, c 310, c 311, c 312, c 313, c 314, c 315, c 316, c 317, c 318, c 319, c 320, c 321, c 322, c 323, c 324, c 325, c 326, c 327, c 328, c 329, c 330, c 331, c 332, c 333, c 334, c 335, c 336, c 337, c 338, c 339, c 340, c 341, c 342, c 343, c 344, c 345, c 346, c 347, c 348, c 349, c 350, c 351, c 352, c 353, c 354, c 355, c 356, c 357, c 358, c 359, c 360, c 361, c 362, c 363, c 364, c 365, c 366, c 367, c 368, c 369, c 370, c 371, c 372, c 373, c 374, c 375, c 376, c 377, c 378, c 379, c 380, c 381, c 382, c 383, c 384, c 385, c 386, c 387, c 388, c 389, c 390, c 391, c 392, c 393, c 394, c 395, c 396, c 397, c 398, c 399, c 400, c 401, c 402, c 403, c 404, c 405, c 406, c 407, c 408, c 409, c 410, c 411, c 412, c 413, c 414, c 415, c 416, c 417, c 418, c 419, c 420, c 421, c 422, c 423, c 424, c 425, c 426, c 427, c 428, c 429, c 430, c 431, c 432, c 433, c 434, c 435, c 436, c 437, c 438, c 439, c 440, c 441, c 442, c 443, c 444, c 445, c 446, c 447, c 448, c 449, c 450, c 451, c 452, c 453, c 454, c 455, c 456, c 457, c 458, c 459, c 460, c 461, c 462, c 463, c 464, c 465, c 466, c 467, c 468, c 469, c 470, c 471, c 472, c 473, c 474, c 475, c 476, c 477, c 478, c 479, c 480, c 481, c 482, c 483, c 484, c 485, c 486, c 487, c 488, c 489, c 490, c 491, c 492, c 493, c 494, c 495, c 496, c 497, c 498, c 499, c 500, c 501, c 502, c 503, c 504, c 505, c 506, c 507, c 508, c 509, c 510, c 511, c 512, c 513, c 514, c 515, c 516, c 517, c 518, c 519, c 520, c 521, c 522, c 523, c 524, c 525, c 526, c 527, c 528, c 529, c 530, c 531, c 532, c 533, c 534, c 535, c 536, c 537, c 538, c 539, c 540, c 541, c 542, c 543, c 544, c 545, c 546, c 547, c 548, c 549, c 550, c 551, c 552, c 553, c 554, c 555, c 556, c 557, c 558, c 559, c 560, c 561, c 562, c 563, c 564, c 565, c 566, c 567, c 568, c 569, c 570, c 571, c 572, c 573], []⟩ _
  rw [g2, g10, g11, g15, g16, g17, g21, g22, g25, g26]
  clear g2 g10 g11 g15 g16 g17 g21 g22 g25 g26
  conv => arg 2; whnf
  have B7 : Hid (BK wz (.slice ta (nz + m) tc) nz m true p PB EB (3 * nz + 3 + 0 * dR true) (nz + 1) 0 (nz + 1) 0 w0) := by
    rw [Nat.zero_mul, Nat.add_zero]; exact B0.out
  clear B0
  go_wp2_with fail
  go_loopw [26, 27] (fun av jv wx => ∃ j n : Nat, j ≤ m ∧ n = 3 * nz + 3 + j * dR true ∧ av = .int .i32 j ∧ jv = .int .i64 j ∧ BK wz (.slice ta (nz + m) tc) nz m true p PB EB n (nz + 1) j (nz + 1) j wx) (fun _ j _ => m - (intOf j).toNat)
  case atStart => exact ⟨0, _, by omega, rfl, rfl, rfl, B7.out⟩
  case round =>
    clear B7
    obtain ⟨j, n6, hj6, hn6, rfl, rfl, hbk⟩ := hrel
    have hn62 : n6 ≤ 6200 := by
      have h3 : dR true = 3 := rfl
      rw [h3] at hn6; omega
    have HN6 := hid hn6
    by_cases hlt6 : j < m
    · have hno := i32_not (nz + j) (by omega)
      rw [Int.natCast_add] at hno
      have b6 : (j : Int) < (m : Int) := by omega
      have B1 := hid hbk
      clear hn6 hbk
      obtain ⟨s0, s1, c0, ow, nxt⟩ := B1.out.slots
      have X := hid (And.intro ow nxt)
      have hsz := B1.out.size.1
      clear ow nxt B1
      go_wp2_with (first | (at_builtin; refine wpList_append_lies _ rfl (.tmp 335) (.tmp 343) 36 rfl (wz.heap.size + 3) 42 i42 _ 3 12 Yba.underlying36 HI42.out.1 HI42.out.2.1 HI42.out.2.2.1 HI42.out.2.2.2 rfl (by decide) (.slice s0 (n6) s1) (n6) (rowT (slF nz m true) (n6)) ?c0_0 (X.out.1.alloc _) ⟨wr.heap.size, 0, none⟩ 1 1 [.int .i32 (-((nz : Int) + (j : Int)) - 1), .int .i32 1, .int .i32 (j : Int)] ?c0_8 ?c0_1 ?c0_2 ?c0_3 ?c0_4 ?c0_5 ?c0_6 ?c0_7 _ rfl ?_))
      try (case c0_0 => (rfl))
      try (case c0_8 => (simp [Act.eval]))
      try (case c0_1 => (rfl))
      try (case c0_2 => (exact World.news_of_block (t := 42) (fr := (0, 0)) (cs := #[.int .i32 (-((nz : Int) + (j : Int)) - 1), .int .i32 1, .int .i32 (j : Int)]) (Deep.blk_alloc_new wr _)))
      try (case c0_3 => (first | rfl | (intro u hu; simp at hu; rcases hu with rfl | rfl | rfl <;> rfl)))
      try (case c0_4 => (omega))
      try (case c0_5 => (first | omega | (unfold maxLen; omega) | (simp [maxLen]; omega)))
      try (case c0_6 => (first | omega | (simp; omega)))
      try (case c0_7 => (first | omega | (simp; omega)))
      intro g_c0_ cap_c0_ wa own_c0_ gr_c0_ at_c0_ lt_c0_
      obtain ⟨q0, q1, hb_c0_⟩ := X.out.2 _ _ _ _ _ ((Below.refl _ wr).alloc (Nat.le_refl _) _) gr_c0_ (at_c0_.imp id (fun e => by simpa using e)) own_c0_ (by rw [HN6.out]; have h := slB nz m true j 0 hlt6 (by decide); simpa using h)
      have B_c0_ := hid hb_c0_
      clear own_c0_ gr_c0_ at_c0_ lt_c0_ hb_c0_ X c0 hsz
      go_upto_region 59 with fail
      clear q0 q1
      generalize wa.setCell ⟨p, 0, none⟩ (.slice (some ⟨g_c0_, 0, none⟩) (n6 + 1) cap_c0_) = wb at *
      obtain ⟨s0, s1, c0, ow, nxt⟩ := B_c0_.out.slots
      have X := hid (And.intro ow nxt)
      have hsz := B_c0_.out.size.1
      clear ow nxt B_c0_
      go_wp2_with (first | (at_builtin; refine wpList_append_lies _ rfl (.tmp 352) (.tmp 355) 36 rfl (wz.heap.size + 3) 42 i42 _ 3 12 Yba.underlying36 HI42.out.1 HI42.out.2.1 HI42.out.2.2.1 HI42.out.2.2.2 rfl (by decide) (.slice s0 (n6 + 1) s1) (n6 + 1) (rowT (slF nz m true) (n6 + 1)) ?c1_0 (X.out.1.alloc _) ⟨wb.heap.size, 0, none⟩ 1 1 [.int .i32 1, .int .i32 1, .int .i32 (j : Int)] ?c1_8 ?c1_1 ?c1_2 ?c1_3 ?c1_4 ?c1_5 ?c1_6 ?c1_7 _ rfl ?_))
      try (case c1_0 => (rfl))
      try (case c1_8 => (simp [Act.eval]))
      try (case c1_1 => (rfl))
      try (case c1_2 => (exact World.news_of_block (t := 42) (fr := (0, 0)) (cs := #[.int .i32 1, .int .i32 1, .int .i32 (j : Int)]) (Deep.blk_alloc_new wb _)))
      try (case c1_3 => (first | rfl | (intro u hu; simp at hu; rcases hu with rfl | rfl | rfl <;> rfl)))
      try (case c1_4 => (omega))
      try (case c1_5 => (first | omega | (unfold maxLen; omega) | (simp [maxLen]; omega)))
      try (case c1_6 => (first | omega | (simp; omega)))
      try (case c1_7 => (first | omega | (simp; omega)))
      intro g_c1_ cap_c1_ wc2 own_c1_ gr_c1_ at_c1_ lt_c1_
      obtain ⟨q0, q1, hb_c1_⟩ := X.out.2 _ _ _ _ _ ((Below.refl _ wb).alloc (Nat.le_refl _) _) gr_c1_ (at_c1_.imp id (fun e => by simpa using e)) own_c1_ (by rw [HN6.out]; exact slB nz m true j 1 hlt6 (by decide))
      have B_c1_ := hid hb_c1_
      clear own_c1_ gr_c1_ at_c1_ lt_c1_ hb_c1_ X c0 hsz
      go_upto_region 60 with fail
      clear q0 q1
      generalize wc2.setCell ⟨p, 0, none⟩ (.slice (some ⟨g_c1_, 0, none⟩) (n6 + 1 + 1) cap_c1_) = wd2 at *
      obtain ⟨s0, s1, c0, ow, nxt⟩ := B_c1_.out.slots
      have X := hid (And.intro ow nxt)
      have hsz := B_c1_.out.size.1
      clear ow nxt B_c1_
      go_wp2_with (first | (at_builtin; refine wpList_append_lies _ rfl (.tmp 369) (.tmp 372) 36 rfl (wz.heap.size + 3) 42 i42 _ 3 12 Yba.underlying36 HI42.out.1 HI42.out.2.1 HI42.out.2.2.1 HI42.out.2.2.2 rfl (by decide) (.slice s0 (n6 + 1 + 1) s1) (n6 + 1 + 1) (rowT (slF nz m true) (n6 + 1 + 1)) ?c2_0 (X.out.1.alloc _) ⟨wd2.heap.size, 0, none⟩ 1 1 [.int .i32 (-2147483648), .int .i32 1, .int .i32 (j : Int)] ?c2_8 ?c2_1 ?c2_2 ?c2_3 ?c2_4 ?c2_5 ?c2_6 ?c2_7 _ rfl ?_))
      try (case c2_0 => (rfl))
      try (case c2_8 => (simp [Act.eval]))
      try (case c2_1 => (rfl))
      try (case c2_2 => (exact World.news_of_block (t := 42) (fr := (0, 0)) (cs := #[.int .i32 (-2147483648), .int .i32 1, .int .i32 (j : Int)]) (Deep.blk_alloc_new wd2 _)))
      try (case c2_3 => (first | rfl | (intro u hu; simp at hu; rcases hu with rfl | rfl | rfl <;> rfl)))
      try (case c2_4 => (omega))
      try (case c2_5 => (first | omega | (unfold maxLen; omega) | (simp [maxLen]; omega)))
      try (case c2_6 => (first | omega | (simp; omega)))
      try (case c2_7 => (first | omega | (simp; omega)))
      intro g_c2_ cap_c2_ we own_c2_ gr_c2_ at_c2_ lt_c2_
      obtain ⟨q0, q1, hb_c2_⟩ := X.out.2 _ _ _ _ _ ((Below.refl _ wd2).alloc (Nat.le_refl _) _) gr_c2_ (at_c2_.imp id (fun e => by simpa using e)) own_c2_ (by rw [HN6.out]; exact slB nz m true j 2 hlt6 (by decide))
      have B_c2_ := hid hb_c2_
      clear own_c2_ gr_c2_ at_c2_ lt_c2_ hb_c2_ X c0 hsz
      go_upto_region 62 with fail
      clear q0 q1
      generalize we.setCell ⟨p, 0, none⟩ (.slice (some ⟨g_c2_, 0, none⟩) (n6 + 1 + 1 + 1) cap_c2_) = wf at *
      go_cut [] from 320 to 405 (fun wx => BK wz (.slice ta (nz + m) tc) nz m true p PB EB (n6 + 3) (nz + 1) (j + 1) (nz + 1) j wx)
      case first =>
        obtain ⟨va, vc, v1, v2, ow, nxt⟩ := B_c2_.out.prods 1 (by omega) (j) rfl
        have HOA : Hid (((wf.drew.alloc (.cells #[Value.int .i32 (n6 : Int)] 21))).ownsRow (wz.heap.size + 3) 21 1 (.slice va (j) vc) (j) (rowT (stL nz true 1) j)) := owns_below ow (below_drewN ((Below.refl _ wf).alloc (Nat.le_refl _) _) 1)
        have HNW : Hid (∀ i u, [Value.int .i32 (n6 : Int)][i]? = some u → (wf.drew.alloc (.cells #[Value.int .i32 (n6 : Int)] 21)).cell? ((⟨wf.heap.size, 0, none⟩ : Addr).add i) = some u) := World.news_of_block (t := 21) (fr := (0, 0)) (cs := #[Value.int .i32 (n6 : Int)]) (Deep.blk_alloc_new wf _)
        have H1C : Hid (∀ u ∈ [Value.int .i32 (n6 : Int)], u.oneCell' = true) := fun u hu => by simp at hu; subst hu; rfl
        have hhx : stL nz true 1 j = [.int .i32 (n6 : Int)] := by rw [HN6.out]; rfl
        have HHX := hid hhx
        clear hhx
        have vl1 : p < wf.heap.size := block_lt_of_cell v1
        have vl2 : PB < wf.heap.size := block_lt_of_cell v2
        have NX := hid nxt
        have hsz := B_c2_.out.size.1
        clear ow nxt B_c2_
        refine wp_region_held_drew (S := (fun w' => w'.cell? ⟨p, 1, none⟩ = some (.slice (some ⟨PB, 0, none⟩) 2 2))) (by kernel_rfl) (by go_keep) (fun hHeld => ?_)
        refine take_at 0 (v := ?_) rfl (by kernel_rfl) (by kernel_rfl) (by kernel_rfl) (fun c a w h => HQP.out c a _ _ w h) (by rfl) ?_ hHeld ?_
        rotate_left
        · (intro w hSw; (try dsimp only at hSw); go_simp; try with_reducible rfl)
        try simp only [Act.put, List.setIfInBounds_toArray, List.set_cons_zero, List.set_cons_succ]
        refine take_at 1 (v := ?_) rfl (by kernel_rfl) (by kernel_rfl) (by kernel_rfl) (fun c a w h => HQP.out c a _ _ w h) (by rfl) ?_ hHeld ?_
        rotate_left
        · (intro w hSw; (try dsimp only at hSw); go_simp; try with_reducible rfl)
        try simp only [Act.put, List.setIfInBounds_toArray, List.set_cons_zero, List.set_cons_succ]
        refine take_at 2 (v := ?_) rfl (by kernel_rfl) (by kernel_rfl) (by kernel_rfl) (fun c a w h => HQP.out c a _ _ w h) (by rfl) ?_ hHeld ?_
        rotate_left
        · (intro w hSw; (try dsimp only at hSw); go_simp; try with_reducible rfl)
        try simp only [Act.put, List.setIfInBounds_toArray, List.set_cons_zero, List.set_cons_succ]
        refine take_at 3 (v := ?_) rfl (by kernel_rfl) (by kernel_rfl) (by kernel_rfl) (fun c a w h => HQP.out c a _ _ w h) (by rfl) ?_ hHeld ?_
        rotate_left
        · (intro w hSw; (try dsimp only at hSw); go_simp; try with_reducible rfl)
        try simp only [Act.put, List.setIfInBounds_toArray, List.set_cons_zero, List.set_cons_succ]
        refine take_at 4 (v := ?_) rfl (by kernel_rfl) (by kernel_rfl) (by kernel_rfl) (fun c a w h => HQP.out c a _ _ w h) (by rfl) ?_ hHeld ?_
        rotate_left
        · (intro w hSw; (try dsimp only at hSw); go_simp; try with_reducible rfl)
        try simp only [Act.put, List.setIfInBounds_toArray, List.set_cons_zero, List.set_cons_succ]
        refine take_at 5 (v := ?_) rfl (by kernel_rfl) (by kernel_rfl) (by kernel_rfl) (fun c a w h => HQP.out c a _ _ w h) (by rfl) ?_ hHeld ?_
        rotate_left
        · (intro w hSw; (try dsimp only at hSw); go_simp; try with_reducible rfl)
        try simp only [Act.put, List.setIfInBounds_toArray, List.set_cons_zero, List.set_cons_succ]
        refine take_at 6 (v := ?_) rfl (by kernel_rfl) (by kernel_rfl) (by kernel_rfl) (fun c a w h => HQP.out c a _ _ w h) (by rfl) ?_ hHeld ?_
        rotate_left
        · (intro w hSw; (try dsimp only at hSw); go_simp; try with_reducible rfl)
        try simp only [Act.put, List.setIfInBounds_toArray, List.set_cons_zero, List.set_cons_succ]
        refine take_at 7 (v := ?_) rfl (by kernel_rfl) (by kernel_rfl) (by kernel_rfl) (fun c a w h => HQP.out c a _ _ w h) (by rfl) ?_ hHeld ?_
        rotate_left
        · (intro w hSw; (try dsimp only at hSw); go_simp; try with_reducible rfl)
        try simp only [Act.put, List.setIfInBounds_toArray, List.set_cons_zero, List.set_cons_succ]
        refine take_at 8 (v := ?_) rfl (by kernel_rfl) (by kernel_rfl) (by kernel_rfl) (fun c a w h => HQP.out c a _ _ w h) (by rfl) ?_ hHeld ?_
        rotate_left
        · (intro w hSw; (try dsimp only at hSw); go_simp; try with_reducible rfl)
        try simp only [Act.put, List.setIfInBounds_toArray, List.set_cons_zero, List.set_cons_succ]
        refine take_at 10 (v := ?_) rfl (by kernel_rfl) (by kernel_rfl) (by kernel_rfl) (fun c a w h => HQP.out c a _ _ w h) (by rfl) ?_ hHeld ?_
        rotate_left
        · (intro w hSw; (try dsimp only at hSw); go_simp; try with_reducible rfl)
        try simp only [Act.put, List.setIfInBounds_toArray, List.set_cons_zero, List.set_cons_succ]
        refine two_at 9 11 (by kernel_rfl) rfl rfl (fun K hK => ?_) (fun K hK => ?_)
        · go_simp
          refine hK.out _ _ (by go_keep) (fun hHeld => ?_)
          clear hK K
          try simp only [Act.put, List.setIfInBounds_toArray, List.set_cons_zero, List.set_cons_succ]
          refine one_at 11 (by kernel_rfl) rfl (fun K hK => ?_)
          go_simp
          refine hK.out _ _ (by go_keep) (fun hHeld => ?_)
          clear hK K
          try simp only [Act.put, List.setIfInBounds_toArray, List.set_cons_zero, List.set_cons_succ]
          refine one_at 12 (by kernel_rfl) rfl (fun K hK => ?_)
          refine step_append_lies _ (by rfl) (.tmp 385) (.tmp 387) 27 (by rfl) (wz.heap.size + 3) 21 i21 _ 1 4 Yba.underlying27 HI21.out.1 HI21.out.2.1 HI21.out.2.2.1 HI21.out.2.2.2 rfl (by decide) (.slice va (j) vc) (j) (rowT (stL nz true 1) j) (by rfl) HOA.out ⟨wf.heap.size, 0, none⟩ 1 1 [Value.int .i32 (n6 : Int)] (by rfl) (by rfl) HNW.out H1C.out (by decide) (by unfold maxLen; omega) (by omega) (by simp; omega) _ rfl ?_
          intro g2 cap2 w3 ho hg hat hlt3
          obtain ⟨q0, q1, q2, q3⟩ := NX.out _ _ _ _ _ (below_drewN ((Below.refl _ wf).alloc (Nat.le_refl _) _) 1) hg (hat.imp id (fun e => by simpa using e)) ho HHX.out
          obtain ⟨_, _, q4, _, _, _⟩ := q3.prods 1 (by omega) (j + 1) rfl
          have B5 := hid q3
          clear hg ho hat hlt3 q3
          refine hK.out _ _ (q0) (fun hHeld => ?_)
          clear hK K
          try simp only [Act.put, List.setIfInBounds_toArray, List.set_cons_zero, List.set_cons_succ]
          refine take_at 13 (v := ?_) rfl (by kernel_rfl) (by kernel_rfl) (by kernel_rfl) (fun c a w h => HQP.out c a _ _ w h) (by rfl) ?_ hHeld ?_
          rotate_left
          · (intro w hSw; (try dsimp only at hSw); go_simp; try with_reducible rfl)
          try simp only [Act.put, List.setIfInBounds_toArray, List.set_cons_zero, List.set_cons_succ]
          refine one_at 14 (by kernel_rfl) rfl (fun K hK => ?_)
          go_simp
          refine hK.out _ _ (q4) (fun hHeld => ?_)
          clear hK K
          try simp only [Act.put, List.setIfInBounds_toArray, List.set_cons_zero, List.set_cons_succ]
          refine wpAnyH_done (by kernel_rfl) ?_ _
          clear HOA HNW H1C HHX NX q0 q1 q2 q4 hHeld
          go_wp2_with fail
          go_meet
          exact B5.out
        · go_simp
          refine hK.out _ _ (by go_keep) (fun hHeld => ?_)
          clear hK K
          try simp only [Act.put, List.setIfInBounds_toArray, List.set_cons_zero, List.set_cons_succ]
          refine one_at 9 (by kernel_rfl) rfl (fun K hK => ?_)
          go_simp
          refine hK.out _ _ (by go_keep) (fun hHeld => ?_)
          clear hK K
          try simp only [Act.put, List.setIfInBounds_toArray, List.set_cons_zero, List.set_cons_succ]
          refine one_at 12 (by kernel_rfl) rfl (fun K hK => ?_)
          refine step_append_lies _ (by rfl) (.tmp 385) (.tmp 387) 27 (by rfl) (wz.heap.size + 3) 21 i21 _ 1 4 Yba.underlying27 HI21.out.1 HI21.out.2.1 HI21.out.2.2.1 HI21.out.2.2.2 rfl (by decide) (.slice va (j) vc) (j) (rowT (stL nz true 1) j) (by rfl) HOA.out ⟨wf.heap.size, 0, none⟩ 1 1 [Value.int .i32 (n6 : Int)] (by rfl) (by rfl) HNW.out H1C.out (by decide) (by unfold maxLen; omega) (by omega) (by simp; omega) _ rfl ?_
          intro g2 cap2 w3 ho hg hat hlt3
          obtain ⟨q0, q1, q2, q3⟩ := NX.out _ _ _ _ _ (below_drewN ((Below.refl _ wf).alloc (Nat.le_refl _) _) 1) hg (hat.imp id (fun e => by simpa using e)) ho HHX.out
          obtain ⟨_, _, q4, _, _, _⟩ := q3.prods 1 (by omega) (j + 1) rfl
          have B5 := hid q3
          clear hg ho hat hlt3 q3
          refine hK.out _ _ (q0) (fun hHeld => ?_)
          clear hK K
          try simp only [Act.put, List.setIfInBounds_toArray, List.set_cons_zero, List.set_cons_succ]
          refine take_at 13 (v := ?_) rfl (by kernel_rfl) (by kernel_rfl) (by kernel_rfl) (fun c a w h => HQP.out c a _ _ w h) (by rfl) ?_ hHeld ?_
          rotate_left
          · (intro w hSw; (try dsimp only at hSw); go_simp; try with_reducible rfl)
          try simp only [Act.put, List.setIfInBounds_toArray, List.set_cons_zero, List.set_cons_succ]
          refine one_at 14 (by kernel_rfl) rfl (fun K hK => ?_)
          go_simp
          refine hK.out _ _ (q4) (fun hHeld => ?_)
          clear hK K
          try simp only [Act.put, List.setIfInBounds_toArray, List.set_cons_zero, List.set_cons_succ]
          refine wpAnyH_done (by kernel_rfl) ?_ _
          clear HOA HNW H1C HHX NX q0 q1 q2 q4 hHeld
          go_wp2_with fail
          go_meet
          exact B5.out
      case rest =>
        have B6 := hid hcut
        clear hcut B_c2_
        go_upto_region 63 with fail
        obtain ⟨va, vc, v1, v2, ow, nxt⟩ := B6.out.ends 1 (by omega) (j) rfl
        have HOA : Hid (((wc.drew.alloc (.cells #[Value.int .i32 ((n6 : Int) + 1 + 1)] 21))).ownsRow (wz.heap.size + 3) 21 1 (.slice va (j) vc) (j) (rowT (enL nz m true 1) j)) := owns_below ow (below_drewN ((Below.refl _ wc).alloc (Nat.le_refl _) _) 1)
        have HNW : Hid (∀ i u, [Value.int .i32 ((n6 : Int) + 1 + 1)][i]? = some u → (wc.drew.alloc (.cells #[Value.int .i32 ((n6 : Int) + 1 + 1)] 21)).cell? ((⟨wc.heap.size, 0, none⟩ : Addr).add i) = some u) := World.news_of_block (t := 21) (fr := (0, 0)) (cs := #[Value.int .i32 ((n6 : Int) + 1 + 1)]) (Deep.blk_alloc_new wc _)
        have H1C : Hid (∀ u ∈ [Value.int .i32 ((n6 : Int) + 1 + 1)], u.oneCell' = true) := fun u hu => by simp at hu; subst hu; rfl
        have hhx : enL nz m true 1 j = [.int .i32 ((n6 : Int) + 1 + 1)] := by rw [HN6.out]; simp [enL, enF, hlt6, dR]; try omega
        have HHX := hid hhx
        clear hhx
        have vl1 : p < wc.heap.size := block_lt_of_cell v1
        have vl2 : EB < wc.heap.size := block_lt_of_cell v2
        have NX := hid nxt
        have hsz := B6.out.size.1
        clear ow nxt B6
        refine wp_region_held_drew (S := (fun w' => w'.cell? ⟨p, 2, none⟩ = some (.slice (some ⟨EB, 0, none⟩) 2 2))) (by kernel_rfl) (by go_keep) (fun hHeld => ?_)
        refine take_at 0 (v := ?_) rfl (by kernel_rfl) (by kernel_rfl) (by kernel_rfl) (fun c a w h => HQP.out c a _ _ w h) (by rfl) ?_ hHeld ?_
        rotate_left
        · (intro w hSw; (try dsimp only at hSw); go_simp; try with_reducible rfl)
        try simp only [Act.put, List.setIfInBounds_toArray, List.set_cons_zero, List.set_cons_succ]
        refine take_at 1 (v := ?_) rfl (by kernel_rfl) (by kernel_rfl) (by kernel_rfl) (fun c a w h => HQP.out c a _ _ w h) (by rfl) ?_ hHeld ?_
        rotate_left
        · (intro w hSw; (try dsimp only at hSw); go_simp; try with_reducible rfl)
        try simp only [Act.put, List.setIfInBounds_toArray, List.set_cons_zero, List.set_cons_succ]
        refine take_at 2 (v := ?_) rfl (by kernel_rfl) (by kernel_rfl) (by kernel_rfl) (fun c a w h => HQP.out c a _ _ w h) (by rfl) ?_ hHeld ?_
        rotate_left
        · (intro w hSw; (try dsimp only at hSw); go_simp; try with_reducible rfl)
        try simp only [Act.put, List.setIfInBounds_toArray, List.set_cons_zero, List.set_cons_succ]
        refine take_at 3 (v := ?_) rfl (by kernel_rfl) (by kernel_rfl) (by kernel_rfl) (fun c a w h => HQP.out c a _ _ w h) (by rfl) ?_ hHeld ?_
        rotate_left
        · (intro w hSw; (try dsimp only at hSw); go_simp; try with_reducible rfl)
        try simp only [Act.put, List.setIfInBounds_toArray, List.set_cons_zero, List.set_cons_succ]
        refine take_at 4 (v := ?_) rfl (by kernel_rfl) (by kernel_rfl) (by kernel_rfl) (fun c a w h => HQP.out c a _ _ w h) (by rfl) ?_ hHeld ?_
        rotate_left
        · (intro w hSw; (try dsimp only at hSw); go_simp; try with_reducible rfl)
        try simp only [Act.put, List.setIfInBounds_toArray, List.set_cons_zero, List.set_cons_succ]
        refine take_at 5 (v := ?_) rfl (by kernel_rfl) (by kernel_rfl) (by kernel_rfl) (fun c a w h => HQP.out c a _ _ w h) (by rfl) ?_ hHeld ?_
        rotate_left
        · (intro w hSw; (try dsimp only at hSw); go_simp; try with_reducible rfl)
        try simp only [Act.put, List.setIfInBounds_toArray, List.set_cons_zero, List.set_cons_succ]
        refine take_at 6 (v := ?_) rfl (by kernel_rfl) (by kernel_rfl) (by kernel_rfl) (fun c a w h => HQP.out c a _ _ w h) (by rfl) ?_ hHeld ?_
        rotate_left
        · (intro w hSw; (try dsimp only at hSw); go_simp; try with_reducible rfl)
        try simp only [Act.put, List.setIfInBounds_toArray, List.set_cons_zero, List.set_cons_succ]
        refine take_at 7 (v := ?_) rfl (by kernel_rfl) (by kernel_rfl) (by kernel_rfl) (fun c a w h => HQP.out c a _ _ w h) (by rfl) ?_ hHeld ?_
        rotate_left
        · (intro w hSw; (try dsimp only at hSw); go_simp; try with_reducible rfl)
        try simp only [Act.put, List.setIfInBounds_toArray, List.set_cons_zero, List.set_cons_succ]
        refine take_at 8 (v := ?_) rfl (by kernel_rfl) (by kernel_rfl) (by kernel_rfl) (fun c a w h => HQP.out c a _ _ w h) (by rfl) ?_ hHeld ?_
        rotate_left
        · (intro w hSw; (try dsimp only at hSw); go_simp; try with_reducible rfl)
        try simp only [Act.put, List.setIfInBounds_toArray, List.set_cons_zero, List.set_cons_succ]
        refine take_at 10 (v := ?_) rfl (by kernel_rfl) (by kernel_rfl) (by kernel_rfl) (fun c a w h => HQP.out c a _ _ w h) (by rfl) ?_ hHeld ?_
        rotate_left
        · (intro w hSw; (try dsimp only at hSw); go_simp; try with_reducible rfl)
        try simp only [Act.put, List.setIfInBounds_toArray, List.set_cons_zero, List.set_cons_succ]
        refine two_at 9 11 (by kernel_rfl) rfl rfl (fun K hK => ?_) (fun K hK => ?_)
        · go_simp
          refine hK.out _ _ (by go_keep) (fun hHeld => ?_)
          clear hK K
          try simp only [Act.put, List.setIfInBounds_toArray, List.set_cons_zero, List.set_cons_succ]
          refine one_at 11 (by kernel_rfl) rfl (fun K hK => ?_)
          go_simp
          refine hK.out _ _ (by go_keep) (fun hHeld => ?_)
          clear hK K
          try simp only [Act.put, List.setIfInBounds_toArray, List.set_cons_zero, List.set_cons_succ]
          refine one_at 12 (by kernel_rfl) rfl (fun K hK => ?_)
          refine step_append_lies _ (by rfl) (.tmp 399) (.tmp 401) 27 (by rfl) (wz.heap.size + 3) 21 i21 _ 1 4 Yba.underlying27 HI21.out.1 HI21.out.2.1 HI21.out.2.2.1 HI21.out.2.2.2 rfl (by decide) (.slice va (j) vc) (j) (rowT (enL nz m true 1) j) (by rfl) HOA.out ⟨wc.heap.size, 0, none⟩ 1 1 [Value.int .i32 ((n6 : Int) + 1 + 1)] (by rfl) (by rfl) HNW.out H1C.out (by decide) (by unfold maxLen; omega) (by omega) (by simp; omega) _ rfl ?_
          intro g2 cap2 w3 ho hg hat hlt3
          obtain ⟨q0, q1, q2, q3⟩ := NX.out _ _ _ _ _ (below_drewN ((Below.refl _ wc).alloc (Nat.le_refl _) _) 1) hg (hat.imp id (fun e => by simpa using e)) ho HHX.out
          obtain ⟨_, _, q4, _, _, _⟩ := q3.ends 1 (by omega) (j + 1) rfl
          have B5 := hid q3
          clear hg ho hat hlt3 q3
          refine hK.out _ _ (q0) (fun hHeld => ?_)
          clear hK K
          try simp only [Act.put, List.setIfInBounds_toArray, List.set_cons_zero, List.set_cons_succ]
          refine take_at 13 (v := ?_) rfl (by kernel_rfl) (by kernel_rfl) (by kernel_rfl) (fun c a w h => HQP.out c a _ _ w h) (by rfl) ?_ hHeld ?_
          rotate_left
          · (intro w hSw; (try dsimp only at hSw); go_simp; try with_reducible rfl)
          try simp only [Act.put, List.setIfInBounds_toArray, List.set_cons_zero, List.set_cons_succ]
          refine one_at 14 (by kernel_rfl) rfl (fun K hK => ?_)
          go_simp
          refine hK.out _ _ (q4) (fun hHeld => ?_)
          clear hK K
          try simp only [Act.put, List.setIfInBounds_toArray, List.set_cons_zero, List.set_cons_succ]
          refine wpAnyH_done (by kernel_rfl) ?_ _
          clear HOA HNW H1C HHX NX q0 q1 q2 q4 hHeld
          go_wp2_with fail
          refine ⟨⟨j + 1, n6 + 3, by omega, by have := HN6.out; have h3 : dR true = 3 := rfl; rw [h3] at this ⊢; omega, by go_num, by go_num, B5.out⟩, by simp [intOf]; omega⟩
        · go_simp
          refine hK.out _ _ (by go_keep) (fun hHeld => ?_)
          clear hK K
          try simp only [Act.put, List.setIfInBounds_toArray, List.set_cons_zero, List.set_cons_succ]
          refine one_at 9 (by kernel_rfl) rfl (fun K hK => ?_)
          go_simp
          refine hK.out _ _ (by go_keep) (fun hHeld => ?_)
          clear hK K
          try simp only [Act.put, List.setIfInBounds_toArray, List.set_cons_zero, List.set_cons_succ]
          refine one_at 12 (by kernel_rfl) rfl (fun K hK => ?_)
          refine step_append_lies _ (by rfl) (.tmp 399) (.tmp 401) 27 (by rfl) (wz.heap.size + 3) 21 i21 _ 1 4 Yba.underlying27 HI21.out.1 HI21.out.2.1 HI21.out.2.2.1 HI21.out.2.2.2 rfl (by decide) (.slice va (j) vc) (j) (rowT (enL nz m true 1) j) (by rfl) HOA.out ⟨wc.heap.size, 0, none⟩ 1 1 [Value.int .i32 ((n6 : Int) + 1 + 1)] (by rfl) (by rfl) HNW.out H1C.out (by decide) (by unfold maxLen; omega) (by omega) (by simp; omega) _ rfl ?_
          intro g2 cap2 w3 ho hg hat hlt3
          obtain ⟨q0, q1, q2, q3⟩ := NX.out _ _ _ _ _ (below_drewN ((Below.refl _ wc).alloc (Nat.le_refl _) _) 1) hg (hat.imp id (fun e => by simpa using e)) ho HHX.out
          obtain ⟨_, _, q4, _, _, _⟩ := q3.ends 1 (by omega) (j + 1) rfl
          have B5 := hid q3
          clear hg ho hat hlt3 q3
          refine hK.out _ _ (q0) (fun hHeld => ?_)
          clear hK K
          try simp only [Act.put, List.setIfInBounds_toArray, List.set_cons_zero, List.set_cons_succ]
          refine take_at 13 (v := ?_) rfl (by kernel_rfl) (by kernel_rfl) (by kernel_rfl) (fun c a w h => HQP.out c a _ _ w h) (by rfl) ?_ hHeld ?_
          rotate_left
          · (intro w hSw; (try dsimp only at hSw); go_simp; try with_reducible rfl)
          try simp only [Act.put, List.setIfInBounds_toArray, List.set_cons_zero, List.set_cons_succ]
          refine one_at 14 (by kernel_rfl) rfl (fun K hK => ?_)
          go_simp
          refine hK.out _ _ (q4) (fun hHeld => ?_)
          clear hK K
          try simp only [Act.put, List.setIfInBounds_toArray, List.set_cons_zero, List.set_cons_succ]
          refine wpAnyH_done (by kernel_rfl) ?_ _
          clear HOA HNW H1C HHX NX q0 q1 q2 q4 hHeld
          go_wp2_with fail
          refine ⟨⟨j + 1, n6 + 3, by omega, by have := HN6.out; have h3 : dR true = 3 := rfl; rw [h3] at this ⊢; omega, by go_num, by go_num, B5.out⟩, by simp [intOf]; omega⟩
    · have hjm : m = j := by omega
      subst hjm
      have P1 : Hid (BK wz (.slice ta (nz + m) tc) nz m true p PB EB (3 * nz + 3 + m * dR true) (nz + 1) m (nz + 1) m wr) := by
        have h := hbk
        rw [hn6] at h; exact h
      clear hn6 hbk HN6 hn62
      go_wp2_with fail
      exact HK.out _ _ ⟨rfl, rfl, rfl, rfl, rfl, rfl, rfl, rfl, rfl, rfl⟩ rfl rfl P1.out
end Go.Proofs.Ybulkdamm
