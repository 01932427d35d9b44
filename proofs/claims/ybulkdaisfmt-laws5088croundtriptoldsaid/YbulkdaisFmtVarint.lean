import Derived.Test.YbulkdaisFmtRead
import Derived.Deep.RegionWith
namespace Go.Proofs.YbulkdaisFmt
open Go.RowKit

theorem method_read (a : Addr) (w : World) : (method 187 30 (.pointer (some a)) "ReadByte").run Ybaf.prog w = .ok (32, .pointer (some a)) w := by kernel_rfl

theorem Ctx.drewN {w : World} {R g n cap : Nat} {bs : List Nat} {aU aE : Addr} {i : Nat} (h : Ctx w R g n cap bs aU aE i) (k : Nat) : Ctx (w.drewN k) R g n cap bs aU aE i :=
  h.step (grownBy_drewN (grownBy_refl w _) k) h.rd

theorem comp62 : (Ybaf.prog.info? 62).map (fun i => i.comparable) = some true := by kernel_rfl
theorem size64 : (Ybaf.prog.info? 64).map (fun i => i.size) = some 1 := by kernel_rfl

theorem drop_head {bs : List Nat} {p x : Nat} {r : List Nat} (h : bs.drop p = x :: r) : p < bs.length ∧ bs.getD p 0 = x ∧ bs.drop (p + 1) = r := by
  have h1 : p < bs.length := by
    rcases Nat.lt_or_ge p bs.length with h2 | h2
    · exact h2
    · rw [List.drop_eq_nil_of_le h2] at h; cases h
  rw [List.drop_eq_getElem_cons h1] at h
  injection h with h2 h3
  exact ⟨h1, by simp [h1, h2], h3⟩

theorem readByte_at {R g n cap : Nat} {bs : List Nat} {aU aE : Addr} {i : Nat} {w : World} (h : Ctx w R g n cap bs aU aE i) (x : Nat) (r : List Nat) (hd : bs.drop i = x :: r) :
    Calls Ybaf.prog 32 #[.pointer (some ⟨R, 0, none⟩)] w fun e w' => e = .returned (.tuple #[.int .u8 x, .nilIface]) ∧ w.grownBy w' (some R) ∧ Ctx w' R g n cap bs aU aE (i + 1) := by
  obtain ⟨h1, h2, _⟩ := drop_head hd
  have := readByte_ok h (by rw [h.nlen]; exact h1)
  rw [h2] at this
  exact this

/-- 'v |= uint64(c & 0x7f) << shift', as the walk writes it. -/
theorem or_acc (a c k : Nat) (ha : a < 128 ^ k) (hc : c < 256) (hk : k ≤ 4) :
    bits BinOp.or IntKind.u64 (a : Int) (IntKind.u64.wrap (IntKind.u64.wrap (bits BinOp.and IntKind.u8 (c : Int) 127) * 2 ^ (7 * k))) = ((a + 128 ^ k * (c % 128) : Nat) : Int) := by
  have h1 : bits BinOp.and IntKind.u8 (c : Int) 127 = ((c % 128 : Nat) : Int) := by
    have := u8_and_nat c 127 hc (by omega)
    rw [nat_mask7] at this
    exact this
  have hw : ∀ n : Int, IntKind.u64.wrap n = n % 18446744073709551616 := fun n => by simp [IntKind.wrap, IntKind.bits, IntKind.signed]
  have h2 : (2 : Int) ^ (7 * k) = ((128 ^ k : Nat) : Int) := by
    rw [Int.pow_mul]; simp
  have hp : 128 ^ k ≤ 268435456 := by
    have : (128 : Nat) ^ k ≤ 128 ^ 4 := Nat.pow_le_pow_right (by omega) hk
    simpa using this
  have h3 : 128 ^ k * (c % 128) ≤ 268435456 * 127 := Nat.mul_le_mul hp (by omega)
  have h4 : IntKind.u64.wrap (IntKind.u64.wrap ((c % 128 : Nat) : Int) * ((128 ^ k : Nat) : Int)) = ((128 ^ k * (c % 128) : Nat) : Int) := by
    have e1 : IntKind.u64.wrap ((c % 128 : Nat) : Int) = ((c % 128 : Nat) : Int) := by rw [hw]; omega
    rw [e1, ← Int.natCast_mul, Nat.mul_comm, hw]
    generalize 128 ^ k * (c % 128) = z at h3
    omega
  rw [h1, h2, h4, u64_or_nat _ _ (by omega) (by omega)]
  congr 1
  rw [Nat.or_comm]
  rw [nat_join (7 * k) _ _ (by rw [Nat.pow_mul]; exact Nat.mul_mod_right _ _) (by rw [Nat.pow_mul]; exact ha)]
  omega

set_option maxHeartbeats 1600000 in
set_option maxRecDepth 100000 in
theorem readVarint_ok {R g n cap : Nat} {bs : List Nat} {aU aE : Addr} {i : Nat} {w : World} (h : Ctx w R g n cap bs aU aE i) (v : Nat) (hv : v < 34359738368) (rest : List Nat) (hd : bs.drop i = encV v ++ rest) :
    Calls Ybaf.prog 13 #[.iface 30 (.pointer (some ⟨R, 0, none⟩))] w fun e w' => e = .returned (.tuple #[.int .u64 v, .nilIface]) ∧ w.grownBy w' (some R) ∧ Ctx w' R g n cap bs aU aE (i + (encV v).length) := by
  have HD := (show Hid (bs.drop i = encV v ++ rest) from hd)
  clear hd
  have hmeth := method_read ⟨R, 0, none⟩
  have hEl := fun (w : World) (x : Value) => run_eql_iface_nil_left (P := Ybaf.prog) w 62 x Ybaf.underlying34
  go_enter Ybaf.func13, Ybaf.ntmps13
  go_wp2
  go_loopw [4, 5] (fun acc sh wr => ∃ (k f vk a : Nat), k + f = 4 ∧ vk < 128 ^ (f + 1) ∧ (0 < k → 0 < vk) ∧ a < 128 ^ k ∧ v = a + 128 ^ k * vk ∧ sh = .int .i64 (7 * k : Nat) ∧ acc = .int .u64 a ∧
      bs.drop (i + k) = encF f vk ++ rest ∧ k + (encF f vk).length = (encV v).length ∧ w.grownBy wr (some R) ∧ Ctx wr R g n cap bs aU aE (i + k))
    (fun _ sh _ => 100 - (intOf sh).toNat)
  case atStart => exact ⟨0, 4, v, 0, rfl, by simpa using hv, by omega, by simp, by simp, rfl, rfl, HD.out, by simp [encV], grownBy_refl _ _, h⟩
  case round =>
    obtain ⟨k, f, vk, a, hkf, hvk, hpos, ha, hva, rfl, rfl, hdr, hlen, hgr, hC⟩ := hrel
    have HV := (show Hid (v = a + 128 ^ k * vk) from hva)
    have HL := (show Hid (k + (encF f vk).length = (encV v).length) from hlen)
    have HF := (show Hid (k + f = 4) from hkf)
    have hk4 : k ≤ 4 := by omega
    have h63 : ((7 * (k : Int)) == 63) = false := by rw [beq_eq_false_iff_ne]; omega
    by_cases hlt : vk < 128
    · have HR : Hid (bs.drop (i + k) = vk :: rest) := by
        show bs.drop (i + k) = vk :: rest
        rw [hdr, encF_small _ _ hlt]; rfl
      have HA : Hid (bits BinOp.or IntKind.u64 (a : Int) (IntKind.u64.wrap (IntKind.u64.wrap (bits BinOp.and IntKind.u8 (vk : Int) 127) * 2 ^ (7 * k))) = (v : Int)) := by
        show _ = _
        rw [or_acc a vk k ha (by omega) hk4, Nat.mod_eq_of_lt hlt, ← hva]
      have HN : Hid (i + k + 1 = i + (encV v).length) := by
        show _ = _
        rw [← hlen, encF_small _ _ hlt]; rfl
      clear hva hdr hlen hkf
      by_cases hv0 : vk = 0
      · have hk0 : k = 0 := by
          rcases Nat.eq_zero_or_pos k with h0 | h0
          · exact h0
          · have := hpos h0; omega
        subst hv0
        subst hk0
        go_wp2_with (go_at_call 32; refine (readByte_at hC 0 rest HR.out).mono ?_; rintro e w1 ⟨rfl, hg1, hC1⟩; have hE1 := hC1.gE)
        go_ret2
        rw [HN.out] at hC1
        refine ⟨?_, grownBy_trans hgr hg1, hC1⟩
        have := HA.out
        simp only [Nat.mul_zero, Int.pow_zero, Int.mul_one] at this ⊢
        simp at this ⊢
        first | exact this | skip
      · have hne : ((vk : Int) == 0) = false := by rw [beq_eq_false_iff_ne]; omega
        go_wp2_with (go_at_call 32; refine (readByte_at hC vk rest HR.out).mono ?_; rintro e w1 ⟨rfl, hg1, hC1⟩; have hE1 := hC1.gE)
        go_ret2
        rw [HN.out] at hC1
        refine ⟨?_, grownBy_trans hgr hg1, hC1⟩
        rw [HA.out]
        rfl
    · cases f with
      | zero => simp at hvk; omega
      | succ f =>
      have HR : Hid (bs.drop (i + k) = (vk % 128 + 128) :: (encF f (vk / 128) ++ rest)) := by
        show bs.drop (i + k) = _
        rw [hdr, encF_big _ _ hlt]; rfl
      have HL2 : Hid (k + 1 + (encF f (vk / 128)).length = (encV v).length) := by
        show _ = _
        rw [← hlen, encF_big _ _ hlt, List.length_cons]; omega
      clear hva hdr hlen hkf
      go_wp2_with (go_at_call 32; refine (readByte_at hC (vk % 128 + 128) _ HR.out).mono ?_; rintro e w1 ⟨rfl, hg1, hC1⟩; have hE1 := hC1.gE)
      have e : ((vk : Int) % 128 + 128) = ((vk % 128 + 128 : Nat) : Int) := by omega
      have h3 : (vk % 128 + 128) % 128 = vk % 128 := by omega
      have hp : 128 ^ k * (vk % 128) + 128 ^ (k + 1) * (vk / 128) = 128 ^ k * vk := by
        rw [Nat.pow_succ, Nat.mul_assoc, ← Nat.mul_add]; congr 1; omega
      have hq : a + 128 ^ k * (vk % 128) < 128 ^ (k + 1) := by
        have h4 : 128 ^ k * (vk % 128) ≤ 128 ^ k * 127 := Nat.mul_le_mul_left _ (by omega)
        rw [Nat.pow_succ]; omega
      refine ⟨⟨k + 1, f, vk / 128, a + 128 ^ k * (vk % 128), by have := HF.out; omega, ?_, by omega, hq, by have := HV.out; omega, by go_num, ?_, ?_, HL2.out, grownBy_trans hgr hg1, by exact hC1⟩, by simp [intOf]; omega⟩
      · rw [Nat.pow_succ] at hvk
        exact Nat.div_lt_of_lt_mul (by rw [Nat.mul_comm]; exact hvk)
      · rw [e, or_acc a _ k ha (by omega) hk4, h3]
      · exact (drop_head HR.out).2.2

set_option maxHeartbeats 1600000 in
set_option maxRecDepth 100000 in
theorem readVarint_cut {R g n cap : Nat} {bs : List Nat} {aU aE : Addr} {i : Nat} {w : World} (h : Ctx w R g n cap bs aU aE i) (v : Nat) (hv : v < 34359738368) (s : List Nat) (hs : s ≠ []) (hd : bs.drop i ++ s = encV v) (hin : i ≤ n) :
    Calls Ybaf.prog 13 #[.iface 30 (.pointer (some ⟨R, 0, none⟩))] w fun e w' => e = .returned (.tuple #[.int .u64 0, .iface 62 (.pointer (some aU))]) ∧ w.grownBy w' (some R) ∧ Ctx w' R g n cap bs aU aE n := by
  have HD := (show Hid (bs.drop i ++ s = encV v) from hd)
  clear hd
  have hmeth := method_read ⟨R, 0, none⟩
  have hEl := fun (w : World) (x : Value) => run_eql_iface_nil_left (P := Ybaf.prog) w 62 x Ybaf.underlying34
  obtain ⟨i62, hi62, hc62⟩ := Option.map_eq_some_iff.1 comp62
  obtain ⟨i64, hi64, _⟩ := Option.map_eq_some_iff.1 size64
  have hEs := fun (w : World) => run_eql_iface_ptr_same (P := Ybaf.prog) w aE Ybaf.underlying34 Ybaf.underlying62 hi62 hc62 hi64
  go_enter Ybaf.func13, Ybaf.ntmps13
  go_wp2
  go_loopw [4, 5] (fun acc sh wr => ∃ (k f vk a : Nat), k + f = 4 ∧ vk < 128 ^ (f + 1) ∧ sh = .int .i64 (7 * k : Nat) ∧ acc = .int .u64 a ∧ a < 128 ^ k ∧
      bs.drop (i + k) ++ s = encF f vk ∧ i + k ≤ n ∧ w.grownBy wr (some R) ∧ Ctx wr R g n cap bs aU aE (i + k))
    (fun _ sh _ => 100 - (intOf sh).toNat)
  case atStart => exact ⟨0, 4, v, 0, rfl, by simpa using hv, rfl, rfl, by simp, HD.out, hin, grownBy_refl _ _, h⟩
  case round =>
    obtain ⟨k, f, vk, a, hkf, hvk, rfl, rfl, ha, hdr, hkn, hgr, hC⟩ := hrel
    have HF := (show Hid (k + f = 4) from hkf)
    have hk4 : k ≤ 4 := by omega
    have h63 : ((7 * (k : Int)) == 63) = false := by rw [beq_eq_false_iff_ne]; omega
    by_cases hend : i + k = n
    · rw [hend] at hC
      clear hdr hkf hend
      go_wp2_with (go_at_call 32; refine (readByte_eof hC).mono ?_; rintro e w1 ⟨rfl, hg1, hC1⟩; have hE1 := hC1.gE; have hU1 := hC1.gU)
      go_quiet (fail)
      go_wp2
      go_ret2
      exact ⟨rfl, grownBy_drewN (grownBy_trans hgr hg1) _, hC1.drewN _⟩
    · have hlt0 : i + k < bs.length := by have := hC.nlen; omega
      have hcons := List.drop_eq_getElem_cons hlt0
      have hne1 : bs.drop (i + k + 1) ++ s ≠ [] := by simp [hs]
      have hlt : ¬ vk < 128 := by
        intro hlt
        rw [encF_small _ _ hlt, hcons] at hdr
        injection hdr with _ h2
        exact hne1 h2
      cases f with
      | zero =>
        rw [hcons] at hdr
        injection hdr with _ h2
        exact absurd h2 hne1
      | succ f =>
      rw [encF_big _ _ hlt, hcons, List.cons_append] at hdr
      injection hdr with hb hr
      rw [hb] at hcons
      have HR : Hid (bs.drop (i + k) = (vk % 128 + 128) :: bs.drop (i + k + 1)) := hcons
      have HX : Hid (bs.drop (i + k + 1) ++ s = encF f (vk / 128)) := hr
      clear hcons hb hr hkf hlt0
      go_wp2_with (go_at_call 32; refine (readByte_at hC (vk % 128 + 128) _ HR.out).mono ?_; rintro e w1 ⟨rfl, hg1, hC1⟩; have hE1 := hC1.gE)
      have e : ((vk : Int) % 128 + 128) = ((vk % 128 + 128 : Nat) : Int) := by omega
      have h3 : (vk % 128 + 128) % 128 = vk % 128 := by omega
      have hq : a + 128 ^ k * (vk % 128) < 128 ^ (k + 1) := by
        have h4 : 128 ^ k * (vk % 128) ≤ 128 ^ k * 127 := Nat.mul_le_mul_left _ (by omega)
        rw [Nat.pow_succ]; omega
      refine ⟨⟨k + 1, f, vk / 128, a + 128 ^ k * (vk % 128), by have := HF.out; omega, ?_, by go_num, ?_, hq, HX.out, by omega, grownBy_trans hgr hg1, by exact hC1⟩, by simp [intOf]; omega⟩
      · rw [Nat.pow_succ] at hvk
        exact Nat.div_lt_of_lt_mul (by rw [Nat.mul_comm]; exact hvk)
      · rw [e, or_acc a _ k ha (by omega) hk4, h3]
end Go.Proofs.YbulkdaisFmt
