import Derived.Test.YbulkdaisFmtRows
import Derived.Test.YbulkdaisFmtPlain
import Derived.WalkKit
import Derived.WalkLawsBesides
import Derived.Deep.AppendLies
import Derived.Outline
namespace Go.Proofs.YbulkdaisFmt
open Go.RowKit

/-- A byte as a value. -/
def bv (x : Nat) : Value := .int .u8 x

theorem or128 (vk : Nat) : bits BinOp.or IntKind.u8 ((vk : Int) % 256) 128 = ((vk % 128 + 128 : Nat) : Int) := by
  have h : ∀ x : Fin 256, bits BinOp.or IntKind.u8 ((x.val : Nat) : Int) 128 = ((x.val % 128 + 128 : Nat) : Int) := by decide +kernel
  have := h ⟨vk % 256, by omega⟩
  simp only at this
  rw [show ((vk : Int) % 256) = ((vk % 256 : Nat) : Int) by omega, this]
  omega

/-- One step more: what grew from w, and then (behind a new block) in a row that is the old one or one made since. -/
theorem grown_step {w wr w1 : World} {o : Obj} {r q : Option Nat} (h : w.grownBy wr r) (hq : q = r ∨ ∃ g, q = some g ∧ w.heap.size ≤ g) (h1 : (wr.alloc o).grownBy w1 q) : w.grownBy w1 r := by
  have hs : (wr.alloc o).heap.size = wr.heap.size + 1 := by simp
  refine ⟨h1.os.trans h.os, h1.tape.trans h.tape, h1.output.trans h.output, ?_, fun k hk hne => ?_⟩
  · have := h.size; have := h1.size; omega
  · have hsz := h.size
    have hne' : some k ≠ q := by
      rcases hq with rfl | ⟨g, rfl, hg⟩
      · exact hne
      · intro e; simp at e; omega
    rw [h1.block k (by omega) hne', Below.heap_alloc _ _ _ (by omega)]
    exact h.block k hk hne

theorem news1 (w : World) (x : Value) (e : TypeId) (u : Value) (hx : x = u) : ∀ j y, [u][j]? = some y → (w.alloc (.cells #[x] e)).cell? (({ block := w.heap.size, off := 0 } : Addr).add j) = some y := by
  subst hx
  exact cell_one_new _ _ _

theorem info5 : (Ybaf.prog.info? 5).map (fun i => (i.zero, i.size, i.bytes)) = some (some (.int .u8 0), 1, 1) := by kernel_rfl

set_option maxHeartbeats 800000 in
set_option maxRecDepth 100000 in
theorem put_any (base v : Nat) (hv : v < 34359738368) (b : Value) (n : Nat) (xs : List Value) (w : World)
    (hown : w.ownsRow base 5 1 b n xs) (hbase : base ≤ w.heap.size) (hn : n ≤ 1000000) :
    Calls Ybaf.prog 9 #[b, .int .u64 v] w fun e w' => ∃ g cap, e = .returned (.slice (some ⟨g, 0, none⟩) (n + (encV v).length) cap) ∧
      w'.ownsRow base 5 1 (.slice (some ⟨g, 0, none⟩) (n + (encV v).length) cap) (n + (encV v).length) (xs ++ (encV v).map bv) ∧
      w.grownBy w' b.ownBlock ∧ (b.ownBlock = some g ∨ w.heap.size ≤ g) := by
  obtain ⟨i0, hi, hz0, hz1, hz2⟩ := info_parts info5
  go_enter Ybaf.func9, Ybaf.ntmps9
  go_wp2
  go_loopw [0, 1] (fun bs vv wr => ∃ (f vk m : Nat) (ys : List Nat), vk < 128 ^ (f + 1) ∧ f ≤ 4 ∧ vv = .int .u64 vk ∧ m = n + ys.length ∧ ys ++ encF f vk = encV v ∧
      wr.ownsRow base 5 1 bs m (xs ++ ys.map bv) ∧ w.grownBy wr b.ownBlock ∧ (bs.ownBlock = b.ownBlock ∨ ∃ g, bs.ownBlock = some g ∧ w.heap.size ≤ g))
    (fun _ vv _ => (intOf vv).toNat)
  case atStart => exact ⟨4, v, n, [], by omega, by omega, rfl, by simp, rfl, by simpa using hown, ⟨rfl, rfl, rfl, Nat.le_refl _, fun _ _ _ => rfl⟩, Or.inl rfl⟩
  case round =>
    obtain ⟨f, vk, m, ys, hvk, hf, rfl, hm, hys, hownr, hgr, hat⟩ := hrel
    have hlen : ys.length ≤ 5 := by
      have h1 := congrArg List.length hys
      have h2 := encV_length v
      simp at h1
      omega
    have hsz := hgr.size
    have HM : Hid (m = n + ys.length) := hm
    have HY : Hid (ys ++ encF f vk = encV v) := hys
    have hmb : m ≤ 1000005 := by omega
    clear hm hys
    by_cases hlt : vk < 128
    · go_wp2_with (at_builtin; refine wpList_append_lies _ rfl _ _ 24 rfl base 5 i0 (.int .u8 0) 1 1 Ybaf.underlying24 hi hz0 hz1 hz2 rfl (by decide) _ _ _ rfl (hownr.alloc _) ⟨wr.heap.size, 0, none⟩ 1 1 [bv vk] rfl rfl ?c1 ?c2 (by omega) ?c3 ?c4 ?c5 (wr.heap.size + 1) (by simp) ?_)
      case c1 => exact news1 _ _ _ _ rfl
      case c2 => intro u hu; simp at hu; subst hu; rfl
      case c3 => unfold maxLen; omega
      case c4 => omega
      case c5 => simp; omega
      · intro g cap w1 hown1 hgrow1 hat1 hlt1
        have hG := grown_step hgr hat hgrow1
        have hA : b.ownBlock = some g ∨ w.heap.size ≤ g := by
          rcases hat1 with h | h
          · rcases hat with h2 | ⟨g2, h2, h3⟩
            · left; rw [← h2, h]
            · right; rw [h2] at h; simp at h; omega
          · right; omega
        have HE : Hid (m + 1 = n + (encV v).length ∧ xs ++ (ys.map bv ++ [bv vk]) = xs ++ (encV v).map bv) := by
          rw [← HY.out, encF_small _ _ hlt, HM.out]
          exact ⟨by simp; omega, by simp⟩
        clear hgrow1 hat1 hlt1 hgr hat hownr
        go_wp2
        go_ret
        rw [← HE.out.1, ← HE.out.2]
        exact ⟨g, cap, rfl, by simpa using hown1, hG, hA⟩
    · go_wp2_with (at_builtin; refine wpList_append_lies _ rfl _ _ 24 rfl base 5 i0 (.int .u8 0) 1 1 Ybaf.underlying24 hi hz0 hz1 hz2 rfl (by decide) _ _ _ rfl (hownr.alloc _) ⟨wr.heap.size, 0, none⟩ 1 1 [bv (vk % 128 + 128)] rfl rfl ?d1 ?d2 (by omega) ?d3 ?d4 ?d5 (wr.heap.size + 1) (by simp) ?_)
      case d1 => exact news1 _ _ _ _ (by rw [or128]; rfl)
      case d2 => intro u hu; simp at hu; subst hu; rfl
      case d3 => unfold maxLen; omega
      case d4 => omega
      case d5 => simp; omega
      · intro g cap w1 hown1 hgrow1 hat1 hlt1
        have hG := grown_step hgr hat hgrow1
        have hA : (Value.slice (some ⟨g, 0, none⟩) (m + 1) cap).ownBlock = b.ownBlock ∨ ∃ g', (Value.slice (some ⟨g, 0, none⟩) (m + 1) cap).ownBlock = some g' ∧ w.heap.size ≤ g' := by
          rcases hat1 with h | h
          · rcases hat with h2 | ⟨g2, h2, h3⟩
            · left; rw [← h2, h]; rfl
            · right; rw [h2] at h; simp at h; exact ⟨g, rfl, by omega⟩
          · right; exact ⟨g, rfl, by omega⟩
        have HE : Hid (∃ f', vk / 128 < 128 ^ (f' + 1) ∧ f' ≤ 4 ∧ (ys ++ [vk % 128 + 128]) ++ encF f' (vk / 128) = encV v) := by
          cases f with
          | zero => simp at hvk; omega
          | succ f' =>
            refine ⟨f', ?_, by omega, ?_⟩
            · rw [Nat.pow_succ] at hvk
              exact Nat.div_lt_of_lt_mul (by rw [Nat.mul_comm]; exact hvk)
            · rw [← HY.out, encF_big _ _ hlt]; simp
        clear hgrow1 hat1 hlt1 hgr hat hownr hvk hf
        go_wp2
        obtain ⟨f', h1, h2, h3⟩ := HE.out
        exact ⟨⟨f', vk / 128, m + 1, ys ++ [vk % 128 + 128], h1, h2, by go_num, by have := HM.out; simp; omega, h3, by simpa using hown1, hG, hA⟩, by simp [intOf]; omega⟩
end Go.Proofs.YbulkdaisFmt
