import Derived.Test.YbulkdammFrame
import Derived.Shelf.SlSortCmp.WholeK
import Derived.Shelf.Lay
import Derived.Ground.SlsfProg
namespace Go.Proofs.Ybulkdamm
open Go.Shelf Go.RowKit Go.Lib Go.Sort
set_option linter.unusedVariables false
shelf_lay_g SlLaysF0.n6 Slsf 6 at Yba 21 as Yba.sortRuns

/-- A run's two cells. -/
def encR (x : Int × Int) : List Value := [.int .i32 x.1, .int .i32 x.2]
def cmpLo (x y : Int × Int) : Int := cmpI x.1 y.1

set_option maxHeartbeats 1000000 in
theorem closure22 (x y : Int × Int) (W : World) : Calls Yba.prog 22 #[.agg #[.int .i32 x.1, .int .i32 x.2], .agg #[.int .i32 y.1, .int .i32 y.2]] W fun e w' => e = .returned (.int .i64 (cmpLo x y)) ∧ ∃ q os', w' = grow (W.drewN q) os' := by
  have hcon := fun W' => compare_any x.1 y.1 W'
  unfold cmpLo
  generalize cmpI x.1 y.1 = r at hcon ⊢
  go_enter Yba.func22, Yba.ntmps22
  go_wp2_with (go_at_call 23; refine (hcon _).mono ?_; rintro e w' ⟨rfl, rfl⟩)
  go_ret
  exact ⟨rfl, 0, _, by rw [alloc_eq_grow, alloc_eq_grow, grow_grow]; rfl⟩

theorem ltLo (x y : Int × Int) : ltOf cmpLo x y = decide (x.1 < y.1) := by
  unfold ltOf cmpLo cmpI
  by_cases h1 : x.1 < y.1
  · simp [h1]
  · by_cases h2 : y.1 < x.1 <;> simp [h1, h2]
theorem swoLo : SWO (ltOf cmpLo) where
  irrefl x := by rw [ltLo]; simp
  trans x y z h1 h2 := by rw [ltLo] at *; simp at *; omega
  ntrans x y z h1 h2 := by rw [ltLo] at *; simp at *; omega

theorem sort_any (blk cap : Nat) (d : Array (Int × Int)) (w : World) (hH : HoldsK encR 2 w blk 0 d) (hblk : blk < w.heap.size) (hsz : d.size < 4611686018427387904) :
    Calls Yba.prog 21 #[.slice (some ⟨blk, 0, none⟩) d.size cap, .func (.func 22) #[] #[]] w fun e w' => e = .returned (.tuple #[]) ∧ ∃ d' n os, PermIn 0 d.size d d' ∧ SortedIn (ltOf cmpLo) 0 d.size d' ∧ w' = sortWorldK encR 2 w blk 0 n d' os := by
  have eg : ∀ args w, (callFunc 22 args).run Yba.prog w = .ok (.enter 22 args) w := enters_of Yba.func22 (by kernel_rfl) rfl
  exact AnyQ.slices_SortFunc Yba.sortRuns 2 (fun w => by kernel_rfl) (fun w => by kernel_rfl) encR (fun _ => rfl) (fun x v hv => by simp [encR] at hv; rcases hv with rfl | rfl <;> rfl) cmpLo swoLo 22 #[] blk 0 cap d w eg (fun _ _ _ _ x y => closure22 x y _) hH hblk hsz
end Go.Proofs.Ybulkdamm
