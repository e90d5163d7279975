/-
  THE WALKS (3): cmp.Compare at uint64, the two closures, the two methods 'verifying'.
-/
import Derived.Test.Qxb6612222aW1
import Derived.Shelf.SlSortCmp.WholeK
import Derived.RegionTactic
import Derived.BigRegion
namespace Go.Proofs.Qxb6612222a
open Go.RowKit Go.Sort

set_option maxHeartbeats 400000 in
theorem compare_any (x y : Int) (w : World) : Calls Try.prog 12 #[.int .u64 x, .int .u64 y] w fun e w' => e = .returned (.int .i64 (Lib.compareInt x y)) ∧ w' = w := by
  unfold Lib.compareInt
  by_cases h1 : x < y
  · rw [if_pos h1]
    go_enter Try.func12, Try.ntmps12
    go_wp2
    go_ret
    exact ⟨rfl, rfl⟩
  · rw [if_neg h1]
    by_cases h2 : y < x
    · go_enter Try.func12, Try.ntmps12
      go_wp2
      go_ret
      exact ⟨by simp, rfl⟩
    · go_enter Try.func12, Try.ntmps12
      go_wp2
      go_ret
      exact ⟨by simp, rfl⟩

/-- A key's two cells. -/
def encK (x : Int × Option Addr) : List Value := [.int .u64 x.1, .pointer x.2]

set_option maxHeartbeats 400000 in
theorem closureS (x y : Int × Option Addr) (W : World) : Calls Try.prog 11 #[.agg #[.int .u64 x.1, .pointer x.2], .agg #[.int .u64 y.1, .pointer y.2]] W fun e w' => e = .returned (.int .i64 (Lib.compareInt x.1 y.1)) ∧ ∃ q os', w' = grow (W.drewN q) os' := by
  go_enter Try.func11, Try.ntmps11
  go_wp2_with (go_at_call 12; refine (compare_any _ _ _).mono ?_; rintro e w' ⟨rfl, rfl⟩)
  go_ret
  exact ⟨rfl, 0, _, by rw [alloc_eq_grow, alloc_eq_grow, grow_grow]; rfl⟩

set_option maxHeartbeats 400000 in
theorem closureV (x y : Int × Option Addr) (W : World) : Calls Try.prog 14 #[.agg #[.int .u64 x.1, .pointer x.2], .agg #[.int .u64 y.1, .pointer y.2]] W fun e w' => e = .returned (.int .i64 (Lib.compareInt x.1 y.1)) ∧ ∃ q os', w' = grow (W.drewN q) os' := by
  go_enter Try.func14, Try.ntmps14
  go_wp2_with (go_at_call 12; refine (compare_any _ _ _).mono ?_; rintro e w' ⟨rfl, rfl⟩)
  go_ret
  exact ⟨rfl, 0, _, by rw [alloc_eq_grow, alloc_eq_grow, grow_grow]; rfl⟩

set_option maxHeartbeats 400000 in
theorem verS (x : Int) (pb : Nat) (w : World) : Calls Try.prog 67 #[.agg #[.int .u64 x, .pointer (some ⟨pb, 0, none⟩)]] w fun e w' => e = .returned (.agg #[.int .u64 x, .pointer (some ⟨pb, 0, none⟩)]) ∧ Below w.heap.size w w' := by
  go_enter Try.func67, Try.ntmps67
  go_wp2
  go_region
  all_goals go_wp2
  all_goals refine bodyPost_ret (v := .agg #[.int .u64 x, .pointer (some ⟨pb, 0, none⟩)]) (by simp [results, Try.results67, go_sem]) rfl ⟨rfl, ?_⟩
  all_goals exact (((Below.refl _ _).alloc (Nat.le_refl _) _).alloc (by simp) _).drew

set_option maxHeartbeats 400000 in
theorem verV (x : Int) (p : Option Addr) (w : World) : Calls Try.prog 70 #[.agg #[.int .u64 x, .pointer p]] w fun e w' => e = .returned (.agg #[.int .u64 x, .pointer p]) ∧ Below w.heap.size w w' := by
  go_enter Try.func70, Try.ntmps70
  go_wp2
  refine bodyPost_ret (v := .agg #[.int .u64 x, .pointer p]) (by simp [results, Try.results70, go_sem]) rfl ⟨rfl, ?_⟩
  exact ((Below.refl _ _).alloc (Nat.le_refl _) _).alloc (by simp) _

end Go.Proofs.Qxb6612222a
