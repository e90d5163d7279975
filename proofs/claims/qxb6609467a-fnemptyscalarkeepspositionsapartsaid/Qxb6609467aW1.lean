/-
  THE WALKS: an empty scalar's event.
-/
import Derived.Test.Qxb6609467aRows
import Derived.WalkKit
import Derived.WalkSpells
import Derived.WalkLawsBesides
import Derived.Deep.RegionWith
namespace Go.Proofs.Qxb6609467a
open Go.RowKit

theorem Hid.mk' {p : Prop} (h : p) : Hid p := h

set_option maxHeartbeats 400000 in
theorem column_any (l c : Int) (w : World) (h0 : 0 ≤ c) (h1 : c < 9223372036854775807) :
    Calls Try.prog 20 #[.agg #[.int .i64 l, .int .i64 c]] w fun e w' => e = .returned (.int .i64 (c + 1)) ∧ w' = w.alloc (.cells #[.int .i64 l, .int .i64 c] 44) := by
  go_enter Try.func20, Try.ntmps20
  go_wp2
  go_ret
  exact ⟨rfl, rfl⟩

set_option maxHeartbeats 400000 in
theorem start_any (pb : Nat) (l c : Int) (u v : Value) (w : World) (h0 : 0 ≤ c) (h1 : c < 9223372036854775807) (hb : pb < w.heap.size)
    (c8 : w.cell? ⟨pb, 8, none⟩ = some u) (c9 : w.cell? ⟨pb, 9, none⟩ = some v) (f8 : w.frozen? ⟨pb, 8, none⟩ = false) (f9 : w.frozen? ⟨pb, 9, none⟩ = false) :
    Calls Try.prog 19 #[.pointer (some ⟨pb, 0, none⟩), .agg #[.int .i64 l, .int .i64 c]] w fun e w' => e = .returned (.tuple #[]) ∧
      w' = ((((w.setCell ⟨pb, 8, none⟩ (.int .i64 l)).setCell ⟨pb, 9, none⟩ (.int .i64 (c + 1))).alloc (.cells #[.int .i64 l, .int .i64 c] 44)).alloc (.cells #[.int .i64 l, .int .i64 c] 44)).drew := by
  have hcol := fun W => Hid.mk' (column_any l c W h0 h1)
  have hb1 : pb < w.heap.size + 1 := by omega
  have hb2 : pb < w.heap.size + 1 + 1 := by omega
  go_enter Try.func19, Try.ntmps19
  go_wp2
  go_region_with (go_at_call 20; refine (hcol _).out.mono ?_; rintro e w' ⟨rfl, rfl⟩)
  all_goals (go_end0; exact ⟨rfl, rfl⟩)

/-- The event of an empty scalar at line l, column c + 1. -/
def ev (l c : Int) : Value := .agg #[.int .i64 9, .bool false, .bool false, .int .u8 0, .string { data := #[] }, .string { data := #[] }, .string { data := #[] }, .pointer none, .int .i64 l, .int .i64 (c + 1)]

def pos (l c : Int) : Obj := .cells #[.int .i64 l, .int .i64 c] 44
def evo (l c : Int) : Obj := .cells #[.int .i64 9, .bool false, .bool false, .int .u8 0, .string { data := #[] }, .string { data := #[] }, .string { data := #[] }, .pointer none, .int .i64 l, .int .i64 (c + 1)] 26

set_option maxHeartbeats 400000 in
theorem event_any (l c : Int) (w : World) (h0 : 0 ≤ c) (h1 : c < 9223372036854775807) :
    Calls Try.prog 18 #[.int .i64 9, .agg #[.int .i64 l, .int .i64 c]] w fun e w' => e = .returned (ev l c) ∧ w' = (((((w.alloc (pos l c)).alloc (evo l c)).alloc (evo l c)).alloc (pos l c)).alloc (pos l c)).drew := by
  go_enter Try.func18, Try.ntmps18
  go_wp2_with fail
  refine (start_any (w.heap.size + 1 + 1) l c (.int .i64 0) (.int .i64 0) _ h0 h1 ?_ ?_ ?_ ?_ ?_).mono ?_
  case refine_1 => simp
  case refine_2 => simp [go_sem]
  case refine_3 => simp [go_sem]
  case refine_4 => simp [go_sem]
  case refine_5 => simp [go_sem]
  rintro e w' ⟨rfl, rfl⟩
  go_wp2
  exact bodyPost_ret (v := ev l c) (by simp [results, Try.results18, go_sem, ev]) rfl ⟨rfl, rfl⟩

set_option maxHeartbeats 400000 in
theorem empty16 (l c : Int) (w : World) (h0 : 0 ≤ c) (h1 : c < 9223372036854775807) :
    Calls Try.prog 16 #[.agg #[.int .i64 l, .int .i64 c]] w fun e w' => e = .returned (ev l c) ∧ w' = (((((((w.alloc (pos l c)).alloc (evo l c)).alloc (pos l c)).alloc (evo l c)).alloc (evo l c)).alloc (pos l c)).alloc (pos l c)).drew := by
  go_enter Try.func16, Try.ntmps16
  go_wp2_with fail
  refine (event_any l c _ h0 h1).mono ?_
  rintro e w' ⟨rfl, rfl⟩
  unfold ev pos evo
  go_wp2_with fail
  exact bodyPost_ret (v := ev l c) (by simp [results, Try.results16, go_sem, ev]) rfl ⟨rfl, rfl⟩

set_option maxHeartbeats 400000 in
theorem empty6 (l c : Int) (w : World) (h0 : 0 ≤ c) (h1 : c < 9223372036854775807) :
    Calls Try.prog 6 #[.int .i64 l, .int .i64 c] w fun e w' => e = .returned (ev l c) ∧ Below w.heap.size w w' := by
  go_enter Try.func6, Try.ntmps6
  go_wp2_with fail
  refine (empty16 l c _ h0 h1).mono ?_
  rintro e w' ⟨rfl, rfl⟩
  unfold ev pos evo
  go_wp2_with fail
  refine bodyPost_ret (v := ev l c) (by simp [results, Try.results6, go_sem, ev]) rfl ⟨rfl, ?_⟩
  exact (((((((((Below.refl _ _).alloc (Nat.le_refl _) _).alloc (by simp) _).alloc (by simp; omega) _).alloc (by simp; omega) _).alloc (by simp; omega) _).alloc (by simp; omega) _).alloc (by simp; omega) _).alloc (by simp; omega) _).drew

end Go.Proofs.Qxb6609467a
