/-
  THE WALKS (4): the auth file made; its helper asked.
-/
import Derived.Test.Qxb6609414aW3
import Derived.Deep.RegionWith
namespace Go.Proofs.Qxb6609414a
open Go.RowKit Go.Maps Go.WideMaps

theorem Hid.mk' {p : Prop} (h : p) : Hid p := h

set_option maxHeartbeats 400000 in
theorem new_any (m : Option Nat) (store : ByteArray) (w : World) :
    Calls Try.prog 7 #[.map m, .string store] w fun e w' => e = .returned (.pointer (some ⟨w.heap.size, 0, none⟩)) ∧ w' = w.alloc (.cells #[.string { data := #[] }, .slice none 0 0, .map m, .string store] 38) := by
  go_enter Try.func7, Try.ntmps7
  go_wp2
  go_ret
  exact ⟨rfl, rfl⟩

set_option maxHeartbeats 400000 in
theorem helper_any (pb : Nat) (m : Option Nat) (u store host : ByteArray) (w : World) (c2 : w.cell? ⟨pb, 2, none⟩ = some (.map m)) (c3 : w.cell? ⟨pb, 3, none⟩ = some (.string store))
    (hlook : (Instr.lookup 27 (.map m) (.string host) false).run Try.prog w.drew = .ok (.string u) w.drew) :
    Calls Try.prog 13 #[.pointer (some ⟨pb, 0, none⟩), .string host] w fun e w' => e = .returned (.string (pick u store)) ∧ Below w.heap.size w w' := by
  have hor := Hid.mk' (or_any w.heap.size u store (w.alloc (.cells #[.string u, .string store] 9)).drew (by simp) (by simp))
  go_enter Try.func13, Try.ntmps13
  go_wp2
  go_region_with (go_at_call 14; refine hor.out.mono ?_; rintro e w' ⟨rfl, rfl⟩)
  all_goals go_wp2
  all_goals go_ret
  all_goals exact ⟨rfl, ((Below.refl _ _).alloc (Nat.le_refl _) _).drew⟩

end Go.Proofs.Qxb6609414a
