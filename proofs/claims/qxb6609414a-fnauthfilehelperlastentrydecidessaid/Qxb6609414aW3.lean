/-
  THE WALKS (3): the map filled in the file's order.
-/
import Derived.Test.Qxb6609414aW1
import Derived.Maps.OwnSet
import Derived.Maps.StringElems
import Derived.RegionTactic
import Derived.BigRegion
import Derived.Lib.LazyBuf
namespace Go.Proofs.Qxb6609414a
open Go.RowKit Go.Maps Go.WideMaps

theorem law : Keyed Try.prog 9 := string_keyed Try.underlying9
theorem run_makeMap_hint (n : Int) (w : World) : (Instr.makeMap 27 (some (.int .i64 n))).run Try.prog w = .ok (.map (some w.heap.size)) (w.alloc (.map #[] 0)) := by
  simp [Instr.makeMap, run_underlying Try.underlying27, go_sem]

set_option maxHeartbeats 400000 in
theorem build_nil (w : World) :
    Calls Try.prog 8 #[.slice none 0 0] w fun e w' => e = .returned (.map none) ∧ w' = w := by
  have hn := fun (w : World) (a : Option Addr) (n c : Nat) => Go.run_eql_slice_nil (P := Try.prog) w 22 34 a n c Try.underlying22
  go_enter Try.func8, Try.ntmps8
  go_wp2
  go_ret
  exact ⟨rfl, rfl⟩

set_option maxHeartbeats 400000 in
theorem build_zero (x : Addr) (cap : Nat) (K V : Nat → ByteArray) (w : World) :
    Calls Try.prog 8 #[.slice (some x) 0 cap] w fun e w' => e = .returned (.map (some w.heap.size)) ∧ w'.ownsMap Try.prog 9 (plainElem Try.prog 9) w.heap.size 0 (Dn K V 0) ∧ Below w.heap.size w w' := by
  have hn := fun (w : World) (a : Option Addr) (n c : Nat) => Go.run_eql_slice_nil (P := Try.prog) w 22 34 a n c Try.underlying22
  have hmm := run_makeMap_hint
  go_enter Try.func8, Try.ntmps8
  go_wp2
  refine wp_loop_rounds 1 ?_
  rw [rounds_succ]
  go_wp2
  go_ret
  exact ⟨rfl, World.ownsMap_made _ _ _ _, (Below.refl _ _).alloc (Nat.le_refl _) _⟩

set_option maxHeartbeats 400000 in
theorem build_any (b off len cap : Nat) (K V : Nat → ByteArray) (w : World) (hl : len ≤ 4097) (hb : b < w.heap.size) (sK : ∀ i, (K i).size ≤ maxLen) (sV : ∀ i, (V i).size ≤ maxLen)
    (hK : ∀ i, i < len → w.cell? ⟨b, off + i * 2, none⟩ = some (.string (K i))) (hV : ∀ i, i < len → w.cell? ⟨b, off + i * 2 + 1, none⟩ = some (.string (V i))) :
    Calls Try.prog 8 #[.slice (some ⟨b, off, none⟩) len cap] w fun e w' => e = .returned (.map (some w.heap.size)) ∧ w'.ownsMap Try.prog 9 (plainElem Try.prog 9) w.heap.size len (Dn K V len) ∧ Below w.heap.size w w' := by
  have hn := fun (w : World) (a : Option Addr) (n c : Nat) => Go.run_eql_slice_nil (P := Try.prog) w 22 34 a n c Try.underlying22
  have hmm := run_makeMap_hint
  go_enter Try.func8, Try.ntmps8
  go_wp2
  clear hn hmm
  go_loopw [4] (fun i wr => ∃ k : Nat, k ≤ len ∧ i = .int .i64 k ∧ wr.ownsMap Try.prog 9 (plainElem Try.prog 9) w.heap.size k (Dn K V k) ∧ Below w.heap.size w wr) (fun i _ => len - (intOf i).toNat)
  case atStart => exact ⟨0, Nat.zero_le _, rfl, World.ownsMap_made _ _ _ _, (Below.refl _ _).alloc (Nat.le_refl _) _⟩
  case round =>
    obtain ⟨k, hk, rfl, hown, hnx⟩ := hrel
    by_cases hlt : k < len
    · have hKm := (hnx.cell (p := ⟨b, off + k * 2, none⟩) (by exact hb)).trans (hK k hlt)
      have hVm := (hnx.cell (p := ⟨b, off + k * 2 + 1, none⟩) (by exact hb)).trans (hV k hlt)
      obtain ⟨w1, hrun, hown1, hgrow1⟩ := hown.drew.update law Try.underlying27 (by unfold maxLen; omega) (keyOf_string_mk Try.underlying9 (sK k)) (plainElem_string (H := Unit) Try.underlying9 (sV k))
      have hown2 : Hid (w1.ownsMap Try.prog 9 (plainElem Try.prog 9) w.heap.size (k + 1) (Dn K V (k + 1))) := hown1
      have hb1 : Hid (Below w.heap.size w w1) := (hnx.drew).grown hgrow1 (by exact hnx.size) (fun j hj => by cases hj; exact Nat.le_refl _)
      clear hK hV hown hown1 hgrow1 hnx
      go_wp2
      go_region
      go_wp2
      go_roundw
      case rel => exact ⟨k + 1, by omega, by go_num, hown2.out, hb1.out⟩
      case measure => simp [intOf]; omega
    · clear hK hV
      have : k = len := by omega
      subst this
      go_wp2
      go_ret
      exact ⟨rfl, hown, hnx⟩

end Go.Proofs.Qxb6609414a
