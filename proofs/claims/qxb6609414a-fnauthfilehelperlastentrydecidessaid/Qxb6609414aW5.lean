/-
  THE WALKS (5): appendEntry: a fresh list, the old pairs, then the new one.
-/
import Derived.Test.Qxb6609414aW4
import Derived.Deep.OwnRows
namespace Go.Proofs.Qxb6609414a
open Go.RowKit Go.Maps Go.WideMaps Go.Deep

/-- Cell i of a row of pairs: of the first k pairs what they hold; behind them what 'make' laid. -/
def pairCell (K V : Nat → ByteArray) (k i : Nat) : Value := if i < k * 2 then (if i % 2 = 0 then .string (K (i / 2)) else .string (V (i / 2))) else .string { data := #[] }

theorem Try.info34 : (Try.prog.info? 34).map (fun i => (i.zero, i.size, i.bytes)) = some (some (.agg #[.string { data := #[] }, .string { data := #[] }]), 2, 32) := by kernel_rfl

theorem run_make22 (n : Nat) (hn : n ≤ 4097) (w : World) :
    (Instr.makeSlice 22 (.int .i64 (n : Int)) (.int .i64 (n : Int))).run Try.prog w = .ok (.slice (some ⟨w.heap.size, 0, none⟩) n n) (w.alloc (.cells (madeCells #[.string { data := #[] }, .string { data := #[] }] (n * 2)) 34)) := by
  obtain ⟨i0, hi, hz0, hz1, hz2⟩ := info_parts Try.info34
  have h := run_make (P := Try.prog) w 22 34 i0 _ Try.underlying22 hi hz0 .i64 .i64 n n (by omega) (by omega) (by rw [hz2]; omega) (by omega)
  rw [hz1] at h
  simpa [Value.cells] using h

theorem made_row (w : World) (K V : Nat → ByteArray) (n : Nat) : (w.alloc (.cells (madeCells #[.string { data := #[] }, .string { data := #[] }] (n * 2)) 34)).rowIs w.heap.size 34 (n * 2) (pairCell K V 0) := by
  have h := World.rowIs_alloc w (madeCells #[.string { data := #[] }, .string { data := #[] }] (n * 2)) 34 (pairCell K V 0) (fun i hi => by
    have : i % 2 = 0 ∨ i % 2 = 1 := by omega
    rw [size_madeCells] at hi
    rcases this with e | e <;> simp [madeCells, pairCell, hi, e])
  rwa [size_madeCells] at h

theorem row_step {w : World} {b N k : Nat} {K V : Nat → ByteArray} (h : w.rowIs b 34 N (pairCell K V k)) :
    ((w.setCell ⟨b, k * 2, none⟩ (.string (K k))).setCell ⟨b, k * 2 + 1, none⟩ (.string (V k))).rowIs b 34 N (pairCell K V (k + 1)) := by
  refine ((h.set (k * 2) _).set (k * 2 + 1) _).congr (fun i _ => ?_)
  unfold pairCell
  by_cases h1 : i = k * 2 + 1
  · subst h1
    have e1 : (k * 2 + 1) % 2 = 1 := by omega
    have e2 : (k * 2 + 1) / 2 = k := by omega
    have e3 : k * 2 + 1 < (k + 1) * 2 := by omega
    simp [e1, e2, e3]
  · by_cases h0 : i = k * 2
    · subst h0
      have e1 : (k * 2) % 2 = 0 := by omega
      have e2 : (k * 2) / 2 = k := by omega
      have e3 : k * 2 < (k + 1) * 2 := by omega
      simp [e2, e3]
    · rw [if_neg h1, if_neg h0]
      by_cases h2 : i < k * 2
      · have h3 : i < (k + 1) * 2 := by omega
        rw [if_pos h2, if_pos h3]
      · have h3 : ¬ i < (k + 1) * 2 := by omega
        rw [if_neg h2, if_neg h3]

set_option maxHeartbeats 400000 in
theorem append_core (b off len cap : Nat) (K V : Nat → ByteArray) (w : World) (hl : len ≤ 4096) (hb : b < w.heap.size)
    (hK : ∀ i, i < len → w.cell? ⟨b, off + i * 2, none⟩ = some (.string (K i))) (hV : ∀ i, i < len → w.cell? ⟨b, off + i * 2 + 1, none⟩ = some (.string (V i))) :
    Calls Try.prog 12 #[.slice (some ⟨b, off, none⟩) len cap, .string (K len), .string (V len)] w fun e w' => e = .returned (.slice (some ⟨w.heap.size, 0, none⟩) (len + 1) (len + 1)) ∧
      w'.rowIs w.heap.size 34 ((len + 1) * 2) (pairCell K V (len + 1)) ∧ Below w.heap.size w w' := by
  have hmk := run_make22 (len + 1) (by omega)
  have ec : ((len + 1 : Nat) : Int) = (len : Int) + 1 := by omega
  rw [ec] at hmk
  clear ec
  go_enter Try.func12, Try.ntmps12
  go_wp2
  clear hmk
  go_loopw [8] (fun i wr => ∃ k : Nat, k ≤ len ∧ i = .int .i64 k ∧ wr.rowIs w.heap.size 34 ((len + 1) * 2) (pairCell K V k) ∧ Below w.heap.size w wr) (fun i _ => len - (intOf i).toNat)
  case atStart => exact ⟨0, Nat.zero_le _, rfl, made_row _ _ _ _, (Below.refl _ _).alloc (Nat.le_refl _) _⟩
  case round =>
    obtain ⟨k, hk, rfl, hrow, hnx⟩ := hrel
    have f0 := hrow.frozen (k * 2)
    have f1 := hrow.frozen (k * 2 + 1)
    have c0 := hrow.cell (i := k * 2) (by omega)
    have c1 := hrow.cell (i := k * 2 + 1) (by omega)
    have hrow2 : Hid _ := Hid.mk' (row_step hrow)
    have hnx2 : Hid _ := Hid.mk' ((hnx.setCell (p := ⟨w.heap.size, k * 2, none⟩) (Nat.le_refl _) (.string (K k))).setCell (p := ⟨w.heap.size, k * 2 + 1, none⟩) (Nat.le_refl _) (.string (V k)))
    by_cases hlt : k < len
    · have hKm := (hnx.cell (p := ⟨b, off + k * 2, none⟩) (by exact hb)).trans (hK k hlt)
      have hVm := (hnx.cell (p := ⟨b, off + k * 2 + 1, none⟩) (by exact hb)).trans (hV k hlt)
      clear hK hV hrow
      go_wp2
      go_roundw
      case rel => exact ⟨k + 1, by omega, by go_num, hrow2.out, hnx2.out⟩
      case measure => simp [intOf]; omega
    · clear hK hV hrow
      have : k = len := by omega
      subst this
      go_wp2
      go_ret
      exact ⟨rfl, hrow2.out, hnx2.out⟩

set_option maxHeartbeats 400000 in
theorem append_zero (a : Option Addr) (cap : Nat) (K V : Nat → ByteArray) (w : World) :
    Calls Try.prog 12 #[.slice a 0 cap, .string (K 0), .string (V 0)] w fun e w' => e = .returned (.slice (some ⟨w.heap.size, 0, none⟩) (0 + 1) (0 + 1)) ∧
      w'.rowIs w.heap.size 34 ((0 + 1) * 2) (pairCell K V (0 + 1)) ∧ Below w.heap.size w w' := by
  have hmk : ∀ w, (Instr.makeSlice 22 (.int .i64 1) (.int .i64 1)).run Try.prog w = .ok (.slice (some ⟨w.heap.size, 0, none⟩) 1 1) (w.alloc (.cells #[.string { data := #[] }, .string { data := #[] }] 34)) := fun w => by
    have e : madeCells #[Value.string { data := #[] }, Value.string { data := #[] }] (1 * 2) = #[.string { data := #[] }, .string { data := #[] }] := by kernel_rfl
    have h := run_make22 1 (by omega) w
    rw [e] at h
    exact h
  go_enter Try.func12, Try.ntmps12
  go_wp2
  refine wp_loop_rounds 1 ?_
  rw [rounds_succ]
  go_wp2
  go_ret
  refine ⟨rfl, World.rowIs_alloc w #[.string (K 0), .string (V 0)] 34 (pairCell K V 1) (fun i hi => ?_), (Below.refl _ _).alloc (Nat.le_refl _) _⟩
  match i, hi with
  | 0, _ => rfl
  | 1, _ => rfl

end Go.Proofs.Qxb6609414a
