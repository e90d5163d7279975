/-
  THE WALKS (2): sortedU64: the elements in ascending order, by insertion.
-/
import Derived.Test.Qxb6612222aW1
import Derived.Test.Qxb6612222aPlain
namespace Go.Proofs.Qxb6612222a
open Go.RowKit

theorem Try.info26 : (Try.prog.info? 26).map (fun i => (i.zero, i.size, i.bytes)) = some (some (.int .u64 0), 1, 8) := by kernel_rfl

/-- A row that the call owns, of uint64s. -/
def Ints (L : List Int) : List Value := L.map (Value.int .u64)
theorem ints_length (L : List Int) : (Ints L).length = L.length := by simp [Ints]
theorem ints_get {L : List Int} {i : Nat} {x : Int} (h : L[i]? = some x) : (Ints L)[i]? = some (.int .u64 x) := by simp [Ints, h]
theorem ints_set (L : List Int) (i : Nat) (x : Int) : (Ints L).set i (.int .u64 x) = Ints (L.set i x) := by simp [Ints, List.map_set]

theorem rowAt_own {w : World} {B g n cap : Nat} {L : List Int} (h : w.ownsRow B 26 1 (.slice (some ⟨g, 0, none⟩) n cap) n (Ints L)) : RowAt w (some ⟨g, 0, none⟩) n (fun i => .int .u64 (L.getD i 0)) := by
  have hl : L.length = n := by have := h.1; rw [ints_length] at this; omega
  refine .inr ⟨g, 0, rfl, (h.lt g rfl).2, fun i hi => ?_⟩
  have hc := h.cellAt i (by omega)
  rw [Nat.zero_add, hc]
  exact ints_get (by simp [List.getD, hl, hi])

/-- The round's end: v lies at its place. -/
theorem laid {wr : World} {B k n j : Nat} {L : List Int} {v x : Int} {Z : Nat → Int} (hll : L.length = k) (hLs : Sorted L) (hLp : L.Perm ((List.range k).map Z)) (hv : v = Z k) (hj : j ≤ k) (hr : ∀ x ∈ L.drop j, v < x) (hl : ∀ q, (h : q < L.length) → q + 1 = j → L[q] ≤ v)
    (hown : (wr.setCell ⟨B, j, none⟩ (.int .u64 v)).ownsRow B 26 1 (.slice (some ⟨B, 0, none⟩) (k + 1) n) (k + 1) ((Ints (Mid L j x)).set j (.int .u64 v))) :
    ∃ L' : List Int, L'.length = k + 1 ∧ Sorted L' ∧ L'.Perm ((List.range (k + 1)).map Z) ∧ (wr.setCell ⟨B, j, none⟩ (.int .u64 v)).ownsRow B 26 1 (.slice (some ⟨B, 0, none⟩) (k + 1) n) (k + 1) (Ints L') := by
  refine ⟨Mid L j v, by rw [mid_length, hll], mid_sorted hLs (by omega) hr hl, ?_, ?_⟩
  · refine (mid_perm L j v).trans ?_
    rw [List.range_succ, List.map_append, hv]
    exact hLp.append_right _
  · rw [ints_set, mid_put _ _ (by omega)] at hown
    exact hown

set_option maxHeartbeats 1000000 in
theorem sorted_any (a : Option Addr) (n c : Nat) (Z : Nat → Int) (w : World) (hn : n ≤ 4096) (h0 : RowAt w a n (fun i => .int .u64 (Z i))) :
    Calls Try.prog 6 #[.slice a n c] w fun e w' => e = .returned (.slice (some ⟨w.heap.size, 0, none⟩) n n) ∧
      (∃ L : List Int, L.length = n ∧ Sorted L ∧ L.Perm ((List.range n).map Z) ∧ w'.ownsRow w.heap.size 26 1 (.slice (some ⟨w.heap.size, 0, none⟩) n n) n (Ints L)) ∧ Below w.heap.size w w' := by
  have H := Hid.mk' h0
  clear h0
  obtain ⟨i0, hi, hz0, hz1, hz2⟩ := info_parts Try.info26
  go_enter Try.func6, Try.ntmps6
  go_wp2_with (at_make; refine wpList_make_own _ rfl _ _ 22 rfl w.heap.size 26 i0 (.int .u64 0) 1 Try.underlying22 hi hz0 hz1 .i64 .i64 _ n rfl rfl rfl (by rw [hz2]; omega) (by unfold maxLen; omega) (Nat.le_refl _) ?_)
  intro w0 hown0 hg0
  have b0 := Hid.mk' ((Below.refl w.heap.size w).grown hg0 (Nat.le_refl _) (fun k hk => by cases hk))
  clear hg0
  go_wp2_with fail
  go_loopw [3, 4] (fun v i wr => ∃ k : Nat, k ≤ n ∧ i = .int .i64 k ∧ v = .slice (some ⟨w.heap.size, 0, none⟩) k n ∧
      (∃ L : List Int, L.length = k ∧ Sorted L ∧ L.Perm ((List.range k).map Z) ∧ wr.ownsRow w.heap.size 26 1 (.slice (some ⟨w.heap.size, 0, none⟩) k n) k (Ints L)) ∧ Below w.heap.size w wr) (fun _ i _ => n - (intOf i).toNat)
  case atStart => exact ⟨0, Nat.zero_le _, rfl, rfl, ⟨[], rfl, List.Pairwise.nil, List.Perm.refl _, hown0⟩, b0.out⟩
  case round =>
    obtain ⟨k, hk, rfl, rfl, ⟨L, hLl, hLs0, hLp0, hown⟩, hnx⟩ := hrel
    have hLs := Hid.mk' hLs0
    have hLp := Hid.mk' hLp0
    have hll := Hid.mk' hLl
    have hB := Hid.mk' hnx
    clear hLs0 hLp0 hown0 hLl
    by_cases hlt : k < n
    · obtain ⟨b, off, rfl, hblt, hc0⟩ := H.out.at hlt
      obtain ⟨v, hv0⟩ : ∃ v, v = Z k := ⟨_, rfl⟩
      have hv := Hid.mk' hv0
      have hc := (hB.out.cell (p := ⟨b, off + k, none⟩) hblt).trans hc0
      simp only [← hv0] at hc
      have hsz := hB.out.size
      clear hc0 hv0 hnx
      go_wp2_with (at_builtin; refine wpList_append_fits _ rfl _ _ 22 rfl w.heap.size 26 i0 1 Try.underlying22 hi hz1 w.heap.size k n (Ints L) rfl (hown.alloc _) ⟨wr.heap.size, 0, none⟩ 1 1 [.int .u64 v] rfl rfl (cell_one_new _ _ _) (ints_oneCell .u64 [v]) (by omega) ?_)
      intro w1 hown1 hg1
      have b1 := Hid.mk' ((hB.out.alloc hB.out.size (.cells #[.int .u64 v] 26)).grown hg1 (by simp; omega) (fun j hj => by cases hj; exact Nat.le_refl _))
      have hown2 : Hid (w1.ownsRow w.heap.size 26 1 (.slice (some ⟨w.heap.size, 0, none⟩) (k + 1) n) (k + 1) (Ints (Mid L k v))) := by
        have e : Ints L ++ [.int .u64 v] = Ints (Mid L k v) := by
          rw [← hll.out, ← mid_end]; simp [Ints]
        rw [e] at hown1
        exact hown1
      clear hown1 hg1 hown hc
      go_wp2_with fail
      go_loopw [6] (fun i wr => ∃ j : Nat, j ≤ k ∧ i = .int .i64 j ∧ (∀ x ∈ L.drop j, v < x) ∧ (∃ x, wr.ownsRow w.heap.size 26 1 (.slice (some ⟨w.heap.size, 0, none⟩) (k + 1) n) (k + 1) (Ints (Mid L j x))) ∧ Below w.heap.size w wr) (fun i _ => (intOf i).toNat)
      case atStart => exact ⟨k, Nat.le_refl _, by go_num, (fun x hx => by rw [← hll.out, List.drop_length] at hx; exact absurd hx (by simp)), ⟨v, hown2.out⟩, b1.out⟩
      case round =>
        obtain ⟨j, hj, rfl, hr0, ⟨x, hown⟩, hb0⟩ := hrel
        have hr := Hid.mk' hr0
        have b2 := Hid.mk' hb0
        clear hr0 hb0
        have hjl : j ≤ L.length := by rw [hll.out]; exact hj
        have fj := hown.frozenAt j
        have cj := (hown.cellAt j (by omega)).trans (ints_get (mid_at x hjl))
        have R1 := Hid.mk' (hown.stored j (.int .u64 v)).1
        by_cases h0 : j = 0
        · subst h0
          have R3 := Hid.mk' (laid hll.out hLs.out hLp.out hv.out hj hr.out (fun q h e => by omega) R1.out)
          have b3 := Hid.mk' (b2.out.setCell (p := ⟨w.heap.size, 0, none⟩) (Nat.le_refl _) (.int .u64 v))
          clear hown
          go_wp2_with fail
          go_roundw
          case rel => exact ⟨k + 1, by omega, by go_num, rfl, R3.out, b3.out⟩
          case measure => simp [intOf]; omega
        · obtain ⟨q, rfl⟩ : ∃ q, j = q + 1 := ⟨j - 1, by omega⟩
          have hq : q < L.length := by omega
          have cq := (hown.cellAt q (by omega)).trans (ints_get ((mid_lt x (Nat.lt_succ_self q) hjl).trans (List.getElem?_eq_getElem hq)))
          obtain ⟨y, hy0⟩ : ∃ y, y = L[q] := ⟨_, rfl⟩
          have hy := Hid.mk' hy0
          rw [← hy0] at cq
          clear hy0
          have R2 := Hid.mk' (hown.stored (q + 1) (.int .u64 y)).1
          by_cases hvy : v < y
          · have R3 : Hid ((wr.setCell ⟨w.heap.size, q + 1, none⟩ (.int .u64 y)).ownsRow w.heap.size 26 1 (.slice (some ⟨w.heap.size, 0, none⟩) (k + 1) n) (k + 1) (Ints (Mid L q y))) := by
              have h := R2.out
              rw [ints_set, hy.out, mid_shift x hq] at h
              rw [hy.out]
              exact h
            have b3 := Hid.mk' (b2.out.setCell (p := ⟨w.heap.size, q + 1, none⟩) (Nat.le_refl _) (.int .u64 y))
            have hr2 : Hid (∀ x ∈ L.drop q, v < x) := fun z hz => by
              rw [List.drop_eq_getElem_cons hq] at hz
              rcases List.mem_cons.1 hz with rfl | hz
              · rw [← hy.out]; exact hvy
              · exact hr.out z hz
            clear hown R1 R2
            go_wp2_with fail
            go_roundw
            case rel => exact ⟨q, by omega, rfl, hr2.out, ⟨y, R3.out⟩, b3.out⟩
            case measure => simp [intOf]
          · have R3 := Hid.mk' (laid hll.out hLs.out hLp.out hv.out hj hr.out (fun q' h e => by
              have e2 : q' = q := by omega
              subst e2
              rw [← hy.out]
              omega) R1.out)
            have b3 := Hid.mk' (b2.out.setCell (p := ⟨w.heap.size, q + 1, none⟩) (Nat.le_refl _) (.int .u64 v))
            clear hown R1 R2
            go_wp2_with fail
            go_roundw
            case rel => exact ⟨k + 1, by omega, by go_num, rfl, R3.out, b3.out⟩
            case measure => simp [intOf]; omega
    · have hke : k = n := by omega
      subst hke
      go_wp2_with fail
      go_ret
      exact ⟨rfl, ⟨L, hll.out, hLs.out, hLp.out, hown⟩, hB.out⟩

end Go.Proofs.Qxb6612222a
