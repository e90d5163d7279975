/-
  THE PLAIN LAWS: insertion into a sorted list; two sorted lists of the same elements are one; counting. No Go here.
-/
namespace Go.Proofs.Qxb6612222a

def Sorted (L : List Int) : Prop := L.Pairwise (· ≤ ·)

/-- L with x laid in at place j. -/
def Mid (L : List Int) (j : Nat) (x : Int) : List Int := L.take j ++ x :: L.drop j

theorem mid_length (L : List Int) (j : Nat) (x : Int) : (Mid L j x).length = L.length + 1 := by
  simp [Mid]; omega
theorem mid_end (L : List Int) (x : Int) : L ++ [x] = Mid L L.length x := by simp [Mid]
theorem mid_lt {L : List Int} {j i : Nat} (x : Int) (hi : i < j) (hj : j ≤ L.length) : (Mid L j x)[i]? = L[i]? := by
  unfold Mid
  rw [List.getElem?_append_left (by simp; omega), List.getElem?_take, if_pos hi]
theorem mid_at {L : List Int} {j : Nat} (x : Int) (hj : j ≤ L.length) : (Mid L j x)[j]? = some x := by
  unfold Mid
  rw [List.getElem?_append_right (by simp; omega)]
  simp [Nat.min_eq_left hj]
theorem mid_put {L : List Int} {j : Nat} (x v : Int) (hj : j ≤ L.length) : (Mid L j x).set j v = Mid L j v := by
  unfold Mid
  rw [List.set_append_right _ _ (by simp; omega)]
  simp [Nat.min_eq_left hj]
theorem mid_shift {L : List Int} {q : Nat} (x : Int) (hq : q < L.length) : (Mid L (q + 1) x).set (q + 1) (L[q]) = Mid L q (L[q]) := by
  rw [mid_put _ _ hq]
  unfold Mid
  rw [List.take_succ_eq_append_getElem hq, List.append_assoc, List.drop_eq_getElem_cons hq]
  simp
theorem mid_perm (L : List Int) (j : Nat) (v : Int) : (Mid L j v).Perm (L ++ [v]) := by
  unfold Mid
  refine List.perm_middle.trans ?_
  rw [List.take_append_drop]
  exact (List.perm_append_singleton v L).symm
theorem mid_sorted {L : List Int} {j : Nat} {v : Int} (hs : Sorted L) (hj : j ≤ L.length) (hr : ∀ x ∈ L.drop j, v < x) (hl : ∀ q, (h : q < L.length) → q + 1 = j → L[q] ≤ v) : Sorted (Mid L j v) := by
  unfold Sorted Mid
  rw [List.pairwise_append]
  refine ⟨hs.sublist (List.take_sublist _ _), List.pairwise_cons.2 ⟨fun x hx => Int.le_of_lt (hr x hx), hs.sublist (List.drop_sublist _ _)⟩, ?_⟩
  have hlv : ∀ x ∈ L.take j, x ≤ v := fun x hx => by
    obtain ⟨i, hi, rfl⟩ := List.mem_iff_getElem.1 hx
    simp at hi
    rw [List.getElem_take]
    have hq : j - 1 < L.length := by omega
    have h1 := hl (j - 1) hq (by omega)
    by_cases e : i = j - 1
    · subst e; exact h1
    · exact Int.le_trans (List.pairwise_iff_getElem.1 hs i (j - 1) (by omega) hq (by omega)) h1
  intro x hx y hy
  rcases List.mem_cons.1 hy with rfl | hy
  · exact hlv x hx
  · exact Int.le_trans (hlv x hx) (Int.le_of_lt (hr y hy))

theorem sorted_unique {A B : List Int} (ha : Sorted A) (hb : Sorted B) (h : A.Perm B) : A = B :=
  List.Perm.eq_of_pairwise (le := fun x y => x ≤ y) (fun _ _ _ _ h1 h2 => Int.le_antisymm h1 h2) ha hb h

/-- How many of the first n. -/
def cnt (g : Nat → Bool) : Nat → Nat
  | 0 => 0
  | n + 1 => cnt g n + if g n then 1 else 0
theorem cnt_le (g : Nat → Bool) : ∀ n, cnt g n ≤ n
  | 0 => Nat.le_refl _
  | n + 1 => by have := cnt_le g n; unfold cnt; split <;> omega
theorem cnt_countP (f : Nat → Int × Bool) (p : Int × Bool → Bool) : ∀ n, cnt (fun i => p (f i)) n = ((List.range n).map f).countP p
  | 0 => rfl
  | n + 1 => by
    rw [cnt, cnt_countP f p n, List.range_succ, List.map_append, List.countP_append]
    by_cases h : p (f n) <;> simp [h]
theorem cnt_congr {g g' : Nat → Bool} : ∀ {n : Nat}, (∀ i, i < n → g i = g' i) → cnt g n = cnt g' n
  | 0, _ => rfl
  | n + 1, h => by rw [cnt, cnt, cnt_congr (fun i hi => h i (by omega)), h n (by omega)]

end Go.Proofs.Qxb6612222a
