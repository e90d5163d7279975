/-
  THE PLAIN LAW: a list of names, none empty, no two alike. No Go here.
-/
import Derived.Maps.Views
import Derived.Maps.Own
import Derived.Laws.Strings
namespace Go.Proofs.Qxb6612200aFmt
open Go.Maps

/-- Does x stand among the first n? -/
def seen (S : Nat → ByteArray) (x : ByteArray) : Nat → Bool
  | 0 => false
  | n + 1 => decide (S n = x) || seen S x n
/-- The first n are named and distinct. -/
def goodB (S : Nat → ByteArray) : Nat → Bool
  | 0 => true
  | n + 1 => goodB S n && !(S n).toList.isEmpty && !(seen S (S n) n)
/-- The set that holds the first n. -/
def Dn (S : Nat → ByteArray) : Nat → DataW Unit
  | 0 => .map []
  | n + 1 => (Dn S n).put (.string (S n).data.toList) (.lit (.bool true))
/-- What Validate accepts. -/
def okP (name measure : ByteArray) (S : Nat → ByteArray) (n : Nat) : Bool :=
  !name.toList.isEmpty && decide (name.size ≤ 32768) && !measure.toList.isEmpty && decide (0 < n) && goodB S n

theorem bytes_ext {a b : ByteArray} (h : a.data.toList = b.data.toList) : a = b := by
  cases a; cases b; simp only at h; congr 1; exact Array.toList_inj.1 h
theorem eq_of_beq {a b : ByteArray} (h : (a.toList == b.toList) = true) : a = b := by
  rw [beq_iff_eq, ByteArray.toList_eq, ByteArray.toList_eq] at h
  exact bytes_ext h
theorem ne_of_beq {a b : ByteArray} (h : (a.toList == b.toList) = false) : a ≠ b := by
  rintro rfl
  simp at h
theorem beq_of_eq {a b : ByteArray} (h : a = b) : (a.toList == b.toList) = true := by subst h; simp
theorem beq_of_ne {a b : ByteArray} (h : a ≠ b) : (a.toList == b.toList) = false := by
  cases hb : (a.toList == b.toList)
  · rfl
  · exact absurd (eq_of_beq hb) h

theorem seen_iff (S : Nat → ByteArray) (x : ByteArray) : ∀ n, seen S x n = true ↔ ∃ j, j < n ∧ S j = x
  | 0 => by simp [seen]
  | n + 1 => by
    rw [seen, Bool.or_eq_true, decide_eq_true_eq, seen_iff S x n]
    constructor
    · rintro (h | ⟨j, hj, h⟩)
      · exact ⟨n, by omega, h⟩
      · exact ⟨j, by omega, h⟩
    · rintro ⟨j, hj, h⟩
      by_cases e : j = n
      · subst e; exact .inl h
      · exact .inr ⟨j, by omega, h⟩
theorem goodB_iff (S : Nat → ByteArray) : ∀ n, goodB S n = true ↔ ∀ i, i < n → (S i).toList.isEmpty = false ∧ ∀ j, j < i → S j ≠ S i
  | 0 => by simp [goodB]
  | n + 1 => by
    rw [goodB, Bool.and_eq_true, Bool.and_eq_true, goodB_iff S n]
    constructor
    · rintro ⟨⟨h1, h2⟩, h3⟩ i hi
      by_cases e : i = n
      · subst e
        refine ⟨by simpa using h2, fun j hj e => ?_⟩
        have : seen S (S i) i = true := (seen_iff S _ i).2 ⟨j, hj, e⟩
        rw [this] at h3
        cases h3
      · exact h1 i (by omega)
    · intro h
      refine ⟨⟨fun i hi => h i (by omega), by rw [(h n (by omega)).1]; rfl⟩, ?_⟩
      cases hs : seen S (S n) n
      · rfl
      · obtain ⟨j, hj, e⟩ := (seen_iff S _ n).1 hs
        exact absurd e ((h n (by omega)).2 j hj)
theorem goodB_false {S : Nat → ByteArray} {k n : Nat} (h : goodB S k = false) (hk : k ≤ n) : goodB S n = false := by
  cases hg : goodB S n
  · rfl
  · rw [goodB_iff] at hg
    have : goodB S k = true := (goodB_iff S k).2 (fun i hi => hg i (by omega))
    rw [this] at h
    cases h
theorem goodB_void {S : Nat → ByteArray} {k n : Nat} (h : (S k).toList.isEmpty = true) (hk : k < n) : goodB S n = false :=
  goodB_false (k := k + 1) (by simp [goodB, h]) hk
theorem goodB_seen {S : Nat → ByteArray} {k n : Nat} (h : seen S (S k) k = true) (hk : k < n) : goodB S n = false :=
  goodB_false (k := k + 1) (by simp [goodB, h]) hk
theorem goodB_next {S : Nat → ByteArray} {k : Nat} (hg : goodB S k = true) (h : (S k).toList.isEmpty = false) (hs : seen S (S k) k = false) : goodB S (k + 1) = true := by
  simp [goodB, hg, h, hs]
theorem goodB_twice {S : Nat → ByteArray} {i j n : Nat} (hij : i < j) (hj : j < n) (h : S i = S j) : goodB S n = false := by
  cases hg : goodB S n
  · rfl
  · exact absurd h (((goodB_iff S n).1 hg j hj).2 i hij)

theorem isMap_Dn (S : Nat → ByteArray) : ∀ n, IsMap (Dn S n)
  | 0 => isMap_empty
  | n + 1 => (isMap_Dn S n).put _ _
theorem atKey_Dn (S : Nat → ByteArray) (x : ByteArray) : ∀ n, (Dn S n).atKey (.string x.data.toList) (.lit (.bool false)) = .lit (.bool (seen S x n))
  | 0 => rfl
  | n + 1 => by
    unfold Dn seen
    by_cases h : S n = x
    · subst h
      rw [atKey_put_same (k := .string (S n).data.toList) (isMap_Dn S n) trivial]
      simp
    · rw [atKey_put_other (fun e => h (bytes_ext (by injection e with e; exact e.symm))), atKey_Dn S x n]
      simp [h]

/-- The list turned round. -/
def rev (S : Nat → ByteArray) (n i : Nat) : ByteArray := S (n - 1 - i)
/-- The list written out twice. -/
def dbl (S : Nat → ByteArray) (n i : Nat) : ByteArray := if i < n then S i else S (i - n)
theorem goodB_rev (S : Nat → ByteArray) (n : Nat) : goodB (rev S n) n = goodB S n := by
  have key : ∀ T : Nat → ByteArray, goodB T n = true → goodB (rev T n) n = true := fun T h => by
    rw [goodB_iff] at h ⊢
    intro i hi
    refine ⟨(h (n - 1 - i) (by omega)).1, fun j hj e => ?_⟩
    exact (h (n - 1 - j) (by omega)).2 (n - 1 - i) (by omega) e.symm
  cases hs : goodB S n
  · cases hr : goodB (rev S n) n
    · rfl
    · have h2 := key _ hr
      have e : goodB (rev (rev S n) n) n = goodB S n := by
        rw [Bool.eq_iff_iff, goodB_iff, goodB_iff]
        have e : ∀ i, i < n → rev (rev S n) n i = S i := fun i hi => by
          unfold rev
          congr 1
          omega
        constructor
        · intro h i hi
          have := h i hi
          rw [e i hi] at this
          exact ⟨this.1, fun j hj => by have := this.2 j hj; rwa [e j (by omega)] at this⟩
        · intro h i hi
          rw [e i hi]
          exact ⟨(h i hi).1, fun j hj => by rw [e j (by omega)]; exact (h i hi).2 j hj⟩
      rw [e, hs] at h2
      cases h2
  · exact key S hs
theorem goodB_dbl (S : Nat → ByteArray) (n : Nat) (h : 0 < n) : goodB (dbl S n) (2 * n) = false :=
  goodB_twice (i := 0) (j := n) h (by omega) (by simp [dbl, h])
theorem okP_dbl (name measure : ByteArray) (S : Nat → ByteArray) (n : Nat) : okP name measure (dbl S n) (2 * n) = false := by
  unfold okP
  by_cases h : 0 < n
  · rw [goodB_dbl S n h]; simp
  · have : n = 0 := by omega
    subst this
    simp
theorem okP_rev (name measure : ByteArray) (S : Nat → ByteArray) (n : Nat) : okP name measure (rev S n) n = okP name measure S n := by
  unfold okP
  rw [goodB_rev]

/-- What namedAndDistinct has seen behind k rounds: each of the first k is named and like no later one. -/
def Clear (S : Nat → ByteArray) (n k : Nat) : Prop := ∀ i, i < k → (S i).toList.isEmpty = false ∧ ∀ j, i < j → j < n → S i ≠ S j
theorem goodB_clear {S : Nat → ByteArray} {n : Nat} (h : Clear S n n) : goodB S n = true := by
  rw [goodB_iff]
  exact fun i hi => ⟨(h i hi).1, fun j hj => (h j (by omega)).2 i hj hi⟩

end Go.Proofs.Qxb6612200aFmt
