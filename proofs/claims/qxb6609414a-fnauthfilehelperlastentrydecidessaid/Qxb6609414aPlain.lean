/-
  THE PLAIN LAW of the two statements on the auth file's helper: what a map holds that was filled in the file's order. No Go here.
-/
import Derived.Maps.Views
import Derived.Maps.Own
import Derived.Laws.Strings
namespace Go.Proofs.Qxb6609414a
open Go.Maps

/-- The last value under key 'host' among the first n pairs. -/
def lastV (K V : Nat → ByteArray) (host : ByteArray) : Nat → Option ByteArray
  | 0 => none
  | n + 1 => if K n = host then some (V n) else lastV K V host n

/-- The map's datum behind n stores. -/
def Dn (K V : Nat → ByteArray) : Nat → DataW Unit
  | 0 => .map []
  | n + 1 => (Dn K V n).put (.string (K n).data.toList) (.lit (.string (V n).data.toList))

/-- Not the empty name: the name; else the store. -/
def pick (v store : ByteArray) : ByteArray := if v.data.toList = [] then store else v

/-- What the list's own rule answers. -/
def model (K V : Nat → ByteArray) (store host : ByteArray) (n : Nat) : ByteArray :=
  match lastV K V host n with
  | some v => pick v store
  | none => store

theorem bytes_ext {a b : ByteArray} (h : a.data.toList = b.data.toList) : a = b := by
  cases a; cases b; simp only at h; congr 1; exact Array.toList_inj.1 h

theorem isMap_Dn (K V : Nat → ByteArray) : ∀ n, IsMap (Dn K V n)
  | 0 => isMap_empty
  | n + 1 => (isMap_Dn K V n).put _ _

theorem atKey_Dn (K V : Nat → ByteArray) (host : ByteArray) : ∀ n, (Dn K V n).atKey (.string host.data.toList) (.lit (.string [])) = .lit (.string ((lastV K V host n).getD ByteArray.empty).data.toList)
  | 0 => rfl
  | n + 1 => by
    unfold Dn lastV
    by_cases h : K n = host
    · subst h
      rw [atKey_put_same (k := .string (K n).data.toList) (isMap_Dn K V n) trivial]
      simp
    · rw [atKey_put_other (fun e => h (bytes_ext (by injection e with e; exact e.symm))), atKey_Dn K V host n]
      simp [h]

theorem pick_look (K V : Nat → ByteArray) (store host : ByteArray) (n : Nat) : pick ((lastV K V host n).getD ByteArray.empty) store = model K V store host n := by
  unfold model
  cases lastV K V host n with
  | none => exact if_pos rfl
  | some v => rfl

/-! ### the walk's own forms of the tests -/
theorem eq_of_beq {a b : ByteArray} (h : (a.toList == b.toList) = true) : a = b := by
  rw [beq_iff_eq, ByteArray.toList_eq, ByteArray.toList_eq] at h
  exact bytes_ext h
theorem ne_of_beq {a b : ByteArray} (h : (a.toList == b.toList) = false) : a ≠ b := by
  rintro rfl
  simp at h
theorem beq_of_eq {a b : ByteArray} (h : a = b) : (a.toList == b.toList) = true := by subst h; simp
theorem beq_of_ne {a b : ByteArray} (h : a ≠ b) : (a.toList == b.toList) = false := by
  cases hb : (a.toList == b.toList)
  · rfl
  · exact absurd (eq_of_beq hb) h
theorem pick_full {v : ByteArray} (h : (!v.toList.isEmpty) = true) (store : ByteArray) : pick v store = v := by
  unfold pick
  rw [if_neg]
  intro e
  rw [ByteArray.toList_eq, e] at h
  simp at h
theorem pick_void {v : ByteArray} (h : (!v.toList.isEmpty) = false) (store : ByteArray) : pick v store = store := by
  unfold pick
  rw [if_pos]
  rw [ByteArray.toList_eq] at h
  simpa using h

theorem void_eq {v : ByteArray} (h : (!v.toList.isEmpty) = false) : v = { data := #[] } := by
  rw [ByteArray.toList_eq] at h
  exact bytes_ext (by simpa using h)

theorem lastV_none {K V : Nat → ByteArray} {host : ByteArray} : ∀ {n : Nat}, (∀ j, j < n → K j ≠ host) → lastV K V host n = none
  | 0, _ => rfl
  | n + 1, h => by
    unfold lastV
    rw [if_neg (h n (by omega))]
    exact lastV_none (fun j hj => h j (by omega))
theorem lastV_hit {K V : Nat → ByteArray} {host : ByteArray} {m : Nat} (hm : K m = host) : ∀ {n : Nat}, m < n → (∀ j, m + 1 ≤ j → j < n → K j ≠ host) → lastV K V host n = some (V m)
  | n + 1, h, hno => by
    unfold lastV
    by_cases e : n = m
    · subst e; rw [if_pos hm]
    · rw [if_neg (hno n (by omega) (by omega))]
      exact lastV_hit hm (by omega) (fun j h1 h2 => hno j h1 (by omega))
theorem model_none {K V : Nat → ByteArray} {store host : ByteArray} {n : Nat} (h : ∀ j, 0 ≤ j → j < n → K j ≠ host) : model K V store host n = store := by
  unfold model
  rw [lastV_none (fun j hj => h j (by omega) hj)]
theorem model_hit {K V : Nat → ByteArray} {store host : ByteArray} {n m : Nat} (hm : K m = host) (hmn : m < n) (h : ∀ j, m + 1 ≤ j → j < n → K j ≠ host) : model K V store host n = pick (V m) store := by
  unfold model
  rw [lastV_hit hm hmn h]
theorem lastV_congr {K V K' V' : Nat → ByteArray} {host : ByteArray} : ∀ {n : Nat}, (∀ j, j < n → K' j = K j ∧ V' j = V j) → lastV K' V' host n = lastV K V host n
  | 0, _ => rfl
  | n + 1, h => by
    unfold lastV
    rw [(h n (by omega)).1, (h n (by omega)).2, lastV_congr (fun j hj => h j (by omega))]
theorem Dn_congr {K V K' V' : Nat → ByteArray} : ∀ {n : Nat}, (∀ j, j < n → K' j = K j ∧ V' j = V j) → Dn K' V' n = Dn K V n
  | 0, _ => rfl
  | n + 1, h => by
    unfold Dn
    rw [(h n (by omega)).1, (h n (by omega)).2, Dn_congr (fun j hj => h j (by omega))]

/-- The pairs with one more behind them. -/
def snocF (F : Nat → ByteArray) (n : Nat) (x : ByteArray) (i : Nat) : ByteArray := if i = n then x else F i
theorem snocF_at (F : Nat → ByteArray) (n : Nat) (x : ByteArray) : snocF F n x n = x := if_pos rfl
theorem snocF_lt (F : Nat → ByteArray) {n i : Nat} (x : ByteArray) (h : i < n) : snocF F n x i = F i := if_neg (by omega)
theorem model_own (K V : Nat → ByteArray) (store host h : ByteArray) (n : Nat) : model (snocF K n host) (snocF V n h) store host (n + 1) = pick h store := by
  unfold model lastV
  rw [if_pos (snocF_at K n host), snocF_at]
theorem model_else (K V : Nat → ByteArray) (store host other h : ByteArray) (n : Nat) (hne : other ≠ host) : model (snocF K n other) (snocF V n h) store host (n + 1) = model K V store host n := by
  have e : lastV (snocF K n other) (snocF V n h) host (n + 1) = lastV (snocF K n other) (snocF V n h) host n := if_neg (by rw [snocF_at]; exact hne)
  unfold model
  rw [e, lastV_congr (K := K) (V := V) (fun j hj => ⟨snocF_lt K other hj, snocF_lt V h hj⟩)]

end Go.Proofs.Qxb6609414a
