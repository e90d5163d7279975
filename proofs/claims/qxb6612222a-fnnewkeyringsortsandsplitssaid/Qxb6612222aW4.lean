/-
  THE SORT OF A ROW OF KEYS, by the shelf's contract.
-/
import Derived.Test.Qxb6612222aW3
import Derived.Test.Qxb6612222aShelf
namespace Go.Proofs.Qxb6612222a
open Go.RowKit Go.Sort Go.Shelf

/-- A slice of keys that holds d, in this world. -/
def KRow (w : World) (v : Value) (d : List (Int × Option Addr)) : Prop :=
  ∃ a cap, v = .slice a d.length cap ∧ (d.length = 0 ∨ ∃ g, a = some ⟨g, 0, none⟩ ∧ g < w.heap.size ∧ HoldsK encK 2 w g 0 d.toArray)

def flatL (d : List (Int × Option Addr)) : List Value := d.flatMap encK
theorem flatL_length : ∀ d, (flatL d).length = d.length * 2
  | [] => rfl
  | x :: d => by
    have := flatL_length d
    simp [flatL, encK] at this ⊢
    omega
theorem flatL_get : ∀ (d : List (Int × Option Addr)) (t : Nat), t < d.length * 2 → (flatL d)[t]? = some ((encK (d[t / 2]!))[t % 2]!)
  | x :: d, 0, _ => by simp [flatL, encK]
  | x :: d, 1, _ => by simp [flatL, encK]
  | x :: d, t + 2, h => by
    have h' : t < d.length * 2 := by simp at h; omega
    have := flatL_get d t h'
    have e1 : (t + 2) / 2 = t / 2 + 1 := by omega
    have e2 : (t + 2) % 2 = t % 2 := by omega
    rw [e1, e2]
    have e3 : (x :: d)[t / 2 + 1]! = d[t / 2]! := by simp
    rw [e3, ← this]
    simp [flatL, encK]

theorem krow_own {w : World} {B : Nat} {e : TypeId} {v : Value} {d : List (Int × Option Addr)} (h : w.ownsRow B e 2 v d.length (flatL d)) : KRow w v d := by
  rcases h.2 with ⟨rfl, hn⟩ | ⟨g, cap, cur, rfl, r⟩
  · exact ⟨none, 0, by rw [hn], .inl hn⟩
  · refine ⟨_, cap, rfl, .inr ⟨g, rfl, (h.lt g rfl).2, fun j hj => ?_⟩⟩
    have hj' : j < d.length * 2 := by simpa using hj
    have hc := h.cellAt j hj'
    rw [Nat.zero_add]
    refine ⟨?_, h.frozenAt j⟩
    rw [hc, flatL_get d j hj', get_flatK _ _ _ _ (by simpa using hj')]
    simp

/-- What is read of it: element i's two cells. -/
theorem KRow.at {w : World} {v : Value} {d : List (Int × Option Addr)} (h : KRow w v d) {i : Nat} (hi : i < d.length) :
    ∃ g cap, v = .slice (some ⟨g, 0, none⟩) d.length cap ∧ g < w.heap.size ∧ w.cell? ⟨g, i * 2, none⟩ = some (.int .u64 (d[i]!).1) ∧ w.cell? ⟨g, i * 2 + 1, none⟩ = some (.pointer (d[i]!).2) := by
  obtain ⟨a, cap, rfl, h0 | ⟨g, rfl, hlt, hH⟩⟩ := h
  · omega
  · refine ⟨g, cap, rfl, hlt, ?_, ?_⟩
    · have := (hH (i * 2) (by simp; omega)).1
      rw [get_flatK _ _ _ _ (by simp; omega)] at this
      simpa [encK] using this
    · have := (hH (i * 2 + 1) (by simp; omega)).1
      rw [get_flatK _ _ _ _ (by simp; omega)] at this
      have e1 : (i * 2 + 1) / 2 = i := by omega
      have e2 : (i * 2 + 1) % 2 = 1 := by omega
      rw [e1, e2] at this
      simpa [encK] using this

theorem KRow.kept {w w' : World} {v : Value} {d : List (Int × Option Addr)} {row : Option Nat} (h : KRow w v d) (hg : w.grownBy w' row) (hne : v.ownBlock = none ∨ v.ownBlock ≠ row) : KRow w' v d := by
  obtain ⟨a, cap, rfl, h0 | ⟨g, rfl, hlt, hH⟩⟩ := h
  · exact ⟨a, cap, rfl, .inl h0⟩
  · refine ⟨_, cap, rfl, .inr ⟨g, rfl, Nat.lt_of_lt_of_le hlt hg.size, fun j hj => ?_⟩⟩
    have hb : w'.heap[g]? = w.heap[g]? := hg.block g hlt (by
      rcases hne with h | h
      · simp [Value.ownBlock] at h
      · exact h)
    exact ⟨(World.cell?_of_block (a := ⟨g, _, none⟩) hb).trans (hH j hj).1, (World.frozen?_of_block (a := ⟨g, _, none⟩) hb).trans (hH j hj).2⟩

theorem grownBy_sortK (w : World) (g n : Nat) (d : Array (Int × Option Addr)) (os : Array Obj) : w.grownBy (sortWorldK encK 2 w g 0 n d os) (some g) := by
  refine ⟨rfl, rfl, rfl, ?_, fun b hb hne => ?_⟩
  · simp [sortWorldK, putRowK, putRow, mapBlock]
  · unfold sortWorldK
    rw [heap_grow_old _ _ (by simpa [putRowK, putRow, mapBlock, ahead] using hb)]
    have hne' : g ≠ b := fun e => hne (by rw [e])
    simp [putRowK, putRow, mapBlock, Array.getElem?_modify, hne']

/-- By serial. -/
def KSorted (d : List (Int × Option Addr)) : Prop := d.Pairwise (fun x y => x.1 ≤ y.1)

theorem ltK (x y : Int × Option Addr) : ltOf (fun x y : Int × Option Addr => Lib.compareInt x.1 y.1) x y = decide (x.1 < y.1) := by
  unfold ltOf Lib.compareInt
  by_cases h1 : x.1 < y.1
  · simp [h1]
  · by_cases h2 : y.1 < x.1 <;> simp [h1, h2]
theorem swoK : SWO (ltOf fun x y : Int × Option Addr => Lib.compareInt x.1 y.1) where
  irrefl x := by rw [ltK]; simp
  trans x y z h1 h2 := by rw [ltK] at *; simp at *; omega
  ntrans x y z h1 h2 := by rw [ltK] at *; simp at *; omega

theorem ksorted_of {d : Array (Int × Option Addr)} (h : SortedIn (ltOf fun x y : Int × Option Addr => Lib.compareInt x.1 y.1) 0 d.size d) : KSorted d.toList := by
  refine List.pairwise_iff_getElem.2 fun i j hi hj hij => ?_
  have := h i j (Nat.zero_le _) hij (by simpa using hj)
  rw [ltK] at this
  have e1 : d[i]! = d.toList[i] := by simp at hi; simp [hi]
  have e2 : d[j]! = d.toList[j] := by simp at hj; simp [hj]
  rw [e1, e2] at this
  simp only [decide_eq_false_iff_not] at this
  omega

/-- What the sort of a slice of keys leaves. -/
def Sorts (w w' : World) (v : Value) (d : List (Int × Option Addr)) : Prop := (∃ d' : List (Int × Option Addr), d'.Perm d ∧ KSorted d' ∧ KRow w' v d') ∧ w.grownBy w' v.ownBlock

theorem sorts_none {w : World} {v : Value} {d : List (Int × Option Addr)} (h : KRow w v d) (h0 : d.length = 0) : Sorts w w v d := by
  have : d = [] := List.length_eq_zero_iff.1 h0
  subst this
  exact ⟨⟨[], List.Perm.refl _, List.Pairwise.nil, h⟩, World.grownBy.refl _ _⟩

theorem sorts_some {w w' : World} {g cap n : Nat} {d : List (Int × Option Addr)} {d' : Array (Int × Option Addr)} {os : Array Obj} (hlt : g < w.heap.size) (hH : HoldsK encK 2 w g 0 d.toArray)
    (hp : PermIn 0 d.toArray.size d.toArray d') (hs : SortedIn (ltOf fun x y : Int × Option Addr => Lib.compareInt x.1 y.1) 0 d.toArray.size d') (hw : w' = sortWorldK encK 2 w g 0 n d' os) : Sorts w w' (.slice (some ⟨g, 0, none⟩) d.length cap) d := by
  obtain ⟨hsz, _, hperm⟩ := hp
  have e1 : d'.extract 0 d.toArray.size = d' := by rw [← hsz]; exact Array.extract_size
  rw [e1, Array.extract_size] at hperm
  subst hw
  refine ⟨⟨d'.toList, hperm, ksorted_of (by rw [hsz]; exact hs), ⟨_, cap, ?_, .inr ⟨g, rfl, ?_, ?_⟩⟩⟩, grownBy_sortK w g n d' os⟩
  · have : d'.toList.length = d.length := by simpa using hsz
    rw [this]
  · exact Nat.lt_of_lt_of_le hlt (grownBy_sortK w g n d' os).size
  · exact holdsK_sortWorldK_c encK 2 w g 0 d.toArray d' n os hH hlt hsz

theorem oneCells (x : Int × Option Addr) : ∀ v ∈ encK x, v.oneCell' = true := by
  intro v hv
  simp [encK] at hv
  rcases hv with rfl | rfl <;> rfl

theorem sort10 (v : Value) (d : List (Int × Option Addr)) (w : World) (h : KRow w v d) (hd : d.length ≤ 4096) :
    Calls Try.prog 10 #[v, .func (.func 11) #[] #[]] w fun e w' => e = .returned (.tuple #[]) ∧ Sorts w w' v d := by
  have hr := h
  obtain ⟨a, cap, rfl, h0 | ⟨g, rfl, hlt, hH⟩⟩ := h
  · rw [h0]
    exact (AnyF.slices_SortFunc_none Try.sortS a cap (.func (.func 11) #[] #[]) w).mono fun e w' ⟨he, hw⟩ => ⟨he, by rw [hw, ← h0]; exact sorts_none hr h0⟩
  · have eg : ∀ args w, (callFunc 11 args).run Try.prog w = .ok (.enter 11 args) w := enters_of Try.func11 (by kernel_rfl) rfl
    have hcon := AnyQ.slices_SortFunc Try.sortS 2 Try.isAgg44 Try.sizeOf44 encK (fun _ => rfl) oneCells (fun x y => Lib.compareInt x.1 y.1) swoK 11 #[] g 0 cap d.toArray w eg (fun _ _ _ _ x y => closureS x y _) hH hlt (by simp; omega)
    exact hcon.mono fun e w' ⟨he, d', n, os, hp, hs, hw⟩ => ⟨he, sorts_some hlt hH hp hs hw⟩

theorem sort13 (v : Value) (d : List (Int × Option Addr)) (w : World) (h : KRow w v d) (hd : d.length ≤ 4096) :
    Calls Try.prog 13 #[v, .func (.func 14) #[] #[]] w fun e w' => e = .returned (.tuple #[]) ∧ Sorts w w' v d := by
  have hr := h
  obtain ⟨a, cap, rfl, h0 | ⟨g, rfl, hlt, hH⟩⟩ := h
  · rw [h0]
    exact (AnyF.slices_SortFunc_none Try.sortV a cap (.func (.func 14) #[] #[]) w).mono fun e w' ⟨he, hw⟩ => ⟨he, by rw [hw, ← h0]; exact sorts_none hr h0⟩
  · have eg : ∀ args w, (callFunc 14 args).run Try.prog w = .ok (.enter 14 args) w := enters_of Try.func14 (by kernel_rfl) rfl
    have hcon := AnyQ.slices_SortFunc Try.sortV 2 Try.isAgg49 Try.sizeOf49 encK (fun _ => rfl) oneCells (fun x y => Lib.compareInt x.1 y.1) swoK 14 #[] g 0 cap d.toArray w eg (fun _ _ _ _ x y => closureV x y _) hH hlt (by simp; omega)
    exact hcon.mono fun e w' ⟨he, d', n, os, hp, hs, hw⟩ => ⟨he, sorts_some hlt hH hp hs hw⟩

end Go.Proofs.Qxb6612222a
