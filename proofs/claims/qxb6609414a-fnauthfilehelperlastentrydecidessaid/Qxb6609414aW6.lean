/-
  THE CONTRACTS OVER A LIST OF PAIRS, nil and empty ones too; the two laws' walks.
-/
import Derived.Test.Qxb6609414aW2
import Derived.Test.Qxb6609414aW5
namespace Go.Proofs.Qxb6609414a
open Go.RowKit Go.Maps Go.WideMaps Go.Deep

/-- WHAT IS KNOWN OF A LIST OF PAIRS IN MEMORY. -/
structure Ents (w : World) (a : Option Addr) (len cap : Nat) (K V : Nat → ByteArray) : Prop where
  form : (a = none ∧ len = 0 ∧ cap = 0) ∨ (∃ x, a = some x ∧ len = 0) ∨
    (∃ b off, a = some ⟨b, off, none⟩ ∧ b < w.heap.size ∧ (∀ i, i < len → w.cell? ⟨b, off + i * 2, none⟩ = some (.string (K i))) ∧ (∀ i, i < len → w.cell? ⟨b, off + i * 2 + 1, none⟩ = some (.string (V i))))
  bound : len ≤ 9223372036854775807
  sK : ∀ i, (K i).size ≤ maxLen
  sV : ∀ i, (V i).size ≤ maxLen

theorem Ents.later {w w' : World} {a : Option Addr} {len cap : Nat} {K V : Nat → ByteArray} (h : Ents w a len cap K V) (hb : Below w.heap.size w w') : Ents w' a len cap K V := by
  refine ⟨?_, h.bound, h.sK, h.sV⟩
  rcases h.form with h1 | h1 | ⟨b, off, e, hlt, hK, hV⟩
  · exact .inl h1
  · exact .inr (.inl h1)
  · exact .inr (.inr ⟨b, off, e, Nat.lt_of_lt_of_le hlt hb.size, fun i hi => (hb.cell (p := ⟨b, _, none⟩) hlt).trans (hK i hi), fun i hi => (hb.cell (p := ⟨b, _, none⟩) hlt).trans (hV i hi)⟩)

/-- A map that answers every name as the list's first n pairs do, in this world and in every one that keeps its blocks. -/
def Filled (w : World) (m : Option Nat) (K V : Nat → ByteArray) (n : Nat) : Prop :=
  ∀ host : ByteArray, host.size ≤ maxLen → ∀ W : World, (∀ b, b < w.heap.size → W.heap[b]? = w.heap[b]?) →
    (Instr.lookup 27 (.map m) (.string host) false).run Try.prog W = .ok (.string ((lastV K V host n).getD ByteArray.empty)) W

theorem zero9 (w : World) : (zeroValue 9).run Try.prog w = .ok (.string ByteArray.empty) w := by kernel_rfl

theorem filled_nil (w : World) (K V : Nat → ByteArray) : Filled w none K V 0 := fun host hh W _ => by
  have h := Maps.look_nil (w := W) false law Try.underlying27 (zero9 W) (keyOf_string_mk Try.underlying9 hh)
  simpa [lastV] using h

theorem filled_own {w : World} {B n len : Nat} {K V : Nat → ByteArray} (h : w.ownsMap Try.prog 9 (plainElem Try.prog 9) B n (Dn K V len)) : Filled w (some B) K V len := fun host hh W hW => by
  have h1 : W.ownsMap Try.prog 9 (plainElem Try.prog 9) B n (Dn K V len) := by
    have hlt := h.lt
    obtain ⟨es, clock, hb, r⟩ := h
    exact ⟨es, clock, (hW B hlt).trans hb, r⟩
  obtain ⟨v, ps, hrun, hv⟩ := h1.lookup law Try.underlying27 (zero9 W) (plainElem_string (H := Unit) Try.underlying9 (s := ByteArray.empty) (by decide)) (keyOf_string_mk Try.underlying9 hh)
  obtain ⟨s, rfl, hs, _⟩ := plainElem_string_inv Try.underlying9 hv
  rw [hrun]
  have e : (Dn K V len).atKey (.string host.data.toList) (.lit (.string ByteArray.empty.data.toList)) = .lit (.string s.data.toList) := congrArg Prod.fst hs
  have e2 := atKey_Dn K V host len
  have e3 : (Lit.string s.data.toList) = .string ((lastV K V host len).getD ByteArray.empty).data.toList := by
    have : (DataW.lit (H := Unit) (.string s.data.toList)) = .lit (.string ((lastV K V host len).getD ByteArray.empty).data.toList) := e.symm.trans e2
    injection this
  injection e3 with e4
  rw [bytes_ext e4]

section
variable {w : World} {a : Option Addr} {len cap : Nat} {K V : Nat → ByteArray}

theorem bytes1_ents (h : Ents w a len cap K V) (s t : ByteArray) : Calls Try.prog 5 #[.slice a len cap, .string s, .string t] w fun e w' => SomeBool e ∧ w' = w := by
  have hl := h.bound
  rcases h.form with ⟨rfl, rfl, rfl⟩ | ⟨x, rfl, rfl⟩ | ⟨b, off, rfl, hlt, hK, hV⟩
  · exact bytes1_zero _ _ _ _ _
  · exact bytes1_zero _ _ _ _ _
  · exact bytes1_any b off len cap K V s t w hl hK hV

theorem bytes2_ents (h : Ents w a len cap K V) (s t u v : ByteArray) : Calls Try.prog 11 #[.slice a len cap, .string s, .string t, .string u, .string v] w fun e w' => SomeBool e ∧ w' = w := by
  have hl := h.bound
  rcases h.form with ⟨rfl, rfl, rfl⟩ | ⟨x, rfl, rfl⟩ | ⟨b, off, rfl, hlt, hK, hV⟩
  · exact bytes2_zero _ _ _ _ _ _ _
  · exact bytes2_zero _ _ _ _ _ _ _
  · exact bytes2_any b off len cap K V s t u v w hl hK hV

theorem size_ents (h : Ents w a len cap K V) : Calls Try.prog 6 #[.slice a len cap] w fun e w' => SomeInt e ∧ ∃ m, w' = w.drewN m := by
  have hl := h.bound
  rcases h.form with ⟨rfl, rfl, rfl⟩ | ⟨x, rfl, rfl⟩ | ⟨b, off, rfl, hlt, hK, hV⟩
  · exact size_zero _ _ _
  · exact size_zero _ _ _
  · exact size_any b off len cap K V w hl hK hV

theorem model_ents (h : Ents w a len cap K V) (store host : ByteArray) : Calls Try.prog 10 #[.slice a len cap, .string store, .string host] w fun e w' => e = .returned (.string (model K V store host len)) ∧ w' = w := by
  have hl := h.bound
  rcases h.form with ⟨rfl, rfl, rfl⟩ | ⟨x, rfl, rfl⟩ | ⟨b, off, rfl, hlt, hK, hV⟩
  · exact model_zero _ _ _ _ _ _ _
  · exact model_zero _ _ _ _ _ _ _
  · exact model_any b off len cap K V store host w hl hK hV

theorem build_ents (h : Ents w a len cap K V) (hl : len ≤ 4097) : Calls Try.prog 8 #[.slice a len cap] w fun e w' => ∃ m, e = .returned (.map m) ∧ Filled w' m K V len ∧ Below w.heap.size w w' := by
  rcases h.form with ⟨rfl, rfl, rfl⟩ | ⟨x, rfl, rfl⟩ | ⟨b, off, rfl, hlt, hK, hV⟩
  · exact (build_nil w).mono fun e w' ⟨he, hw⟩ => ⟨none, he, by rw [hw]; exact filled_nil _ _ _, by rw [hw]; exact Below.refl _ _⟩
  · exact (build_zero x cap K V w).mono fun e w' ⟨he, ho, hb⟩ => ⟨_, he, filled_own ho, hb⟩
  · exact (build_any b off len cap K V w hl hlt h.sK h.sV hK hV).mono fun e w' ⟨he, ho, hb⟩ => ⟨_, he, filled_own ho, hb⟩

theorem append_ents (h : Ents w a len cap K V) (hl : len ≤ 4096) (key val : ByteArray) (hk : key.size ≤ maxLen) (hv : val.size ≤ maxLen) :
    Calls Try.prog 12 #[.slice a len cap, .string key, .string val] w fun e w' => e = .returned (.slice (some ⟨w.heap.size, 0, none⟩) (len + 1) (len + 1)) ∧
      Ents w' (some ⟨w.heap.size, 0, none⟩) (len + 1) (len + 1) (snocF K len key) (snocF V len val) ∧ Below w.heap.size w w' := by
  have fin : ∀ w', w'.rowIs w.heap.size 34 ((len + 1) * 2) (pairCell (snocF K len key) (snocF V len val) (len + 1)) → Ents w' (some ⟨w.heap.size, 0, none⟩) (len + 1) (len + 1) (snocF K len key) (snocF V len val) := fun w' hr => by
    refine ⟨.inr (.inr ⟨_, _, rfl, hr.lt, fun i hi => ?_, fun i hi => ?_⟩), by omega, fun i => ?_, fun i => ?_⟩
    · have hc := hr.cell (i := i * 2) (by omega)
      have e1 : i * 2 < (len + 1) * 2 := by omega
      have e2 : i * 2 % 2 = 0 := by omega
      have e3 : i * 2 / 2 = i := by omega
      simpa [pairCell, e1, e3] using hc
    · have hc := hr.cell (i := i * 2 + 1) (by omega)
      have e1 : i * 2 + 1 < (len + 1) * 2 := by omega
      have e2 : (i * 2 + 1) % 2 = 1 := by omega
      have e3 : (i * 2 + 1) / 2 = i := by omega
      simpa [pairCell, e1, e2, e3] using hc
    · unfold snocF; split
      · exact hk
      · exact h.sK i
    · unfold snocF; split
      · exact hv
      · exact h.sV i
  rcases h.form with ⟨rfl, rfl, rfl⟩ | ⟨x, rfl, rfl⟩ | ⟨b, off, rfl, hlt, hK, hV⟩
  · have hc := append_zero none 0 (snocF K 0 key) (snocF V 0 val) w
    rw [snocF_at, snocF_at] at hc
    exact hc.mono fun e w' ⟨he, hr, hb⟩ => ⟨he, fin w' hr, hb⟩
  · have hc := append_zero (some x) cap (snocF K 0 key) (snocF V 0 val) w
    rw [snocF_at, snocF_at] at hc
    exact hc.mono fun e w' ⟨he, hr, hb⟩ => ⟨he, fin w' hr, hb⟩
  · have hc := append_core b off len cap (snocF K len key) (snocF V len val) w hl hlt (fun i hi => by rw [snocF_lt K key hi]; exact hK i hi) (fun i hi => by rw [snocF_lt V val hi]; exact hV i hi)
    rw [snocF_at, snocF_at] at hc
    exact hc.mono fun e w' ⟨he, hr, hb⟩ => ⟨he, fin w' hr, hb⟩
end

set_option maxHeartbeats 400000 in
theorem helper9 (pb : Nat) (m : Option Nat) (u store host : ByteArray) (w : World) (c2 : w.cell? ⟨pb, 2, none⟩ = some (.map m)) (c3 : w.cell? ⟨pb, 3, none⟩ = some (.string store))
    (hlook : (Instr.lookup 27 (.map m) (.string host) false).run Try.prog w.drew = .ok (.string u) w.drew) :
    Calls Try.prog 9 #[.pointer (some ⟨pb, 0, none⟩), .string host] w fun e w' => e = .returned (.string (pick u store)) ∧ Below w.heap.size w w' := by
  have hh := Hid.mk' (helper_any pb m u store host w c2 c3 hlook)
  clear hlook
  go_enter Try.func9, Try.ntmps9
  go_wp2_with (go_at_call 13; refine hh.out.mono ?_; rintro e w' ⟨rfl, hb⟩)
  go_ret
  exact ⟨rfl, hb⟩

end Go.Proofs.Qxb6609414a
