/-
  THE WALKS (1): the bound on total length, keyFlag, equalU64 where the two are alike.
-/
import Derived.Test.Qxb6612222aRows
import Derived.WalkKit
import Derived.WalkSpells
import Derived.WalkLawsBesides
import Derived.Deep.QuietTactic
import Derived.BigQuiet
namespace Go.Proofs.Qxb6612222a
open Go.RowKit

theorem Hid.mk' {p : Prop} (h : p) : Hid p := h
def SomeBool (e : Ending) : Prop := ∃ r, e = .returned (.bool r)

/-- WHAT IS KNOWN OF A SLICE OF ONE-CELL ELEMENTS: of no element, or a row of cells. -/
def RowAt (w : World) (a : Option Addr) (n : Nat) (f : Nat → Value) : Prop :=
  n = 0 ∨ ∃ b off, a = some ⟨b, off, none⟩ ∧ b < w.heap.size ∧ ∀ i, i < n → w.cell? ⟨b, off + i, none⟩ = some (f i)

theorem RowAt.later {w w' : World} {a : Option Addr} {n : Nat} {f : Nat → Value} (h : RowAt w a n f) (hb : Below w.heap.size w w') : RowAt w' a n f := by
  rcases h with h1 | ⟨b, off, e, hlt, hc⟩
  · exact .inl h1
  · exact .inr ⟨b, off, e, Nat.lt_of_lt_of_le hlt hb.size, fun i hi => (hb.cell (p := ⟨b, _, none⟩) hlt).trans (hc i hi)⟩
theorem RowAt.at {w : World} {a : Option Addr} {n : Nat} {f : Nat → Value} (h : RowAt w a n f) {k : Nat} (hk : k < n) : ∃ b off, a = some ⟨b, off, none⟩ ∧ b < w.heap.size ∧ w.cell? ⟨b, off + k, none⟩ = some (f k) := by
  rcases h with h1 | ⟨b, off, e, hlt, hc⟩
  · omega
  · exact ⟨b, off, e, hlt, hc k hk⟩

/-- Is key i a signing key? -/
def flag (G : Nat → Bool) (m i : Nat) : Bool := decide (i < m) && G i

set_option maxHeartbeats 400000 in
theorem bytes_any (a b : Option Addr) (n c m d : Nat) (w : World) (hn : n ≤ 9223372036854775807) (_hm : m ≤ 9223372036854775807) :
    Calls Try.prog 4 #[.slice a n c, .slice b m d] w fun e w' => SomeBool e ∧ w' = w := by
  go_enter Try.func4, Try.ntmps4
  go_wp2
  all_goals (go_ret; exact ⟨⟨_, rfl⟩, rfl⟩)

set_option maxHeartbeats 400000 in
theorem flag_any (a : Option Addr) (m c k : Nat) (G : Nat → Bool) (w : World) (_hm : m ≤ 4096) (h : RowAt w a m (fun i => .bool (G i))) :
    Calls Try.prog 5 #[.slice a m c, .int .i64 k] w fun e w' => e = .returned (.bool (flag G m k)) ∧ w' = w := by
  by_cases hk : k < m
  · obtain ⟨b, off, rfl, hlt, hc⟩ := h.at hk
    have e : flag G m k = G k := by simp [flag, hk]
    rw [e]
    clear h e
    have hd : (k : Int) < (m : Int) := by omega
    go_enter Try.func5, Try.ntmps5
    go_wp2
    go_ret
    exact ⟨rfl, rfl⟩
  · have e : flag G m k = false := by simp [flag, hk]
    rw [e]
    clear h e
    have hd : ¬ (k : Int) < (m : Int) := by omega
    go_enter Try.func5, Try.ntmps5
    go_wp2
    go_ret
    exact ⟨rfl, rfl⟩

set_option maxHeartbeats 400000 in
theorem equal_any (a b : Option Addr) (n c d : Nat) (Z : Nat → Int) (w : World) (hn : n ≤ 4096) (h1 : RowAt w a n (fun i => .int .u64 (Z i))) (h2 : RowAt w b n (fun i => .int .u64 (Z i))) :
    Calls Try.prog 8 #[.slice a n c, .slice b n d] w fun e w' => e = .returned (.bool true) ∧ ∃ q, w' = w.drewN q := by
  have H1 := Hid.mk' h1
  have H2 := Hid.mk' h2
  clear h1 h2
  go_enter Try.func8, Try.ntmps8
  go_wp2
  go_loopw [5] (fun i wr => ∃ k : Nat, k ≤ n ∧ i = .int .i64 k ∧ ∃ q, wr = w.drewN q) (fun i _ => n - (intOf i).toNat)
  case atStart => exact ⟨0, Nat.zero_le _, rfl, 0, rfl⟩
  case round =>
    obtain ⟨k, hk, rfl, q, rfl⟩ := hrel
    by_cases hlt : k < n
    · obtain ⟨b1, o1, rfl, _, c1⟩ := H1.out.at hlt
      obtain ⟨b2, o2, rfl, _, c2⟩ := H2.out.at hlt
      go_wp2
      go_quiet (fail)
      go_wp2
      go_roundw
      case rel => exact ⟨k + 1, by omega, by go_num, q + nq, by simp⟩
      case measure => simp [intOf]; omega
    · go_wp2
      go_ret
      exact ⟨rfl, q, rfl⟩

end Go.Proofs.Qxb6612222a
