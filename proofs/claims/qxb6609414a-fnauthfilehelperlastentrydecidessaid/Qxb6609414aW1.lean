/-
  THE WALKS (1): the functions that only read: modelHelper, cmp.Or at two strings, the two guards on sizes.
-/
import Derived.Test.Qxb6609414aRows
import Derived.Test.Qxb6609414aPlain
import Derived.WalkKit
import Derived.WalkSpells
import Derived.WalkLawsBesides
import Derived.Deep.QuietTactic
import Derived.BigQuiet
namespace Go.Proofs.Qxb6609414a
open Go.RowKit

/-- The call has answered SOME bool ¦ SOME int. -/
def SomeBool (e : Ending) : Prop := ∃ r, e = .returned (.bool r)
def SomeInt (e : Ending) : Prop := ∃ n, e = .returned (.int .i64 n)
theorem ret_str {a b : ByteArray} (h : a = b) : Ending.returned (.string a) = .returned (.string b) := by rw [h]

set_option maxHeartbeats 400000 in
theorem model_any (b off len cap : Nat) (K V : Nat → ByteArray) (store host : ByteArray) (w : World) (hl : len ≤ 9223372036854775807)
    (hK : ∀ i, i < len → w.cell? ⟨b, off + i * 2, none⟩ = some (.string (K i))) (hV : ∀ i, i < len → w.cell? ⟨b, off + i * 2 + 1, none⟩ = some (.string (V i))) :
    Calls Try.prog 10 #[.slice (some ⟨b, off, none⟩) len cap, .string store, .string host] w fun e w' => e = .returned (.string (model K V store host len)) ∧ w' = w := by
  go_enter Try.func10, Try.ntmps10
  go_wp2
  go_loop [7] (fun i => ∃ k : Nat, k ≤ len ∧ i = .int .i64 ((k : Int) - 1) ∧ ∀ j, k ≤ j → j < len → K j ≠ host) (fun i => (intOf i + 1).toNat)
  case atStart => exact ⟨len, Nat.le_refl _, rfl, fun j h1 h2 => by omega⟩
  case round =>
    obtain ⟨k, hk, rfl, hno0⟩ := hrel
    have hno : Hid (∀ j, k ≤ j → j < len → K j ≠ host) := hno0
    clear hno0
    by_cases h0 : k = 0
    · subst h0
      go_wp2
      go_ret
      exact ⟨ret_str (model_none hno.out).symm, rfl⟩
    · obtain ⟨m, rfl⟩ : ∃ m, k = m + 1 := ⟨k - 1, by omega⟩
      have e1 : ((m + 1 : Nat) : Int) - 1 = (m : Int) := by omega
      rw [e1]
      have hKm := hK m (by omega)
      have hVm := hV m (by omega)
      have hml : m < len := by omega
      clear hK hV e1
      go_wp2
      · have t1 : ((K m).toList == host.toList) = true := by assumption
        have t2 : (!(V m).toList.isEmpty) = true := by assumption
        go_ret
        exact ⟨ret_str ((model_hit (eq_of_beq t1) hml hno.out).trans (pick_full t2 _)).symm, rfl⟩
      · have t1 : ((K m).toList == host.toList) = true := by assumption
        have t2 : (!(V m).toList.isEmpty) = false := by assumption
        go_ret
        exact ⟨ret_str ((model_hit (eq_of_beq t1) hml hno.out).trans (pick_void t2 _)).symm, rfl⟩
      · have t1 : ((K m).toList == host.toList) = false := by assumption
        go_round
        case rel =>
          refine ⟨m, by omega, rfl, fun j h1 h2 => ?_⟩
          by_cases e : j = m
          · subst e; exact ne_of_beq t1
          · exact hno.out j (by omega) h2
        case measure => simp [intOf]

set_option maxHeartbeats 400000 in
theorem model_zero (a : Option Addr) (cap : Nat) (K V : Nat → ByteArray) (store host : ByteArray) (w : World) :
    Calls Try.prog 10 #[.slice a 0 cap, .string store, .string host] w fun e w' => e = .returned (.string (model K V store host 0)) ∧ w' = w := by
  go_enter Try.func10, Try.ntmps10
  go_wp2
  refine wp_loop_rounds 1 ?_
  rw [rounds_succ]
  go_wp2
  go_ret
  exact ⟨rfl, rfl⟩

set_option maxHeartbeats 400000 in
theorem or_any (b : Nat) (u v : ByteArray) (w : World) (h0 : w.cell? ⟨b, 0, none⟩ = some (.string u)) (h1 : w.cell? ⟨b, 1, none⟩ = some (.string v)) :
    Calls Try.prog 14 #[.slice (some ⟨b, 0, none⟩) 2 2] w fun e w' => e = .returned (.string (pick u v)) ∧ w' = w := by
  go_enter Try.func14, Try.ntmps14
  go_wp2
  refine wp_loop_rounds 3 ?_
  rw [rounds_succ]
  go_wp2
  · have t1 : (!u.toList.isEmpty) = true := by assumption
    go_ret
    exact ⟨ret_str (pick_full t1 _).symm, rfl⟩
  · have t1 : (!u.toList.isEmpty) = false := by assumption
    rw [rounds_succ]
    go_wp2
    · go_ret
      exact ⟨ret_str (pick_void t1 _).symm, rfl⟩
    · have t2 : (!v.toList.isEmpty) = false := by assumption
      rw [rounds_succ]
      go_wp2
      go_ret
      exact ⟨ret_str ((pick_void t1 _).trans (void_eq t2)).symm, rfl⟩

/-- sizeHelperEntries answers SOME number; nothing turns but the tape's count. -/
theorem size_zero (a : Option Addr) (cap : Nat) (w : World) :
    Calls Try.prog 6 #[.slice a 0 cap] w fun e w' => SomeInt e ∧ ∃ m, w' = w.drewN m := by
  go_enter Try.func6, Try.ntmps6
  go_wp2
  refine wp_loop_rounds 1 ?_
  rw [rounds_succ]
  go_wp2
  go_ret
  exact ⟨⟨_, rfl⟩, 0, rfl⟩

set_option maxHeartbeats 400000 in
theorem size_any (b off len cap : Nat) (K V : Nat → ByteArray) (w : World) (hl : len ≤ 9223372036854775807)
    (hK : ∀ i, i < len → w.cell? ⟨b, off + i * 2, none⟩ = some (.string (K i))) (hV : ∀ i, i < len → w.cell? ⟨b, off + i * 2 + 1, none⟩ = some (.string (V i))) :
    Calls Try.prog 6 #[.slice (some ⟨b, off, none⟩) len cap] w fun e w' => SomeInt e ∧ ∃ m, w' = w.drewN m := by
  go_enter Try.func6, Try.ntmps6
  go_wp2
  go_loopw [3, 4] (fun t i wr => (∃ n : Int, t = .int .i64 n) ∧ (∃ k : Nat, k ≤ len ∧ i = .int .i64 k) ∧ ∃ m, wr = w.drewN m) (fun _ i _ => len - (intOf i).toNat)
  case atStart => exact ⟨⟨_, rfl⟩, ⟨0, Nat.zero_le _, rfl⟩, 0, rfl⟩
  case round =>
    obtain ⟨⟨n, rfl⟩, ⟨k, hk, rfl⟩, m, rfl⟩ := hrel
    by_cases hlt : k < len
    · have hKm := hK k hlt
      have hVm := hV k hlt
      clear hK hV
      go_wp2
      · go_ret
        exact ⟨⟨_, rfl⟩, m, rfl⟩
      · go_quiet (fail)
        go_wp2
        go_roundw
        case rel => exact ⟨⟨_, rfl⟩, ⟨k + 1, by omega, by go_num⟩, m + nq, by simp⟩
        case measure => simp [intOf]; omega
    · clear hK hV
      go_wp2
      go_ret
      exact ⟨⟨_, rfl⟩, m, rfl⟩

end Go.Proofs.Qxb6609414a
