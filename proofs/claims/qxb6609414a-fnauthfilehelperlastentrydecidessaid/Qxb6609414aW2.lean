/-
  THE WALKS (2): the two bounds on total length: each answers SOME bool and turns nothing.
-/
import Derived.Test.Qxb6609414aW1
namespace Go.Proofs.Qxb6609414a
open Go.RowKit

set_option maxHeartbeats 400000 in
theorem bytes1_zero (a : Option Addr) (cap : Nat) (s h : ByteArray) (w : World) :
    Calls Try.prog 5 #[.slice a 0 cap, .string s, .string h] w fun e w' => SomeBool e ∧ w' = w := by
  go_enter Try.func5, Try.ntmps5
  go_wp2
  refine wp_loop_rounds 1 ?_
  rw [rounds_succ]
  go_wp2
  all_goals (go_ret; exact ⟨⟨_, rfl⟩, rfl⟩)

set_option maxHeartbeats 800000 in
theorem bytes1_any (b off len cap : Nat) (K V : Nat → ByteArray) (s h : ByteArray) (w : World) (hl : len ≤ 9223372036854775807)
    (hK : ∀ i, i < len → w.cell? ⟨b, off + i * 2, none⟩ = some (.string (K i))) (hV : ∀ i, i < len → w.cell? ⟨b, off + i * 2 + 1, none⟩ = some (.string (V i))) :
    Calls Try.prog 5 #[.slice (some ⟨b, off, none⟩) len cap, .string s, .string h] w fun e w' => SomeBool e ∧ w' = w := by
  by_cases hbig : (1048576 : Int) < (len : Int)
  · go_enter Try.func5, Try.ntmps5
    go_wp2
    go_ret
    exact ⟨⟨_, rfl⟩, rfl⟩
  · go_enter Try.func5, Try.ntmps5
    go_wp2
    go_loop [7, 8] (fun t i => (∃ n : Int, t = .int .i64 n) ∧ ∃ k : Nat, k ≤ len ∧ i = .int .i64 k) (fun _ i => len - (intOf i).toNat)
    case atStart => exact ⟨⟨_, rfl⟩, 0, Nat.zero_le _, rfl⟩
    case round =>
      obtain ⟨⟨n, rfl⟩, k, hk, rfl⟩ := hrel
      by_cases hlt : k < len
      · have hKm := hK k hlt
        have hVm := hV k hlt
        clear hK hV
        go_wp2
        all_goals first
          | (go_ret; exact ⟨⟨_, rfl⟩, rfl⟩)
          | skip
        go_round
        case rel => exact ⟨⟨_, rfl⟩, k + 1, by omega, by go_num⟩
        case measure => simp [intOf]; omega
      · clear hK hV
        go_wp2
        all_goals (go_ret; exact ⟨⟨_, rfl⟩, rfl⟩)

set_option maxHeartbeats 400000 in
theorem bytes2_zero (a : Option Addr) (cap : Nat) (s h o v : ByteArray) (w : World) :
    Calls Try.prog 11 #[.slice a 0 cap, .string s, .string h, .string o, .string v] w fun e w' => SomeBool e ∧ w' = w := by
  go_enter Try.func11, Try.ntmps11
  go_wp2
  refine wp_loop_rounds 1 ?_
  rw [rounds_succ]
  go_wp2
  all_goals (go_ret; exact ⟨⟨_, rfl⟩, rfl⟩)

set_option maxHeartbeats 800000 in
theorem bytes2_any (b off len cap : Nat) (K V : Nat → ByteArray) (s h o v : ByteArray) (w : World) (hl : len ≤ 9223372036854775807)
    (hK : ∀ i, i < len → w.cell? ⟨b, off + i * 2, none⟩ = some (.string (K i))) (hV : ∀ i, i < len → w.cell? ⟨b, off + i * 2 + 1, none⟩ = some (.string (V i))) :
    Calls Try.prog 11 #[.slice (some ⟨b, off, none⟩) len cap, .string s, .string h, .string o, .string v] w fun e w' => SomeBool e ∧ w' = w := by
  by_cases hbig : (1048576 : Int) < (len : Int)
  · go_enter Try.func11, Try.ntmps11
    go_wp2
    go_ret
    exact ⟨⟨_, rfl⟩, rfl⟩
  · go_enter Try.func11, Try.ntmps11
    go_wp2
    go_loop [11, 12] (fun t i => (∃ n : Int, t = .int .i64 n) ∧ ∃ k : Nat, k ≤ len ∧ i = .int .i64 k) (fun _ i => len - (intOf i).toNat)
    case atStart => exact ⟨⟨_, rfl⟩, 0, Nat.zero_le _, rfl⟩
    case round =>
      obtain ⟨⟨n, rfl⟩, k, hk, rfl⟩ := hrel
      by_cases hlt : k < len
      · have hKm := hK k hlt
        have hVm := hV k hlt
        clear hK hV
        go_wp2
        all_goals first
          | (go_ret; exact ⟨⟨_, rfl⟩, rfl⟩)
          | skip
        go_round
        case rel => exact ⟨⟨_, rfl⟩, k + 1, by omega, by go_num⟩
        case measure => simp [intOf]; omega
      · clear hK hV
        go_wp2
        all_goals (go_ret; exact ⟨⟨_, rfl⟩, rfl⟩)

end Go.Proofs.Qxb6609414a
