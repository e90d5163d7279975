/-
  namedAndDistinct; the two bounds on total length.
-/
import Derived.Test.Qxb6612200aFmtV1
import Derived.Deep.QuietTactic
import Derived.BigQuiet
namespace Go.Proofs.Qxb6612200aFmt
open Go.RowKit Go.Maps Go.WideMaps

theorem ret_bool {a b : Bool} (h : a = b) : Ending.returned (.bool a) = .returned (.bool b) := by rw [h]

set_option maxHeartbeats 400000 in
theorem named_zero (a : Option Addr) (cap : Nat) (S : Nat → ByteArray) (w : World) :
    Calls Tryf.prog 6 #[.slice a 0 cap] w fun e w' => e = .returned (.bool (goodB S 0)) ∧ ∃ m, w' = w.drewN m := by
  go_enter Tryf.func6, Tryf.ntmps6
  go_wp2
  refine wp_loop_rounds 1 ?_
  rw [rounds_succ]
  go_wp2
  go_ret
  exact ⟨rfl, 0, rfl⟩

set_option maxHeartbeats 800000 in
theorem named_any (b off len cap : Nat) (S : Nat → ByteArray) (w : World) (hl : len ≤ 8192) (hS : ∀ i, i < len → w.cell? ⟨b, off + i, none⟩ = some (.string (S i))) :
    Calls Tryf.prog 6 #[.slice (some ⟨b, off, none⟩) len cap] w fun e w' => e = .returned (.bool (goodB S len)) ∧ ∃ m, w' = w.drewN m := by
  have HS := Hid.mk' hS
  clear hS
  go_enter Tryf.func6, Tryf.ntmps6
  go_wp2
  go_loopw [3] (fun i wr => ∃ k : Nat, k ≤ len ∧ i = .int .i64 k ∧ Clear S len k ∧ ∃ m, wr = w.drewN m) (fun i _ => len - (intOf i).toNat)
  case atStart => exact ⟨0, Nat.zero_le _, rfl, fun i hi => by omega, 0, rfl⟩
  case round =>
    obtain ⟨k, hk, rfl, hC0, m, rfl⟩ := hrel
    have hC := Hid.mk' hC0
    clear hC0
    by_cases hlt : k < len
    · have hSk := HS.out k hlt
      by_cases v0 : (S k).toList.isEmpty = true
      · have hbad : Hid (goodB S len = false) := goodB_void v0 hlt
        go_wp2
        go_ret
        exact ⟨ret_bool hbad.out.symm, m, rfl⟩
      have v0' : (S k).toList.isEmpty = false := by simpa using v0
      clear v0
      go_wp2
      go_loopw [4] (fun j wr => ∃ q : Nat, k < q ∧ q ≤ len ∧ j = .int .i64 q ∧ (∀ p, k < p → p < q → S k ≠ S p) ∧ ∃ m, wr = w.drewN m) (fun j _ => len - (intOf j).toNat)
      case atStart => exact ⟨k + 1, by omega, by omega, by go_num, fun p h1 h2 => by omega, m, rfl⟩
      case round =>
        obtain ⟨q, hkq, hql, rfl, hP0, m2, rfl⟩ := hrel
        have hP := Hid.mk' hP0
        clear hP0
        by_cases hq : q < len
        · have hSq := HS.out q hq
          by_cases he : S k = S q
          · have hbad : Hid (goodB S len = false) := goodB_twice hkq hq he
            have hb : ((S k).toList == (S q).toList) = true := beq_of_eq he
            clear he
            go_wp2
            go_quiet (fail)
            go_wp2
            go_ret
            exact ⟨ret_bool hbad.out.symm, m2 + nq, by simp⟩
          · have hb : ((S k).toList == (S q).toList) = false := beq_of_ne he
            have hne := Hid.mk' he
            clear he
            go_wp2
            go_quiet (fail)
            go_wp2
            go_roundw
            case rel =>
              refine ⟨q + 1, by omega, by omega, by go_num, fun p h1 h2 => ?_, m2 + nq, by simp⟩
              by_cases e : p = q
              · subst e; exact hne.out
              · exact hP.out p h1 (by omega)
            case measure => simp [intOf]; omega
        · go_wp2
          go_roundw
          case rel =>
            refine ⟨k + 1, by omega, by go_num, fun i hi => ?_, m2, rfl⟩
            by_cases e : i = k
            · subst e; exact ⟨v0', fun j h1 h2 => hP.out j h1 (by omega)⟩
            · exact hC.out i (by omega)
          case measure => simp [intOf]; omega
    · have hke : k = len := by omega
      have hyes : Hid (goodB S len = true) := by rw [← hke] at hC ⊢; exact goodB_clear hC.out
      clear hke
      go_wp2
      go_ret
      exact ⟨ret_bool hyes.out.symm, m, rfl⟩

theorem named_eds {w : World} {a : Option Addr} {len cap : Nat} {S : Nat → ByteArray} (h : Eds w a len S) (hl : len ≤ 8192) :
    Calls Tryf.prog 6 #[.slice a len cap] w fun e w' => e = .returned (.bool (goodB S len)) ∧ ∃ m, w' = w.drewN m := by
  rcases h.form with rfl | ⟨b, off, rfl, _, hS⟩
  · exact named_zero _ _ _ _
  · exact named_any b off len cap S w hl hS

set_option maxHeartbeats 400000 in
theorem bytes1_zero (n m : ByteArray) (a : Option Addr) (cap : Nat) (cp : Option Addr) (w : World) :
    Calls Tryf.prog 5 #[.string n, .string m, .slice a 0 cap, .pointer cp] w fun e w' => SomeBool e ∧ w' = w := by
  go_enter Tryf.func5, Tryf.ntmps5
  go_wp2
  all_goals first
    | (go_ret; exact ⟨⟨_, rfl⟩, rfl⟩)
    | skip
  refine wp_loop_rounds 1 ?_
  rw [rounds_succ]
  go_wp2
  go_ret
  exact ⟨⟨_, rfl⟩, rfl⟩

set_option maxHeartbeats 800000 in
theorem bytes1_any (n m : ByteArray) (b off len cap : Nat) (cp : Option Addr) (S : Nat → ByteArray) (w : World) (hl : len ≤ 9223372036854775807) (hS : ∀ i, i < len → w.cell? ⟨b, off + i, none⟩ = some (.string (S i))) :
    Calls Tryf.prog 5 #[.string n, .string m, .slice (some ⟨b, off, none⟩) len cap, .pointer cp] w fun e w' => SomeBool e ∧ w' = w := by
  have HS := Hid.mk' hS
  clear hS
  go_enter Tryf.func5, Tryf.ntmps5
  go_wp2
  all_goals first
    | (go_ret; exact ⟨⟨_, rfl⟩, rfl⟩)
    | skip
  go_loop [9, 10] (fun t i => (∃ n : Int, t = .int .i64 n) ∧ ∃ k : Nat, k ≤ len ∧ i = .int .i64 k) (fun _ i => len - (intOf i).toNat)
  case atStart => exact ⟨⟨_, rfl⟩, 0, Nat.zero_le _, rfl⟩
  case round =>
    obtain ⟨⟨n, rfl⟩, k, hk, rfl⟩ := hrel
    by_cases hlt : k < len
    · have hSk := HS.out k hlt
      go_wp2
      all_goals first
        | (go_ret; exact ⟨⟨_, rfl⟩, rfl⟩)
        | skip
      go_round
      case rel => exact ⟨⟨_, rfl⟩, k + 1, by omega, by go_num⟩
      case measure => simp [intOf]; omega
    · go_wp2
      go_ret
      exact ⟨⟨_, rfl⟩, rfl⟩

theorem bytes1_eds {w : World} {a : Option Addr} {len : Nat} {S : Nat → ByteArray} (h : Eds w a len S) (n m : ByteArray) (cap : Nat) (cp : Option Addr) :
    Calls Tryf.prog 5 #[.string n, .string m, .slice a len cap, .pointer cp] w fun e w' => SomeBool e ∧ w' = w := by
  have hl := h.bound
  rcases h.form with rfl | ⟨b, off, rfl, _, hS⟩
  · exact bytes1_zero _ _ _ _ _ _
  · exact bytes1_any n m b off len cap cp S w hl hS

set_option maxHeartbeats 400000 in
theorem bytes2_zero (n m : ByteArray) (a : Option Addr) (cap : Nat) (cp : Option Addr) (w : World) :
    Calls Tryf.prog 8 #[.string n, .string m, .slice a 0 cap, .pointer cp] w fun e w' => SomeBool e ∧ w' = w := by
  go_enter Tryf.func8, Tryf.ntmps8
  go_wp2
  all_goals first
    | (go_ret; exact ⟨⟨_, rfl⟩, rfl⟩)
    | skip
  refine wp_loop_rounds 1 ?_
  rw [rounds_succ]
  go_wp2
  go_ret
  exact ⟨⟨_, rfl⟩, rfl⟩

set_option maxHeartbeats 800000 in
theorem bytes2_any (n m : ByteArray) (b off len cap : Nat) (cp : Option Addr) (S : Nat → ByteArray) (w : World) (hl : len ≤ 9223372036854775807) (hS : ∀ i, i < len → w.cell? ⟨b, off + i, none⟩ = some (.string (S i))) :
    Calls Tryf.prog 8 #[.string n, .string m, .slice (some ⟨b, off, none⟩) len cap, .pointer cp] w fun e w' => SomeBool e ∧ w' = w := by
  have HS := Hid.mk' hS
  clear hS
  go_enter Tryf.func8, Tryf.ntmps8
  go_wp2
  all_goals first
    | (go_ret; exact ⟨⟨_, rfl⟩, rfl⟩)
    | skip
  go_loop [9, 10] (fun t i => (∃ n : Int, t = .int .i64 n) ∧ ∃ k : Nat, k ≤ len ∧ i = .int .i64 k) (fun _ i => len - (intOf i).toNat)
  case atStart => exact ⟨⟨_, rfl⟩, 0, Nat.zero_le _, rfl⟩
  case round =>
    obtain ⟨⟨n, rfl⟩, k, hk, rfl⟩ := hrel
    by_cases hlt : k < len
    · have hSk := HS.out k hlt
      go_wp2
      all_goals first
        | (go_ret; exact ⟨⟨_, rfl⟩, rfl⟩)
        | skip
      go_round
      case rel => exact ⟨⟨_, rfl⟩, k + 1, by omega, by go_num⟩
      case measure => simp [intOf]; omega
    · go_wp2
      go_ret
      exact ⟨⟨_, rfl⟩, rfl⟩

theorem bytes2_eds {w : World} {a : Option Addr} {len : Nat} {S : Nat → ByteArray} (h : Eds w a len S) (n m : ByteArray) (cap : Nat) (cp : Option Addr) :
    Calls Tryf.prog 8 #[.string n, .string m, .slice a len cap, .pointer cp] w fun e w' => SomeBool e ∧ w' = w := by
  have hl := h.bound
  rcases h.form with rfl | ⟨b, off, rfl, _, hS⟩
  · exact bytes2_zero _ _ _ _ _ _
  · exact bytes2_any n m b off len cap cp S w hl hS

end Go.Proofs.Qxb6612200aFmt
