/-
  FnValidateRefusesDoubledIgnoresOrder: the law's walk.
-/
import Derived.Test.Qxb6612200aFmtA1
import Derived.Deep.OwnRows
namespace Go.Proofs.Qxb6612200aFmt
open Go.RowKit Go.Maps Go.WideMaps Go.Deep

def zs : Value := .string { data := #[] }
/-- What the two new lists hold behind k rounds. -/
def rowD (S : Nat → ByteArray) (n k i : Nat) : Value := if i < k ∨ (n ≤ i ∧ i < n + k) then .string (dbl S n i) else zs
def rowR (S : Nat → ByteArray) (n k i : Nat) : Value := if n - k ≤ i then .string (rev S n i) else zs

theorem info9 : (Tryf.prog.info? 9).map (fun i => (i.zero, i.size, i.bytes)) = some (some zs, 1, 16) := by kernel_rfl
theorem make22 (n : Nat) (hn : n ≤ 8192) (w : World) :
    (Instr.makeSlice 22 (.int .i64 (n : Int)) (.int .i64 (n : Int))).run Tryf.prog w = .ok (.slice (some ⟨w.heap.size, 0, none⟩) n n) (w.alloc (.cells (madeCells #[zs] n) 9)) :=
  run_make_row' 22 9 zs 16 Tryf.underlying22 info9 rfl .i64 .i64 n (by omega) (by omega) w

theorem row_dbl {w : World} {b n k : Nat} {S : Nat → ByteArray} (h : w.rowIs b 9 (2 * n) (rowD S n k)) (hk : k < n) :
    ((w.setCell ⟨b, k, none⟩ (.string (S k))).setCell ⟨b, n + k, none⟩ (.string (S k))).rowIs b 9 (2 * n) (rowD S n (k + 1)) := by
  refine ((h.set k _).set (n + k) _).congr (fun i hi => ?_)
  unfold rowD
  by_cases h1 : i = n + k
  · subst h1
    have e : dbl S n (n + k) = S k := by unfold dbl; rw [if_neg (by omega)]; congr 1; omega
    rw [if_pos rfl, if_pos (.inr ⟨by omega, by omega⟩), e]
  · rw [if_neg h1]
    by_cases h0 : i = k
    · subst h0
      have e : dbl S n i = S i := by unfold dbl; rw [if_pos (by omega)]
      rw [if_pos rfl, if_pos (.inl (by omega)), e]
    · rw [if_neg h0]
      by_cases h2 : i < k ∨ (n ≤ i ∧ i < n + k)
      · rw [if_pos h2, if_pos (by omega)]
      · rw [if_neg h2, if_neg (by omega)]
theorem row_rev {w : World} {b n k : Nat} {S : Nat → ByteArray} (h : w.rowIs b 9 n (rowR S n k)) (hk : k < n) :
    (w.setCell ⟨b, n - 1 - k, none⟩ (.string (S k))).rowIs b 9 n (rowR S n (k + 1)) := by
  refine (h.set (n - 1 - k) _).congr (fun i hi => ?_)
  unfold rowR
  by_cases h0 : i = n - 1 - k
  · subst h0
    have e : rev S n (n - 1 - k) = S k := by unfold rev; congr 1; omega
    rw [if_pos rfl, if_pos (by omega), e]
  · rw [if_neg h0]
    by_cases h2 : n - k ≤ i
    · rw [if_pos h2, if_pos (by omega)]
    · rw [if_neg h2, if_neg (by omega)]

theorem eds_dbl {w : World} {b n : Nat} {S : Nat → ByteArray} (h : w.rowIs b 9 (2 * n) (rowD S n n)) (hn : n ≤ 8192) (hs : ∀ i, (S i).size ≤ maxLen) : Eds w (some ⟨b, 0, none⟩) (2 * n) (dbl S n) := by
  refine ⟨.inr ⟨b, 0, rfl, h.lt, fun i hi => ?_⟩, by omega, fun i => ?_⟩
  · have := h.cell hi
    unfold rowD at this
    rw [if_pos (by omega)] at this
    simpa using this
  · unfold dbl; split <;> exact hs _
theorem eds_rev {w : World} {b n : Nat} {S : Nat → ByteArray} (h : w.rowIs b 9 n (rowR S n n)) (hn : n ≤ 8192) (hs : ∀ i, (S i).size ≤ maxLen) : Eds w (some ⟨b, 0, none⟩) n (rev S n) := by
  refine ⟨.inr ⟨b, 0, rfl, h.lt, fun i hi => ?_⟩, by omega, fun i => hs _⟩
  have := h.cell hi
  unfold rowR at this
  rw [if_pos (by omega)] at this
  simpa using this

theorem made_dbl (w : World) (S : Nat → ByteArray) (n : Nat) : ((w.alloc (.cells (madeCells #[zs] (2 * n)) 9)).alloc (.cells (madeCells #[zs] n) 9)).rowIs w.heap.size 9 (2 * n) (rowD S n 0) :=
  ((World.rowIs_made w zs (2 * n) 9).alloc _).congr (fun i _ => by unfold rowD; rw [if_neg (by omega)])
theorem made_rev (w : World) (S : Nat → ByteArray) (n : Nat) : ((w.alloc (.cells (madeCells #[zs] (2 * n)) 9)).alloc (.cells (madeCells #[zs] n) 9)).rowIs (w.heap.size + 1) 9 n (rowR S n 0) := by
  have h := World.rowIs_made (w.alloc (.cells (madeCells #[zs] (2 * n)) 9)) zs n 9
  have e : (w.alloc (.cells (madeCells #[zs] (2 * n)) 9)).heap.size = w.heap.size + 1 := by simp
  rw [e] at h
  exact h.congr (fun i hi => by unfold rowR; rw [if_neg (by omega)])

set_option maxHeartbeats 1600000 in
theorem law2_walk (name measure : ByteArray) (a : Option Addr) (len cap : Nat) (cp : Option Addr) (S : Nat → ByteArray) (w : World) (hE0 : Eds w a len S) (hname : name.size ≤ 9223372036854775807) :
    Calls Tryf.prog 4 #[.string name, .string measure, .slice a len cap, .pointer cp] w fun e w' => e = .returned (.bool true) ∧ Below w.heap.size w w' := by
  have hE := Hid.mk' hE0
  clear hE0
  go_enter Tryf.func4, Tryf.ntmps4
  go_wp2_with fail
  refine (bytes2_eds hE.out _ _ _ _).mono ?_
  rintro e w' ⟨⟨r, rfl⟩, rfl⟩
  cases r
  · go_wp2_with fail
    go_ret
    exact ⟨rfl, Below.refl _ _⟩
  by_cases h1 : (1048576 : Int) < (name.size : Int)
  · go_wp2_with fail
    go_ret
    exact ⟨rfl, Below.refl _ _⟩
  by_cases h2 : (1048576 : Int) < (measure.size : Int)
  · go_wp2_with fail
    go_ret
    exact ⟨rfl, Below.refl _ _⟩
  by_cases h3 : (4096 : Int) < (len : Int)
  · go_wp2_with fail
    go_ret
    exact ⟨rfl, Below.refl _ _⟩
  go_wp2_with fail
  go_loop [9, 10] (fun t i => (∃ n : Int, t = .int .i64 n) ∧ ∃ k : Nat, k ≤ len ∧ i = .int .i64 k) (fun _ i => len - (intOf i).toNat)
  case atStart => exact ⟨⟨_, rfl⟩, 0, Nat.zero_le _, rfl⟩
  case round =>
    obtain ⟨⟨n, rfl⟩, k, hk, rfl⟩ := hrel
    by_cases hlt : k < len
    · obtain ⟨b, off, rfl, hblt, hS⟩ : ∃ b off, a = some ⟨b, off, none⟩ ∧ b < w'.heap.size ∧ ∀ i, i < len → w'.cell? ⟨b, off + i, none⟩ = some (.string (S i)) := by
        rcases hE.out.form with h | h
        · omega
        · exact h
      have hSk := hS k hlt
      clear hS
      go_wp2_with fail
      go_round
      case rel => exact ⟨⟨_, rfl⟩, k + 1, by omega, by go_num⟩
      case measure => simp [intOf]; omega
    · by_cases hn : (1048576 : Int) < n
      · go_wp2_with fail
        go_ret
        exact ⟨rfl, Below.refl _ _⟩
      have hmk : ∀ w, (Instr.makeSlice 22 (.int .i64 (len : Int)) (.int .i64 (len : Int))).run Tryf.prog w = .ok (.slice (some ⟨w.heap.size, 0, none⟩) len len) (w.alloc (.cells (madeCells #[zs] len) 9)) := make22 len (by omega)
      have hmk2 : ∀ w, (Instr.makeSlice 22 (.int .i64 (2 * (len : Int))) (.int .i64 (2 * (len : Int)))).run Tryf.prog w = .ok (.slice (some ⟨w.heap.size, 0, none⟩) (2 * len) (2 * len)) (w.alloc (.cells (madeCells #[zs] (2 * len)) 9)) := fun w => by
        have h := make22 (2 * len) (by omega) w
        have e : ((2 * len : Nat) : Int) = 2 * (len : Int) := by omega
        rw [e] at h
        exact h
      go_wp2_with fail
      clear hmk hmk2 hlt hk
      go_loopw [14] (fun i wr => ∃ k : Nat, k ≤ len ∧ i = .int .i64 k ∧ wr.rowIs w'.heap.size 9 (2 * len) (rowD S len k) ∧ wr.rowIs (w'.heap.size + 1) 9 len (rowR S len k) ∧ Below w'.heap.size w' wr) (fun i _ => len - (intOf i).toNat)
      case atStart => exact ⟨0, Nat.zero_le _, rfl, made_dbl _ _ _, made_rev _ _ _, ((Below.refl _ _).alloc (Nat.le_refl _) _).alloc (by simp) _⟩
      case round =>
        obtain ⟨k, hk, rfl, hD0, hR0, hb0⟩ := hrel
        by_cases hlt : k < len
        · obtain ⟨b, off, rfl, hblt, hS⟩ : ∃ b off, a = some ⟨b, off, none⟩ ∧ b < w'.heap.size ∧ ∀ i, i < len → w'.cell? ⟨b, off + i, none⟩ = some (.string (S i)) := by
            rcases hE.out.form with h | h
            · omega
            · exact h
          have hSk := (hb0.cell (p := ⟨b, off + k, none⟩) hblt).trans (hS k hlt)
          have f1 := hD0.frozen k
          have f2 := hD0.frozen (len + k)
          have f3 := hR0.frozen (len - 1 - k)
          have c1 := hD0.cell (i := k) (by omega)
          have c2 := hD0.cell (i := len + k) (by omega)
          have c3 := hR0.cell (i := len - 1 - k) (by omega)
          have hne : b ≠ w'.heap.size := by omega
          have R1 := Hid.mk' ((row_dbl hD0 hlt).setOther (a := ⟨w'.heap.size + 1, len - 1 - k, none⟩) (by simp) (.string (S k)))
          have R2 := Hid.mk' (row_rev ((hR0.setOther (a := ⟨w'.heap.size, k, none⟩) (by simp) (.string (S k))).setOther (a := ⟨w'.heap.size, len + k, none⟩) (by simp) (.string (S k))) hlt)
          have R3 := Hid.mk' (((hb0.setCell (p := ⟨w'.heap.size, k, none⟩) (Nat.le_refl _) (.string (S k))).setCell (p := ⟨w'.heap.size, len + k, none⟩) (Nat.le_refl _) (.string (S k))).setCell (p := ⟨w'.heap.size + 1, len - 1 - k, none⟩) (Nat.le_succ _) (.string (S k)))
          clear hS hD0 hR0 hb0
          go_wp2_with fail
          go_roundw
          case rel => exact ⟨k + 1, by omega, by go_num, R1.out, R2.out, R3.out⟩
          case measure => simp [intOf]; omega
        · have hke : k = len := by omega
          subst hke
          have E1 := Hid.mk' (eds_dbl hD0 (by omega) hE.out.sS)
          have E2 := Hid.mk' (eds_rev hR0 (by omega) hE.out.sS)
          have B0 := Hid.mk' hb0
          clear hD0 hR0 hb0
          go_wp2_with fail
          refine (validate_any name measure _ _ _ cp (dbl S k) _ E1.out (by omega) hname).mono ?_
          rintro e w1 ⟨⟨hv, _⟩ | ⟨_, t, x, rfl⟩, hb1⟩
          · rw [okP_dbl] at hv; cases hv
          have B1 := Hid.mk' (below_call B0.out hb1)
          have E3 := Hid.mk' (E2.out.later hb1)
          clear hb1 E1 E2
          go_wp2_with fail
          refine (validate_any name measure _ _ _ cp S _ (hE.out.later B1.out) (by omega) hname).mono ?_
          rintro e w2 ⟨hv2, hb2⟩
          have B2 := Hid.mk' (below_call B1.out hb2)
          have E4 := Hid.mk' (E3.out.later hb2)
          clear hb2 E3
          rcases hv2 with ⟨hv, rfl⟩ | ⟨hv, t2, x2, rfl⟩
          · have V2 := Hid.mk' hv
            clear hv
            go_wp2_with fail
            refine (validate_any name measure _ _ _ cp (rev S k) _ E4.out (by omega) hname).mono ?_
            rintro e w3 ⟨⟨_, rfl⟩ | ⟨hv, _⟩, hb3⟩
            · have B3 := Hid.mk' (below_call B2.out hb3)
              clear hb3
              go_wp2_with fail
              go_ret
              exact ⟨rfl, B3.out⟩
            · rw [okP_rev, V2.out] at hv; cases hv
          · have V2 := Hid.mk' hv
            clear hv
            go_wp2_with fail
            refine (validate_any name measure _ _ _ cp (rev S k) _ E4.out (by omega) hname).mono ?_
            rintro e w3 ⟨⟨hv, _⟩ | ⟨_, t3, x3, rfl⟩, hb3⟩
            · rw [okP_rev, V2.out] at hv; cases hv
            · have B3 := Hid.mk' (below_call B2.out hb3)
              clear hb3
              go_wp2_with fail
              go_ret
              exact ⟨rfl, B3.out⟩

end Go.Proofs.Qxb6612200aFmt
