/-
  FnValidateAcceptsExactly: the law's walk.
-/
import Derived.Test.Qxb6612200aFmtV2
namespace Go.Proofs.Qxb6612200aFmt
open Go.RowKit Go.Maps Go.WideMaps

theorem below_drewN' {w : World} (n : Nat) : Below w.heap.size w (w.drewN n) := ⟨rfl, rfl, rfl, Nat.le_refl _, fun _ _ => rfl⟩
theorem below_call {w w1 w2 : World} (h : Below w.heap.size w w1) (h2 : Below w1.heap.size w1 w2) : Below w.heap.size w w2 := h.trans (h2.mono h.size)

set_option maxHeartbeats 1600000 in
theorem law1_tail (name measure : ByteArray) (a : Option Addr) (len cap : Nat) (cp : Option Addr) (S : Nat → ByteArray) (w : World) (hE0 : Eds w a len S) (hname : name.size ≤ 9223372036854775807) :
    Calls Tryf.prog 3 #[.string name, .string measure, .slice a len cap, .pointer cp] w fun e w' => e = .returned (.bool true) ∧ Below w.heap.size w w' := by
  have hE := Hid.mk' hE0
  clear hE0
  go_enter Tryf.func3, Tryf.ntmps3
  go_wp2_with fail
  refine (bytes1_eds hE.out _ _ _ _).mono ?_
  rintro e w' ⟨⟨r, rfl⟩, rfl⟩
  cases r
  · go_wp2_with fail
    go_ret
    exact ⟨rfl, Below.refl _ _⟩
  by_cases h1 : (1048576 : Int) < (name.size : Int)
  · go_wp2_with fail
    go_ret
    exact ⟨rfl, Below.refl _ _⟩
  by_cases h2 : (1048576 : Int) < (measure.size : Int)
  · go_wp2_with fail
    go_ret
    exact ⟨rfl, Below.refl _ _⟩
  by_cases h3 : (4096 : Int) < (len : Int)
  · go_wp2_with fail
    go_ret
    exact ⟨rfl, Below.refl _ _⟩
  go_wp2_with fail
  go_loop [9, 10] (fun t i => (∃ n : Int, t = .int .i64 n) ∧ ∃ k : Nat, k ≤ len ∧ i = .int .i64 k) (fun _ i => len - (intOf i).toNat)
  case atStart => exact ⟨⟨_, rfl⟩, 0, Nat.zero_le _, rfl⟩
  case round =>
    obtain ⟨⟨n, rfl⟩, k, hk, rfl⟩ := hrel
    by_cases hlt : k < len
    · obtain ⟨b, off, rfl, hblt, hS⟩ : ∃ b off, a = some ⟨b, off, none⟩ ∧ b < w'.heap.size ∧ ∀ i, i < len → w'.cell? ⟨b, off + i, none⟩ = some (.string (S i)) := by
        rcases hE.out.form with h | h
        · omega
        · exact h
      have hSk := hS k hlt
      clear hS
      go_wp2_with fail
      go_round
      case rel => exact ⟨⟨_, rfl⟩, k + 1, by omega, by go_num⟩
      case measure => simp [intOf]; omega
    · by_cases hn : (1048576 : Int) < n
      · go_wp2_with fail
        go_ret
        exact ⟨rfl, Below.refl _ _⟩
      by_cases t0 : name.toList.isEmpty = true
      · have hno : Hid (okP name measure S len = false) := by simp [Hid, okP, t0]
        go_wp2_with fail
        refine (validate_any name measure a len cap cp S _ hE.out (by omega) hname).mono ?_
        rintro e w1 ⟨⟨hv, _⟩ | ⟨_, t, x, rfl⟩, hb⟩
        · rw [hno.out] at hv; cases hv
        · go_wp2_with fail
          go_ret
          exact ⟨rfl, hb⟩
      have t0' : name.toList.isEmpty = false := by simpa using t0
      clear t0
      by_cases t1 : (32768 : Int) < (name.size : Int)
      · have hno : Hid (okP name measure S len = false) := by
          have : ¬ name.size ≤ 32768 := by omega
          simp [Hid, okP, this]
        go_wp2_with fail
        refine (validate_any name measure a len cap cp S _ hE.out (by omega) hname).mono ?_
        rintro e w1 ⟨⟨hv, _⟩ | ⟨_, t, x, rfl⟩, hb⟩
        · rw [hno.out] at hv; cases hv
        · go_wp2_with fail
          go_ret
          exact ⟨rfl, hb⟩
      by_cases t2 : measure.toList.isEmpty = true
      · have hno : Hid (okP name measure S len = false) := by simp [Hid, okP, t2]
        go_wp2_with fail
        refine (validate_any name measure a len cap cp S _ hE.out (by omega) hname).mono ?_
        rintro e w1 ⟨⟨hv, _⟩ | ⟨_, t, x, rfl⟩, hb⟩
        · rw [hno.out] at hv; cases hv
        · go_wp2_with fail
          go_ret
          exact ⟨rfl, hb⟩
      have t2' : measure.toList.isEmpty = false := by simpa using t2
      clear t2
      by_cases t3 : 0 < len
      · have hok : Hid (okP name measure S len = goodB S len) := by
          have e1 : name.size ≤ 32768 := by omega
          simp [Hid, okP, t0', t2', e1, t3]
        go_wp2_with fail
        refine (named_eds hE.out (by omega)).mono ?_
        rintro e w1 ⟨rfl, m, rfl⟩
        have hE1 := Hid.mk' (hE.out.later (below_drewN' m))
        cases hg : goodB S len
        · have HG := Hid.mk' hg
          clear hg
          go_wp2_with fail
          refine (validate_any name measure a len cap cp S _ hE1.out (by omega) hname).mono ?_
          rintro e w2 ⟨⟨hv, _⟩ | ⟨_, t, x, rfl⟩, hb⟩
          · rw [hok.out, HG.out] at hv; cases hv
          · have hb2 := Hid.mk' (below_call (below_drewN' m) hb)
            clear hb
            go_wp2_with fail
            go_ret
            exact ⟨rfl, hb2.out⟩
        · have HG := Hid.mk' hg
          clear hg
          go_wp2_with fail
          refine (validate_any name measure a len cap cp S _ hE1.out (by omega) hname).mono ?_
          rintro e w2 ⟨⟨_, rfl⟩ | ⟨hv, _⟩, hb⟩
          · have hb2 := Hid.mk' (below_call (below_drewN' m) hb)
            clear hb
            go_wp2_with fail
            go_ret
            exact ⟨rfl, hb2.out⟩
          · rw [hok.out, HG.out] at hv; cases hv
      · have hno : Hid (okP name measure S len = false) := by simp [Hid, okP, t3]
        have t3' : ¬ (0 : Int) < (len : Int) := by omega
        go_wp2_with fail
        refine (validate_any name measure a len cap cp S _ hE.out (by omega) hname).mono ?_
        rintro e w1 ⟨⟨hv, _⟩ | ⟨_, t, x, rfl⟩, hb⟩
        · rw [hno.out] at hv; cases hv
        · go_wp2_with fail
          go_ret
          exact ⟨rfl, hb⟩

end Go.Proofs.Qxb6612200aFmt
