/-
  (Product).Validate: WHAT IT ACCEPTS.
-/
import Derived.Test.Qxb6612200aFmtE1
import Derived.Test.Qxb6612200aFmtPlain
import Derived.Maps.OwnSet
namespace Go.Proofs.Qxb6612200aFmt
open Go.RowKit Go.Maps Go.WideMaps

/-- nil where it is accepted, an error where not. -/
def Verdict (e : Ending) (ok : Bool) : Prop := (ok = true ∧ e = .returned .nilIface) ∨ (ok = false ∧ IsErr e)
theorem Verdict.no {e : Ending} {ok : Bool} (h : ok = false) (he : IsErr e) : Verdict e ok := .inr ⟨h, he⟩
theorem Verdict.yes {e : Ending} {ok : Bool} (h : ok = true) (he : e = .returned .nilIface) : Verdict e ok := .inl ⟨h, he⟩

/-- WHAT IS KNOWN OF A LIST OF NAMES IN MEMORY. -/
structure Eds (w : World) (a : Option Addr) (len : Nat) (S : Nat → ByteArray) : Prop where
  form : len = 0 ∨ (∃ b off, a = some ⟨b, off, none⟩ ∧ b < w.heap.size ∧ ∀ i, i < len → w.cell? ⟨b, off + i, none⟩ = some (.string (S i)))
  bound : len ≤ 9223372036854775807
  sS : ∀ i, (S i).size ≤ maxLen

theorem Eds.later {w w' : World} {a : Option Addr} {len : Nat} {S : Nat → ByteArray} (h : Eds w a len S) (hb : Below w.heap.size w w') : Eds w' a len S := by
  refine ⟨?_, h.bound, h.sS⟩
  rcases h.form with h1 | ⟨b, off, e, hlt, hS⟩
  · exact .inl h1
  · exact .inr ⟨b, off, e, Nat.lt_of_lt_of_le hlt hb.size, fun i hi => (hb.cell (p := ⟨b, _, none⟩) hlt).trans (hS i hi)⟩

theorem law : Keyed Tryf.prog 9 := string_keyed Tryf.underlying9
theorem zero4 (w : World) : (zeroValue 4).run Tryf.prog w = .ok (.bool false) w := by kernel_rfl
theorem run_makeMap_hint (n : Int) (w : World) : (Instr.makeMap 34 (some (.int .i64 n))).run Tryf.prog w = .ok (.map (some w.heap.size)) (w.alloc (.map #[] 0)) := by
  simp [Instr.makeMap, run_underlying Tryf.underlying34, go_sem]
theorem plainElem_bool_inv {v : Value} {z : DataW Unit × List MemPlace} (h : plainElem Tryf.prog 4 v = some z) : ∃ x, v = .bool x ∧ z = (.lit (.bool x), []) := by
  unfold plainElem at h
  rw [Tryf.underlying4] at h
  cases v <;> simp at h
  exact ⟨_, rfl, h.symm⟩
theorem look {w : World} {B n k : Nat} {S : Nat → ByteArray} (h : w.ownsMap Tryf.prog 9 (plainElem Tryf.prog 4) B n (Dn S k)) (x : ByteArray) (hx : x.size ≤ maxLen) :
    (Instr.lookup 34 (.map (some B)) (.string x) false).run Tryf.prog w = .ok (.bool (seen S x k)) w := by
  obtain ⟨v, ps, hrun, hv⟩ := h.lookup law Tryf.underlying34 (zero4 w) (plainElem_bool (H := Unit) Tryf.underlying4 false) (keyOf_string_mk Tryf.underlying9 hx)
  obtain ⟨y, rfl, hy⟩ := plainElem_bool_inv hv
  rw [hrun]
  have e : (Dn S k).atKey (.string x.data.toList) (.lit (.bool false)) = .lit (.bool y) := congrArg Prod.fst hy
  rw [atKey_Dn] at e
  injection e with e1
  injection e1 with e2
  rw [e2]

theorem below_err {w w1 w' : World} {o : Obj} (h : Below w.heap.size w w1) (h2 : Below (w1.alloc o).heap.size (w1.alloc o) w') : Below w.heap.size w w' := by
  have a := h.alloc h.size o
  exact a.trans (h2.mono a.size)

set_option maxHeartbeats 1600000 in
theorem validate_any (name measure : ByteArray) (a : Option Addr) (len cap : Nat) (cp : Option Addr) (S : Nat → ByteArray) (w : World) (hE0 : Eds w a len S) (hl : len ≤ 8192) (hname : name.size ≤ 9223372036854775807) :
    Calls Tryf.prog 7 #[.agg #[.string name, .string measure, .slice a len cap, .pointer cp]] w fun e w' => Verdict e (okP name measure S len) ∧ Below w.heap.size w w' := by
  have hE := Hid.mk' hE0
  clear hE0
  by_cases t0 : name.toList.isEmpty = true
  · have hv : Hid (okP name measure S len = false) := by simp [Hid, okP, t0]
    go_enter Tryf.func7, Tryf.ntmps7
    go_wp2_with fail
    refine (new_any _ _).mono ?_
    rintro e w' ⟨⟨t, x, rfl⟩, hb⟩
    go_wp2_with fail
    go_ret
    exact ⟨.no hv.out ⟨_, _, rfl⟩, ((Below.refl _ _).alloc (Nat.le_refl _) _).trans (hb.mono (by simp))⟩
  have t0' : name.toList.isEmpty = false := by simpa using t0
  clear t0
  go_enter Tryf.func7, Tryf.ntmps7
  go_wp2_with fail
  refine (clip_any name _ hname).mono ?_
  rintro e w1 ⟨⟨c, rfl⟩, hw1⟩
  have b1 : Hid (Below w.heap.size w w1) := by rw [hw1]; exact (Below.refl _ _).alloc (Nat.le_refl _) _
  have z1 : w.heap.size < w1.heap.size := by rw [hw1]; simp
  have c0 : w1.cell? ⟨w.heap.size, 0, none⟩ = some (.string name) := by rw [hw1]; simp
  have c1 : w1.cell? ⟨w.heap.size, 1, none⟩ = some (.string measure) := by rw [hw1]; simp
  have c2 : w1.cell? ⟨w.heap.size, 2, none⟩ = some (.slice a len cap) := by rw [hw1]; simp
  clear hw1
  by_cases t1 : (32768 : Int) < (name.size : Int)
  · have hv : Hid (okP name measure S len = false) := by
      have : ¬ name.size ≤ 32768 := by omega
      simp [Hid, okP, this]
    go_wp2_with fail
    refine (errorf3 fA c (name.size : Int) 32768 w1.heap.size _ printA ?_ ?_ ?_).mono ?_
    case refine_1 => simp
    case refine_2 => simp
    case refine_3 => simp
    rintro e w' ⟨⟨t, x, rfl⟩, hb⟩
    go_wp2_with fail
    go_ret
    exact ⟨.no hv.out ⟨_, _, rfl⟩, below_err b1.out hb⟩
  by_cases t2 : measure.toList.isEmpty = true
  · have hv : Hid (okP name measure S len = false) := by simp [Hid, okP, t2]
    go_wp2_with fail
    refine (errorf1 fB c w1.heap.size _ printB ?_).mono ?_
    case refine_1 => simp
    rintro e w' ⟨⟨t, x, rfl⟩, hb⟩
    go_wp2_with fail
    go_ret
    exact ⟨.no hv.out ⟨_, _, rfl⟩, below_err b1.out hb⟩
  have t2' : measure.toList.isEmpty = false := by simpa using t2
  clear t2
  by_cases t3 : len = 0
  · subst t3
    have hv : Hid (okP name measure S 0 = false) := by simp [Hid, okP]
    go_wp2_with fail
    refine (errorf1 fC c w1.heap.size _ printC ?_).mono ?_
    case refine_1 => simp
    rintro e w' ⟨⟨t, x, rfl⟩, hb⟩
    go_wp2_with fail
    go_ret
    exact ⟨.no hv.out ⟨_, _, rfl⟩, below_err b1.out hb⟩
  have hok : Hid (okP name measure S len = goodB S len) := by
    have e1 : name.size ≤ 32768 := by omega
    have e2 : 0 < len := by omega
    simp [Hid, okP, t0', t2', e1, e2]
  obtain ⟨b, off, rfl, hblt, hS0⟩ : ∃ b off, a = some ⟨b, off, none⟩ ∧ b < w.heap.size ∧ ∀ i, i < len → w.cell? ⟨b, off + i, none⟩ = some (.string (S i)) := by
    rcases hE.out.form with h | h
    · exact absurd h t3
    · exact h
  have hS := Hid.mk' hS0
  have hsz := Hid.mk' hE.out.sS
  have t3' : ((len : Int) == 0) = false := beq_eq_false_iff_ne.2 (by omega)
  clear hS0 t3
  have hmm := run_makeMap_hint
  go_wp2_with fail
  clear hmm t3' c0 c1 c2
  go_loopw [49] (fun i wr => ∃ k : Nat, k ≤ len ∧ i = .int .i64 k ∧ goodB S k = true ∧ wr.ownsMap Tryf.prog 9 (plainElem Tryf.prog 4) w1.heap.size k (Dn S k) ∧ Below w1.heap.size w1 wr) (fun i _ => len - (intOf i).toNat)
  case atStart => exact ⟨0, Nat.zero_le _, rfl, rfl, World.ownsMap_made _ _ _ _, (Below.refl _ _).alloc (Nat.le_refl _) _⟩
  case round =>
    obtain ⟨k, hk, rfl, hg0, hown, hnx⟩ := hrel
    have hg := Hid.mk' hg0
    have b2 := Hid.mk' (b1.out.trans (hnx.mono (Nat.le_of_lt z1)))
    clear hg0
    by_cases hlt : k < len
    · have hSk := (b2.out.cell (p := ⟨b, off + k, none⟩) hblt).trans (hS.out k hlt)
      obtain ⟨x, hx⟩ : ∃ x, x = S k := ⟨_, rfl⟩
      rw [← hx] at hSk
      have hxs : x.size ≤ 9223372036854775807 := by rw [hx]; exact hsz.out k
      have hlook := look hown x (by rw [hx]; exact hsz.out k)
      obtain ⟨w2, hrun, hown1, hgrow1⟩ := hown.update law Tryf.underlying34 (by unfold maxLen; omega) (keyOf_string_mk Tryf.underlying9 (s := x) (by rw [hx]; exact hsz.out k)) (plainElem_bool (H := Unit) Tryf.underlying4 true)
      have hown2 : Hid (w2.ownsMap Tryf.prog 9 (plainElem Tryf.prog 4) w1.heap.size (k + 1) (Dn S (k + 1))) := by rw [hx] at hown1; exact hown1
      have hb2 : Hid (Below w1.heap.size w1 w2) := hnx.grown hgrow1 hnx.size (fun j hj => by cases hj; exact Nat.le_refl _)
      have hX := Hid.mk' hx
      clear hown hown1 hgrow1 hnx hx
      by_cases v0 : x.toList.isEmpty = true
      · have hbad : Hid (okP name measure S len = false) := by rw [hok.out]; exact goodB_void (by rw [← hX.out]; exact v0) hlt
        clear hlook hrun
        go_wp2_with fail
        refine (errorf1 fD c wr.heap.size _ printD ?_).mono ?_
        case refine_1 => simp
        rintro e w' ⟨⟨t, y, rfl⟩, hb⟩
        go_wp2_with fail
        go_ret
        exact ⟨.no hbad.out ⟨_, _, rfl⟩, below_err b2.out hb⟩
      have v0' : x.toList.isEmpty = false := by simpa using v0
      clear v0
      by_cases v1 : seen S x k = true
      · have hbad : Hid (okP name measure S len = false) := by rw [hok.out]; exact goodB_seen (by rw [← hX.out]; exact v1) hlt
        rw [v1] at hlook
        clear hrun v1
        go_wp2_with fail
        refine (clip_any x _ hxs).mono ?_
        rintro e w' ⟨⟨d, rfl⟩, rfl⟩
        clear hlook
        go_wp2_with fail
        refine (errorf2 fE c d w'.heap.size _ printE ?_ ?_).mono ?_
        case refine_1 => simp
        case refine_2 => simp
        rintro e w' ⟨⟨t, y, rfl⟩, hb⟩
        go_wp2_with fail
        go_ret
        exact ⟨.no hbad.out ⟨_, _, rfl⟩, below_err b2.out hb⟩
      have v1' : seen S x k = false := by simpa using v1
      rw [v1'] at hlook
      have hgn : Hid (goodB S (k + 1) = true) := goodB_next hg.out (by rw [← hX.out]; exact v0') (by rw [← hX.out]; exact v1')
      clear v1 v1'
      go_wp2_with fail
      go_roundw
      case rel => exact ⟨k + 1, by omega, by go_num, hgn.out, hown2.out, hb2.out⟩
      case measure => simp [intOf]; omega
    · have hke : k = len := by omega
      have hyes : Hid (okP name measure S len = true) := by rw [hok.out, ← hke]; exact hg.out
      clear hown hnx hke
      go_wp2_with fail
      go_ret
      exact ⟨.yes hyes.out rfl, b2.out⟩

end Go.Proofs.Qxb6612200aFmt
