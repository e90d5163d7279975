/-
  'Rows.FnEmptyScalarKeepsPositionsApartSaid': the law's walk and its row.
-/
import Derived.Test.Qxb6609467aRows
import Derived.Test.Qxb6609467aW1
import Derived.WalkKit
import Derived.WalkLawsBesides
import Derived.Laws.Pointers
import Derived.ProofKit
import Derived.OpenShut
import Derived.ShutString
namespace Go.Proofs.Qxb6609467a.fnEmptyScalarKeepsPositionsApart
open Go.ChangeShapes Go.WideShapes Go.ChangeAt Go.RowKit
open Go.ChangeMaps (open_string shut_string)
set_option linter.unusedVariables false      -- a walk need not use every 'w<i>' (that an integer argument fits its kind)

theorem own : ownKnob Try.prog.godebug = none := by kernel_rfl

theorem bcell {W w1 : World} (hb : Below W.heap.size W w1) : (∀ b o, b < W.heap.size → w1.cell? ⟨b, o, none⟩ = W.cell? ⟨b, o, none⟩) ∧ (∀ b o, b < W.heap.size → w1.frozen? ⟨b, o, none⟩ = W.frozen? ⟨b, o, none⟩) :=
  ⟨fun b o h => hb.cell (p := ⟨b, o, none⟩) h, fun b o h => hb.frozen (p := ⟨b, o, none⟩) h⟩

theorem fin {w w1 w2 : World} {o o2 : Obj} (h1 : Below w.heap.size w w1) (h2 : Below (w1.alloc o).heap.size (w1.alloc o) w2) : Below w.heap.size w (w2.alloc o2) := by
  have a := h1.alloc h1.size o
  have b := a.trans (h2.mono a.size)
  exact b.alloc b.size o2

set_option maxHeartbeats 1600000 in
theorem walk_in (l1 c1 l2 c2 : Int) (w : World) (a0 : 0 ≤ c1) (a1 : c1 < 9223372036854775807) (b0 : 0 ≤ c2) (b1 : c2 < 9223372036854775807) :
    Calls Try.prog 3 #[.int .i64 l1, .int .i64 c1, .int .i64 l2, .int .i64 c2] w fun e w' => e = .returned (.bool true) ∧ Below w.heap.size w w' := by
  have n1 : (c1 == 9223372036854775807) = false := beq_eq_false_iff_ne.2 (by omega)
  have n2 : (c2 == 9223372036854775807) = false := beq_eq_false_iff_ne.2 (by omega)
  go_enter Try.func3, Try.ntmps3
  go_wp2_with fail
  refine (empty6 l1 c1 _ a0 a1).mono ?_
  rintro e w1 ⟨rfl, hb⟩
  unfold ev
  clear n1 n2
  go_wp2_with fail
  refine (empty6 l2 c2 _ b0 b1).mono ?_
  rintro e w2 ⟨rfl, hb2⟩
  unfold ev
  obtain ⟨hc, hf⟩ := bcell hb2
  have hz : w1.heap.size < w2.heap.size := by have := hb2.size; simp at this; omega
  have H1 := Hid.mk' hb
  have H2 := Hid.mk' hb2
  clear hb hb2
  have hp : ∀ w, (Op.equalIn 9999 24 (.pointer none) (.pointer none)).run Try.prog w = .ok true w := fun w => run_equalIn_pointer_nil w 9998 24 none (by kernel_rfl)
  by_cases hl : l1 = l2
  · by_cases hcc : c1 = c2
    · subst hl
      subst hcc
      go_wp2_with fail
      go_ret
      exact ⟨rfl, fin H1.out H2.out⟩
    · subst hl
      go_wp2_with fail
      go_ret
      exact ⟨rfl, fin H1.out H2.out⟩
  · by_cases hcc : c1 = c2
    · subst hcc
      go_wp2_with fail
      go_ret
      exact ⟨rfl, fin H1.out H2.out⟩
    · go_wp2_with fail
      go_ret
      exact ⟨rfl, fin H1.out H2.out⟩

set_option maxHeartbeats 400000 in
theorem walk_out (l1 c1 l2 c2 : Int) (w : World) (h : c1 < 0 ∨ c1 = 9223372036854775807 ∨ c2 < 0 ∨ c2 = 9223372036854775807) :
    Calls Try.prog 3 #[.int .i64 l1, .int .i64 c1, .int .i64 l2, .int .i64 c2] w fun e w' => e = .returned (.bool true) ∧ Below w.heap.size w w' := by
  by_cases t1 : c1 < 0
  · clear h
    go_enter Try.func3, Try.ntmps3
    go_wp2_with fail
    go_ret
    exact ⟨rfl, Below.refl _ _⟩
  by_cases t2 : c1 = 9223372036854775807
  · subst t2
    clear h
    go_enter Try.func3, Try.ntmps3
    go_wp2_with fail
    go_ret
    exact ⟨rfl, Below.refl _ _⟩
  have n1 : (c1 == 9223372036854775807) = false := beq_eq_false_iff_ne.2 t2
  by_cases t3 : c2 < 0
  · clear h t2
    go_enter Try.func3, Try.ntmps3
    go_wp2_with fail
    go_ret
    exact ⟨rfl, Below.refl _ _⟩
  have t4 : c2 = 9223372036854775807 := by omega
  subst t4
  clear h t2
  go_enter Try.func3, Try.ntmps3
  go_wp2_with fail
  go_ret
  exact ⟨rfl, Below.refl _ _⟩

theorem walk (l1 c1 l2 c2 : Int) (w1 : (Lit.int .i64 c1).wf = true) (w3 : (Lit.int .i64 c2).wf = true) (w : World) :
    Calls Try.prog 3 #[.int .i64 l1, .int .i64 c1, .int .i64 l2, .int .i64 c2] w fun e w' => e = .returned (.bool true) ∧ Below w.heap.size w w' := by
  by_cases h : c1 < 0 ∨ c1 = 9223372036854775807 ∨ c2 < 0 ∨ c2 = 9223372036854775807
  · exact walk_out l1 c1 l2 c2 w h
  · have b1 := bounds_i64 w1
    have b3 := bounds_i64 w3
    exact walk_in l1 c1 l2 c2 w (by omega) (by omega) (by omega) (by omega)

/-! ### THE ROW's STEP: WRITTEN OUT: LEAVE IT -/
set_option maxRecDepth 100000 in
theorem lifted (os : Os) (started : os.Started) (H : Type) (enc : TypeId × Value → H) :
    ReturnsInHanded {} Try.checked os 3 .any (Rows.fnEmptyScalarKeepsPositionsApartSpec.pre6 enc Try.prog Try.f3 Rows.fnEmptyScalarKeepsPositionsApartRow.domain false) (Rows.fnEmptyScalarKeepsPositionsApartSpec.post enc Try.prog Try.f3 false true false false) := by
  refine returnsInHanded_of_change (C := Try.checked) own started (by kernel_rfl) Try.func3
    (ChangeSpec.witness6 (enc := enc) (C := Try.checked) false ⟨#[], #[.int .i64 0, .int .i64 0, .int .i64 0, .int .i64 0], []⟩ 8 (by kernel_rfl) (by kernel_rfl) (by kernel_rfl) (by kernel_rfl)) ?_
  intro W base args ds gs before hval0 hW hcnd _
  have hval : ∀ (j : Nat) t v, Try.f3.params[j]? = some t → args[j]? = some v → Value.okWide Try.prog W .any base t v := hval0
  have hW' := hW
  obtain ⟨p, q, hA0, hV, rfl, hfz, hnd⟩ := hW
  have hA : DataW.TrodAll enc Try.prog W 0 (fun _ => true) true Try.f3.params.toList args.toList ds p := hA0
  rw [Try.params3] at hA hval
  obtain ⟨v0, vs0, d0, ds0, p0, q0, hargs, rfl, rfl, h0, r0⟩ := trodAll_cons hA
  obtain ⟨v1, vs1, d1, ds1, p1, q1, rfl, rfl, rfl, h1, r1⟩ := trodAll_cons r0
  obtain ⟨v2, vs2, d2, ds2, p2, q2, rfl, rfl, rfl, h2, r2⟩ := trodAll_cons r1
  obtain ⟨v3, vs3, d3, ds3, p3, q3, rfl, rfl, rfl, h3, r3⟩ := trodAll_cons r2
  obtain ⟨rfl, rfl, rfl⟩ := trodAll_nil r3
  obtain rfl : args = #[v0, v1, v2, v3] := by cases args; simp_all
  obtain ⟨rfl, rfl⟩ := trodVars_none hV
  obtain ⟨a0, rfl, rfl, rfl, w0⟩ := open_int Try.underlying3 (hval 0 3 v0 rfl rfl) h0
  obtain ⟨a1, rfl, rfl, rfl, w1⟩ := open_int Try.underlying3 (hval 1 3 v1 rfl rfl) h1
  obtain ⟨a2, rfl, rfl, rfl, w2⟩ := open_int Try.underlying3 (hval 2 3 v2 rfl rfl) h2
  obtain ⟨a3, rfl, rfl, rfl, w3⟩ := open_int Try.underlying3 (hval 3 3 v3 rfl rfl) h3
  clear hA0 hval0
  refine (walk a0 a1 a2 a3 w1 w3 W).mono fun e W' ⟨he, bel⟩ => ?_
  subst he
  exact ⟨_, rfl, _, _, _, [], _, [], hW', trodAll_mk1 (shut_bool Try.underlying4 _), (trodAll_cons_mk (shut_int Try.underlying3 w0) (trodAll_cons_mk (shut_int Try.underlying3 w1) (trodAll_cons_mk (shut_int Try.underlying3 w2) (trodAll_cons_mk (shut_int Try.underlying3 w3) trodAll_mk0)))), rfl, bel.frame _, fun h => by cases h⟩

theorem over : Rows.fnEmptyScalarKeepsPositionsApartRow.holds Try.pinned (OpenSpec.ofChange Rows.fnEmptyScalarKeepsPositionsApartSpec) :=
  OpenClaim.holds_of_wide 3 Try.f3 rfl rfl rfl rfl rfl rfl rfl ⟨rfl, rfl, rfl, rfl, rfl⟩ rfl rfl rfl rfl rfl (by kernel_rfl) Try.func3 (by kernel_rfl)
    (of_decide_eq_true (by kernel_rfl)) (by unfold Func.isWrapper; first | (rw [if_pos (by decide +kernel)]; kernel_rfl) | (rw [if_neg (by decide +kernel)]; exact ⟨rfl, rfl⟩))
    (fun os started H enc _ => lifted os started H enc)

/-- ████ THE STATEMENT ████ -/
theorem proved : Rows.FnEmptyScalarKeepsPositionsApartSaid :=
  over

end Go.Proofs.Qxb6609467a.fnEmptyScalarKeepsPositionsApart
namespace Go.Proofs.Qxb6609467a
theorem empty_scalar_proved : Rows.FnEmptyScalarKeepsPositionsApartSaid := fnEmptyScalarKeepsPositionsApart.proved
end Go.Proofs.Qxb6609467a
