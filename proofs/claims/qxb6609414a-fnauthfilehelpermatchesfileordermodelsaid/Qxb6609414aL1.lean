/-
  'Rows.FnAuthFileHelperMatchesFileOrderModelSaid': the law's walk and its row.
-/
import Derived.Test.Qxb6609414aW6
import Derived.Test.Qxb6609414aOpen
namespace Go.Proofs.Qxb6609414a
open Go.RowKit Go.Maps Go.WideMaps Go.Deep
open Go.ChangeShapes Go.WideShapes Go.ChangeAt
open Go.ChangeMaps (open_string shut_string)

set_option maxHeartbeats 800000 in
theorem law1_walk (a : Option Addr) (len cap : Nat) (K V : Nat → ByteArray) (store host : ByteArray) (w : World) (hE0 : Ents w a len cap K V) (hh : host.size ≤ maxLen) :
    Calls Try.prog 3 #[.slice a len cap, .string store, .string host] w fun e w' => e = .returned (.bool true) ∧ Below w.heap.size w w' := by
  have hE := Hid.mk' hE0
  clear hE0
  go_enter Try.func3, Try.ntmps3
  go_wp2_with fail
  refine (bytes1_ents hE.out _ _).mono ?_
  rintro e w' ⟨⟨r, rfl⟩, rfl⟩
  cases r
  · go_wp2_with fail
    go_ret
    exact ⟨rfl, Below.refl _ _⟩
  by_cases hbig : (4096 : Int) < (len : Int)
  · go_wp2_with fail
    go_ret
    exact ⟨rfl, Below.refl _ _⟩
  go_wp2_with fail
  refine (size_ents hE.out).mono ?_
  rintro e w' ⟨⟨n, rfl⟩, m, rfl⟩
  go_wp2_with fail
  · go_ret
    exact ⟨rfl, below_drewN (Below.refl _ _) _⟩
  have hE1 := Hid.mk' (hE.out.later (w' := w'.drewN m) (below_drewN (Below.refl _ _) _))
  refine (build_ents hE1.out (by omega)).mono ?_
  rintro e w1 ⟨mp, rfl, hF0, hb0⟩
  have hF := Hid.mk' hF0
  have hb := Hid.mk' hb0
  clear hF0 hb0
  go_wp2_with fail
  refine (new_any mp store _).mono ?_
  rintro e w2 ⟨rfl, hw2⟩
  have c2 : w2.cell? ⟨w1.heap.size, 2, none⟩ = some (.map mp) := by rw [hw2]; simp
  have c3 : w2.cell? ⟨w1.heap.size, 3, none⟩ = some (.string store) := by rw [hw2]; simp
  have hl2 := Hid.mk' (hF.out host hh w2.drew (fun b hb => by rw [hw2]; exact (Below.refl w1.heap.size w1).alloc (Nat.le_refl _) _ |>.block b hb))
  have hb2 : Hid (Below w'.heap.size w' w2) := by rw [hw2]; exact ((below_drewN (Below.refl _ _) m).trans hb.out).alloc (by have := hb.out.size; simpa using this) _
  clear hw2
  go_wp2_with fail
  refine (helper9 w1.heap.size mp _ store host _ c2 c3 hl2.out).mono ?_
  rintro e w3 ⟨rfl, hb3⟩
  have hb4 := Hid.mk' (hb2.out.trans (hb3.mono hb2.out.size))
  clear hb3 c2 c3
  go_wp2_with fail
  refine (model_ents (hE.out.later hb4.out) _ _).mono ?_
  rintro e w4 ⟨rfl, rfl⟩
  have eq := beq_of_eq (pick_look K V store host len)
  go_wp2_with fail
  go_ret
  exact ⟨rfl, hb4.out⟩

set_option linter.unusedVariables false in
set_option maxRecDepth 100000 in
theorem law1_lifted (os : Os) (started : os.Started) (H : Type) (enc : TypeId × Value → H) :
    ReturnsInHanded {} Try.checked os 3 .any (Rows.fnAuthFileHelperMatchesFileOrderModelSpec.pre6 enc Try.prog Try.f3 Rows.fnAuthFileHelperMatchesFileOrderModelRow.domain false) (Rows.fnAuthFileHelperMatchesFileOrderModelSpec.post enc Try.prog Try.f3 false true false false) := by
  refine returnsInHanded_of_change (C := Try.checked) own started (by kernel_rfl) Try.func3
    (ChangeSpec.witness6 (enc := enc) (C := Try.checked) false ⟨#[], #[.slice none 0 0, .string ⟨#[]⟩, .string ⟨#[]⟩], []⟩ 8 (by kernel_rfl) (by kernel_rfl) (by kernel_rfl) (by kernel_rfl)) ?_
  intro W base args ds gs before hval0 hW hcnd _
  have hval : ∀ (j : Nat) t v, Try.f3.params[j]? = some t → args[j]? = some v → Value.okWide Try.prog W .any base t v := hval0
  have hW' := hW
  obtain ⟨p, q, hA0, hV, rfl, hfz, hnd⟩ := hW
  have hA : DataW.TrodAll enc Try.prog W 0 (fun _ => true) true Try.f3.params.toList args.toList ds p := hA0
  rw [Try.params3] at hA hval
  obtain ⟨v0, vs0, d0, ds0, p0, q0, hargs, rfl, rfl, h0, r0⟩ := trodAll_cons hA
  obtain ⟨v1, vs1, d1, ds1, p1, q1, rfl, rfl, rfl, h1, r1⟩ := trodAll_cons r0
  obtain ⟨v2, vs2, d2, ds2, p2, q2, rfl, rfl, rfl, h2, r2⟩ := trodAll_cons r1
  obtain ⟨rfl, rfl, rfl⟩ := trodAll_nil r2
  obtain rfl : args = #[v0, v1, v2] := by cases args; simp_all
  obtain ⟨rfl, rfl⟩ := trodVars_none hV
  obtain ⟨a0, len0, cap0, rfl⟩ := okWide_slice Try.underlying22 (hval 0 22 v0 rfl rfl)
  have k0 := h0
  have lt0 : ∀ x ∈ p0, x.block < W.heap.size := by obtain ⟨m, hm⟩ := k0; exact DataW.trod_lt m _ _ _ hm
  obtain ⟨K, V, hE⟩ := ents_of h0
  obtain ⟨s1, rfl, rfl, rfl, w1⟩ := open_string Try.underlying9 (hval 1 9 v1 rfl rfl) h1
  obtain ⟨s2, rfl, rfl, rfl, w2⟩ := open_string Try.underlying9 (hval 2 9 v2 rfl rfl) h2
  clear hA0 hval0
  refine (law1_walk a0 len0 cap0 K V s1 s2 W hE w2).mono fun e W' ⟨he, bel⟩ => ?_
  subst he
  exact ⟨_, rfl, _, _, _, [], _, [], hW', trodAll_mk1 (shut_bool Try.underlying4 _), (trodAll_cons_mk (Below.trod laidOut (by kernel_rfl) (of_decide_eq_true (by kernel_rfl)) k0 bel lt0) (trodAll_cons_mk (shut_string Try.underlying9 w1) (trodAll_cons_mk (shut_string Try.underlying9 w2) trodAll_mk0))), rfl, bel.frame _, fun h => by cases h⟩

theorem law1_over : Rows.fnAuthFileHelperMatchesFileOrderModelRow.holds Try.pinned (OpenSpec.ofChange Rows.fnAuthFileHelperMatchesFileOrderModelSpec) :=
  OpenClaim.holds_of_wide 3 Try.f3 rfl rfl rfl rfl rfl rfl rfl ⟨rfl, rfl, rfl, rfl, rfl⟩ rfl rfl rfl rfl rfl (by kernel_rfl) Try.func3 (by kernel_rfl)
    (of_decide_eq_true (by kernel_rfl)) (by unfold Func.isWrapper; first | (rw [if_pos (by decide +kernel)]; kernel_rfl) | (rw [if_neg (by decide +kernel)]; exact ⟨rfl, rfl⟩))
    (fun os started H enc _ => law1_lifted os started H enc)

/-- THE STATEMENT. -/
theorem law1_proved : Rows.FnAuthFileHelperMatchesFileOrderModelSaid := law1_over

end Go.Proofs.Qxb6609414a
