/-
  'Rows.FnAuthFileHelperLastEntryDecidesSaid': the law's walk and its row.
-/
import Derived.Test.Qxb6609414aW6
import Derived.Test.Qxb6609414aOpen
namespace Go.Proofs.Qxb6609414a
open Go.RowKit Go.Maps Go.WideMaps Go.Deep
open Go.ChangeShapes Go.WideShapes Go.ChangeAt
open Go.ChangeMaps (open_string shut_string)

/-- A file made over a filled map, its helper asked for a host: as the list's rule says. -/
theorem ask9 {w1 w2 : World} {m : Option Nat} {K V : Nat → ByteArray} {n : Nat} {store host mm : ByteArray} (hF : Filled w1 m K V n) (hw2 : w2 = w1.alloc (.cells #[.string { data := #[] }, .slice none 0 0, .map m, .string store] 38))
    (hh : host.size ≤ maxLen) (hm : model K V store host n = mm) :
    Calls Try.prog 9 #[.pointer (some ⟨w1.heap.size, 0, none⟩), .string host] w2 fun e w' => e = .returned (.string mm) ∧ Below w2.heap.size w2 w' := by
  have c2 : w2.cell? ⟨w1.heap.size, 2, none⟩ = some (.map m) := by rw [hw2]; simp
  have c3 : w2.cell? ⟨w1.heap.size, 3, none⟩ = some (.string store) := by rw [hw2]; simp
  have hl2 := hF host hh w2.drew (fun b hb => by rw [hw2]; exact (Below.refl w1.heap.size w1).alloc (Nat.le_refl _) _ |>.block b hb)
  rw [← hm, ← pick_look]
  exact helper9 w1.heap.size m _ store host w2 c2 c3 hl2

theorem below_new {w w1 w2 : World} {o : Obj} (h : Below w.heap.size w w1) (hw2 : w2 = w1.alloc o) : Below w.heap.size w w2 := by
  rw [hw2]
  exact h.alloc h.size _

theorem below_call {w w1 w2 : World} (h : Below w.heap.size w w1) (h2 : Below w1.heap.size w1 w2) : Below w.heap.size w w2 := h.trans (h2.mono h.size)

set_option maxHeartbeats 1600000 in
theorem law2_walk (a : Option Addr) (len cap : Nat) (K V : Nat → ByteArray) (store host other h : ByteArray) (w : World) (hE0 : Ents w a len cap K V) (hh : host.size ≤ maxLen) (ho : other.size ≤ maxLen) (hv : h.size ≤ maxLen) :
    Calls Try.prog 4 #[.slice a len cap, .string store, .string host, .string other, .string h] w fun e w' => e = .returned (.bool true) ∧ Below w.heap.size w w' := by
  have hE := Hid.mk' hE0
  clear hE0
  obtain ⟨m0, hm0⟩ : ∃ m, model K V store host len = m := ⟨_, rfl⟩
  obtain ⟨m1, hm1⟩ : ∃ m, model (snocF K len host) (snocF V len h) store host (len + 1) = m := ⟨_, rfl⟩
  obtain ⟨m2, hm2⟩ : ∃ m, model (snocF K len other) (snocF V len h) store host (len + 1) = m := ⟨_, rfl⟩
  have q1 := Hid.mk' (hm1.symm.trans (model_own K V store host h len))
  have q2 : Hid (other = host → m2 = pick h store) := fun e => by subst e; exact hm2.symm.trans (model_own K V store other h len)
  have q3 : Hid (other ≠ host → m2 = m0) := fun e => hm2.symm.trans ((model_else K V store host other h len e).trans hm0)
  have M0 := Hid.mk' hm0
  have M1 := Hid.mk' hm1
  have M2 := Hid.mk' hm2
  clear hm0 hm1 hm2
  go_enter Try.func4, Try.ntmps4
  go_wp2_with fail
  refine (bytes2_ents hE.out _ _ _ _).mono ?_
  rintro e w' ⟨⟨r, rfl⟩, rfl⟩
  cases r
  · go_wp2_with fail
    go_ret
    exact ⟨rfl, Below.refl _ _⟩
  by_cases hbig : (4096 : Int) < (len : Int)
  · go_wp2_with fail
    go_ret
    exact ⟨rfl, Below.refl _ _⟩
  go_wp2_with fail
  refine (size_ents hE.out).mono ?_
  rintro e w' ⟨⟨n, rfl⟩, m, rfl⟩
  go_wp2_with fail
  · go_ret
    exact ⟨rfl, below_drewN (Below.refl _ _) _⟩
  have b0 := Hid.mk' (below_drewN (Below.refl w'.heap.size w') m)
  -- the list as it came
  refine (build_ents (hE.out.later b0.out) (by omega)).mono ?_
  rintro e w1 ⟨mp, rfl, hF0, hb0⟩
  have hF1 := Hid.mk' hF0
  have b1 := Hid.mk' (below_call b0.out hb0)
  clear hF0 hb0
  go_wp2_with fail
  refine (new_any mp store _).mono ?_
  rintro e w2 ⟨rfl, hw0⟩
  have hw2 := Hid.mk' hw0
  have b2 := Hid.mk' (below_new b1.out hw0)
  clear hw0
  go_wp2_with fail
  refine (ask9 hF1.out hw2.out hh M0.out).mono ?_
  rintro e w3 ⟨rfl, hb0⟩
  have b3 := Hid.mk' (below_call b2.out hb0)
  clear hb0 hF1 hw2 b1 b2
  -- with the host's own pair behind it
  go_wp2_with fail
  refine (append_ents (hE.out.later b3.out) (by omega) host h hh hv).mono ?_
  rintro e w4 ⟨rfl, hE0, hb0⟩
  have hE4 := Hid.mk' hE0
  have b4 := Hid.mk' (below_call b3.out hb0)
  clear hE0 hb0
  go_wp2_with fail
  refine (build_ents hE4.out (by omega)).mono ?_
  rintro e w5 ⟨mp5, rfl, hF0, hb0⟩
  have hF5 := Hid.mk' hF0
  have b5 := Hid.mk' (below_call b4.out hb0)
  clear hF0 hb0 hE4
  go_wp2_with fail
  refine (new_any mp5 store _).mono ?_
  rintro e w6 ⟨rfl, hw0⟩
  have hw6 := Hid.mk' hw0
  have b6 := Hid.mk' (below_new b5.out hw0)
  clear hw0
  go_wp2_with fail
  refine (ask9 hF5.out hw6.out hh M1.out).mono ?_
  rintro e w7 ⟨rfl, hb0⟩
  have b7 := Hid.mk' (below_call b6.out hb0)
  clear hb0 hF5 hw6 b3 b4 b5 b6
  -- with the other's pair behind it
  go_wp2_with fail
  refine (append_ents (hE.out.later b7.out) (by omega) other h ho hv).mono ?_
  rintro e w8 ⟨rfl, hE0, hb0⟩
  have hE8 := Hid.mk' hE0
  have b8 := Hid.mk' (below_call b7.out hb0)
  clear hE0 hb0
  go_wp2_with fail
  refine (build_ents hE8.out (by omega)).mono ?_
  rintro e w9 ⟨mp9, rfl, hF0, hb0⟩
  have hF9 := Hid.mk' hF0
  have b9 := Hid.mk' (below_call b8.out hb0)
  clear hF0 hb0 hE8
  go_wp2_with fail
  refine (new_any mp9 store _).mono ?_
  rintro e wa ⟨rfl, hw0⟩
  have hwa := Hid.mk' hw0
  have ba := Hid.mk' (below_new b9.out hw0)
  clear hw0
  go_wp2_with fail
  refine (ask9 hF9.out hwa.out hh M2.out).mono ?_
  rintro e wb ⟨rfl, hb0⟩
  have bb := Hid.mk' (below_call ba.out hb0)
  clear hb0 hF9 hwa b7 b8 b9 ba M0 M1 M2
  by_cases hfull : (!h.toList.isEmpty) = true
  · have t1 : (m1.toList == h.toList) = true := beq_of_eq (q1.out.trans (pick_full hfull _))
    by_cases heq : other = host
    · have t2 : (other.toList == host.toList) = true := beq_of_eq heq
      have t3 : (m2.toList == h.toList) = true := beq_of_eq ((q2.out heq).trans (pick_full hfull _))
      clear heq
      go_wp2_with fail
      go_ret
      exact ⟨rfl, bb.out⟩
    · have t2 : (other.toList == host.toList) = false := beq_of_ne heq
      have t3 : (m2.toList == m0.toList) = true := beq_of_eq (q3.out heq)
      clear heq
      go_wp2_with fail
      go_ret
      exact ⟨rfl, bb.out⟩
  · have hvoid : (!h.toList.isEmpty) = false := by simpa using hfull
    clear hfull
    have t1 : (m1.toList == store.toList) = true := beq_of_eq (q1.out.trans (pick_void hvoid _))
    by_cases heq : other = host
    · have t2 : (other.toList == host.toList) = true := beq_of_eq heq
      have t3 : (m2.toList == store.toList) = true := beq_of_eq ((q2.out heq).trans (pick_void hvoid _))
      clear heq
      go_wp2_with fail
      go_ret
      exact ⟨rfl, bb.out⟩
    · have t2 : (other.toList == host.toList) = false := beq_of_ne heq
      have t3 : (m2.toList == m0.toList) = true := beq_of_eq (q3.out heq)
      clear heq
      go_wp2_with fail
      go_ret
      exact ⟨rfl, bb.out⟩

set_option linter.unusedVariables false in
set_option maxRecDepth 100000 in
theorem law2_lifted (os : Os) (started : os.Started) (H : Type) (enc : TypeId × Value → H) :
    ReturnsInHanded {} Try.checked os 4 .any (Rows.fnAuthFileHelperLastEntryDecidesSpec.pre6 enc Try.prog Try.f4 Rows.fnAuthFileHelperLastEntryDecidesRow.domain false) (Rows.fnAuthFileHelperLastEntryDecidesSpec.post enc Try.prog Try.f4 false true false false) := by
  refine returnsInHanded_of_change (C := Try.checked) own started (by kernel_rfl) Try.func4
    (ChangeSpec.witness6 (enc := enc) (C := Try.checked) false ⟨#[], #[.slice none 0 0, .string ⟨#[]⟩, .string ⟨#[]⟩, .string ⟨#[]⟩, .string ⟨#[]⟩], []⟩ 8 (by kernel_rfl) (by kernel_rfl) (by kernel_rfl) (by kernel_rfl)) ?_
  intro W base args ds gs before hval0 hW hcnd _
  have hval : ∀ (j : Nat) t v, Try.f4.params[j]? = some t → args[j]? = some v → Value.okWide Try.prog W .any base t v := hval0
  have hW' := hW
  obtain ⟨p, q, hA0, hV, rfl, hfz, hnd⟩ := hW
  have hA : DataW.TrodAll enc Try.prog W 0 (fun _ => true) true Try.f4.params.toList args.toList ds p := hA0
  rw [Try.params4] at hA hval
  obtain ⟨v0, vs0, d0, ds0, p0, q0, hargs, rfl, rfl, h0, r0⟩ := trodAll_cons hA
  obtain ⟨v1, vs1, d1, ds1, p1, q1, rfl, rfl, rfl, h1, r1⟩ := trodAll_cons r0
  obtain ⟨v2, vs2, d2, ds2, p2, q2, rfl, rfl, rfl, h2, r2⟩ := trodAll_cons r1
  obtain ⟨v3, vs3, d3, ds3, p3, q3, rfl, rfl, rfl, h3, r3⟩ := trodAll_cons r2
  obtain ⟨v4, vs4, d4, ds4, p4, q4, rfl, rfl, rfl, h4, r4⟩ := trodAll_cons r3
  obtain ⟨rfl, rfl, rfl⟩ := trodAll_nil r4
  obtain rfl : args = #[v0, v1, v2, v3, v4] := by cases args; simp_all
  obtain ⟨rfl, rfl⟩ := trodVars_none hV
  obtain ⟨a0, len0, cap0, rfl⟩ := okWide_slice Try.underlying22 (hval 0 22 v0 rfl rfl)
  have k0 := h0
  have lt0 : ∀ x ∈ p0, x.block < W.heap.size := by obtain ⟨m, hm⟩ := k0; exact DataW.trod_lt m _ _ _ hm
  obtain ⟨K, V, hE⟩ := ents_of h0
  obtain ⟨s1, rfl, rfl, rfl, w1⟩ := open_string Try.underlying9 (hval 1 9 v1 rfl rfl) h1
  obtain ⟨s2, rfl, rfl, rfl, w2⟩ := open_string Try.underlying9 (hval 2 9 v2 rfl rfl) h2
  obtain ⟨s3, rfl, rfl, rfl, w3⟩ := open_string Try.underlying9 (hval 3 9 v3 rfl rfl) h3
  obtain ⟨s4, rfl, rfl, rfl, w4⟩ := open_string Try.underlying9 (hval 4 9 v4 rfl rfl) h4
  clear hA0 hval0
  refine (law2_walk a0 len0 cap0 K V s1 s2 s3 s4 W hE w2 w3 w4).mono fun e W' ⟨he, bel⟩ => ?_
  subst he
  exact ⟨_, rfl, _, _, _, [], _, [], hW', trodAll_mk1 (shut_bool Try.underlying4 _), (trodAll_cons_mk (Below.trod laidOut (by kernel_rfl) (of_decide_eq_true (by kernel_rfl)) k0 bel lt0) (trodAll_cons_mk (shut_string Try.underlying9 w1) (trodAll_cons_mk (shut_string Try.underlying9 w2) (trodAll_cons_mk (shut_string Try.underlying9 w3) (trodAll_cons_mk (shut_string Try.underlying9 w4) trodAll_mk0))))), rfl, bel.frame _, fun h => by cases h⟩

theorem law2_over : Rows.fnAuthFileHelperLastEntryDecidesRow.holds Try.pinned (OpenSpec.ofChange Rows.fnAuthFileHelperLastEntryDecidesSpec) :=
  OpenClaim.holds_of_wide 4 Try.f4 rfl rfl rfl rfl rfl rfl rfl ⟨rfl, rfl, rfl, rfl, rfl⟩ rfl rfl rfl rfl rfl (by kernel_rfl) Try.func4 (by kernel_rfl)
    (of_decide_eq_true (by kernel_rfl)) (by unfold Func.isWrapper; first | (rw [if_pos (by decide +kernel)]; kernel_rfl) | (rw [if_neg (by decide +kernel)]; exact ⟨rfl, rfl⟩))
    (fun os started H enc _ => law2_lifted os started H enc)

/-- THE STATEMENT. -/
theorem law2_proved : Rows.FnAuthFileHelperLastEntryDecidesSaid := law2_over

end Go.Proofs.Qxb6609414a
