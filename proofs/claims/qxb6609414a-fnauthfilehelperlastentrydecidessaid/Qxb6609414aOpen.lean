/-
  A LIST OF PAIRS THAT CAME IN, as the walks want it; the closed facts of the frame.
-/
import Derived.Test.Qxb6609414aW6
import Derived.ProofKit
import Derived.OpenShut
import Derived.ShutString
import Derived.ChangeOld
import Derived.Deep.SlicePairs
namespace Go.Proofs.Qxb6609414a
open Go.RowKit Go.Deep Go.ChangeShapes Go.WideShapes

theorem own : ownKnob Try.prog.godebug = none := by kernel_rfl
theorem laidOut : laidOutB Try.prog = true := by kernel_rfl

theorem ents_of {H : Type} {enc : TypeId × Value → H} {W : World} {a : Option Addr} {len cap : Nat} {d : DataW H} {p : List MemPlace} (h : DataW.Trod enc Try.prog W 0 (fun _ => true) true 22 (.slice a len cap) d p) :
    ∃ K V, Ents W a len cap K V := by
  obtain ⟨fuel, hf⟩ := h
  rcases open_slice_pairs Try.underlying22 Try.underlying34 (by kernel_rfl) rfl rfl (by kernel_rfl) (by kernel_rfl) hf with ⟨hcs, _⟩ | ⟨x, l, c, m, n, V0, V1, D0, D1, P0, P1, hcs, _, hl, hm, hmm, _, hx⟩
  · simp [Value.cells] at hcs
    obtain ⟨rfl, rfl, rfl⟩ := hcs
    exact ⟨fun _ => ByteArray.empty, fun _ => ByteArray.empty, .inl ⟨rfl, rfl, rfl⟩, by omega, fun _ => by decide, fun _ => by decide⟩
  · simp [Value.cells] at hcs
    obtain ⟨rfl, rfl, rfl⟩ := hcs
    simp only [if_true] at hmm
    unfold maxLen at hm
    have each : ∀ i, i < len → ∃ q : ByteArray × ByteArray, W.cell? (x.add (i * 2)) = some (.string q.1) ∧ W.cell? (x.add (i * 2 + 1)) = some (.string q.2) ∧ q.1.size ≤ maxLen ∧ q.2.size ≤ maxLen := fun i hi => by
      obtain ⟨c0, c1, t0, t1⟩ := hx i (by omega)
      obtain ⟨s0, e0, _, z0⟩ := DataW.trod_string Try.underlying9 t0
      obtain ⟨s1, e1, _, z1⟩ := DataW.trod_string Try.underlying9 t1
      simp only [List.cons.injEq, and_true] at e0 e1
      rw [e0] at c0
      rw [e1] at c1
      exact ⟨(s0, s1), c0, c1, z0, z1⟩
    obtain ⟨q, hq⟩ := choose_lt each
    refine ⟨fun i => if i < len then (q i).1 else ByteArray.empty, fun i => if i < len then (q i).2 else ByteArray.empty, ?_, by omega, fun i => ?_, fun i => ?_⟩
    · by_cases hl0 : len = 0
      · exact .inr (.inl ⟨x, rfl, hl0⟩)
      · obtain ⟨b, off, spot⟩ := x
        have c0 := (hq 0 (by omega)).1
        have hspot : spot = none := by simpa [Addr.add] using World.cell?_spot c0
        subst hspot
        refine .inr (.inr ⟨b, off, rfl, ?_, fun i hi => ?_, fun i hi => ?_⟩)
        · simpa [Addr.add] using block_lt_of_cell c0
        · have := (hq i hi).1
          rw [add_plain] at this
          simpa [hi] using this
        · have := (hq i hi).2.1
          rw [add_plain] at this
          simpa [hi, Nat.add_assoc] using this
    · split
      · rename_i hi; exact (hq i hi).2.2.1
      · decide
    · split
      · rename_i hi; exact (hq i hi).2.2.2
      · decide

end Go.Proofs.Qxb6609414a
