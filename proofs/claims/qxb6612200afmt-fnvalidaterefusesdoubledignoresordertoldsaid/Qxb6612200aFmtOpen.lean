/-
  A LIST OF NAMES THAT CAME IN, as the walks want it; the closed facts of the frame.
-/
import Derived.Test.Qxb6612200aFmtCards
import Derived.Test.Qxb6612200aFmtV2
import Derived.ProofKit
import Derived.OpenShut
import Derived.ShutString
import Derived.ChangeOld
import Derived.SliceStrings
import Derived.Stop.JoinedAt
import Derived.Stop.JoinedTold
import Derived.SevenToldRow
namespace Go.Proofs.Qxb6612200aFmt
open Go.RowKit Go.ChangeShapes Go.WideShapes

theorem own : ownKnob Tryf.prog.godebug = none := by kernel_rfl
theorem laidOut : laidOutB Tryf.prog = true := by kernel_rfl
theorem laidOutP : laidOutB Tryf.pinned.checked.prog = true := by kernel_rfl
theorem stopsP : Tryf.pinned.checked.prog.stops = ["fmt.errorf"] := by kernel_rfl
theorem stopKnobsP : Tryf.pinned.checked.prog.stopKnobs = [] := by kernel_rfl
theorem quietP (os : Os) : Stop.quiet Tryf.pinned.checked.prog os := by
  intro k hk
  rw [stopKnobsP] at hk
  cases hk

theorem eds_of {H : Type} {enc : TypeId × Value → H} {W : World} {a : Option Addr} {len cap : Nat} {d : DataW H} {p : List MemPlace} (h : DataW.Trod enc Tryf.prog W 0 (fun _ => true) true 22 (.slice a len cap) d p) :
    ∃ S, Eds W a len S := by
  obtain ⟨fuel, hf⟩ := h
  rcases open_strings Tryf.underlying22 Tryf.underlying9 (by kernel_rfl) hf with ⟨hcs, _⟩ | ⟨x, l, c, ss, hcs, _, hl, hm, hz, _, hcell, hws⟩
  · simp [Value.cells] at hcs
    obtain ⟨rfl, rfl, rfl⟩ := hcs
    exact ⟨fun _ => ByteArray.empty, .inl rfl, by omega, fun _ => by decide⟩
  · simp [Value.cells] at hcs
    obtain ⟨rfl, rfl, rfl⟩ := hcs
    simp only [if_true] at hz
    unfold maxLen at hm
    refine ⟨fun i => ss.getD i ByteArray.empty, ?_, by omega, fun i => ?_⟩
    · by_cases hl0 : len = 0
      · exact .inl hl0
      · obtain ⟨b, off, spot⟩ := x
        have c0 := hcell 0 (by omega)
        have hspot : spot = none := by simpa [Addr.add] using World.cell?_spot c0
        subst hspot
        refine .inr ⟨b, off, rfl, ?_, fun i hi => ?_⟩
        · simpa [Addr.add] using block_lt_of_cell c0
        · rw [← add_plain]
          exact hcell i (by omega)
    · by_cases hi : i < ss.length
      · have e : ss.getD i ByteArray.empty = ss[i] := by simp [hi]
        show (ss.getD i ByteArray.empty).size ≤ maxLen
        rw [e]
        exact hws _ (List.getElem_mem hi)
      · have e : ss.getD i ByteArray.empty = ByteArray.empty := by simp [hi]
        show (ss.getD i ByteArray.empty).size ≤ maxLen
        rw [e]
        decide

end Go.Proofs.Qxb6612200aFmt
