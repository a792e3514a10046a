import Derived.Test.Qxb6628993aStrs
import Derived.ProofKit
import Derived.SliceStrings
import Derived.OpenShut
import Derived.Laws.Rows
namespace Go.Proofs.Qxb6628993a
open Go.ChangeShapes Go.WideShapes Go.ChangeAt Go.RowKit

theorem cells9 : Try.prog.cellsOf 9 = 1 := by kernel_rfl
theorem laidOut : laidOutB Try.prog = true := by kernel_rfl
theorem own : ownKnob Try.prog.godebug = none := by kernel_rfl

theorem open_strs_any {H : Type} {enc : TypeId × Value → H} {w : World} {a : Option Addr} {len cap : Nat} {d : DataW H} {ps : List MemPlace}
    (h : DataW.Trod enc Try.prog w 0 (fun _ => true) true 22 (.slice a len cap) d ps) : ∃ f, IsStrs w a len f := by
  obtain ⟨fuel, hf⟩ := h
  rcases open_strings Try.underlying22 Try.underlying9 cells9 hf with ⟨hcs, _⟩ | ⟨x, l, c, ss, hcs, _, hl, hm, hz, _, hcell, hws⟩
  · simp [Value.cells] at hcs
    obtain ⟨rfl, rfl, rfl⟩ := hcs
    exact ⟨fun _ => ByteArray.empty, by unfold maxLen; omega, fun i hi => absurd hi (by omega), fun h => absurd h (by omega)⟩
  · simp [Value.cells] at hcs
    obtain ⟨rfl, rfl, rfl⟩ := hcs
    have hz' : ss.length = cap := by simpa using hz
    refine ⟨fun i => ss.getD i ByteArray.empty, by omega, fun i hi => ?_, fun hp => ?_⟩
    · refine hws _ ?_
      have hi' : i < ss.length := by omega
      show ss.getD i ByteArray.empty ∈ ss
      rw [List.getD_eq_getElem?_getD, List.getElem?_eq_getElem hi']
      exact List.getElem_mem hi'
    · obtain ⟨b, off, spot⟩ := x
      have hspot : spot = none := by simpa [Addr.add] using World.cell?_spot (hcell 0 (by omega))
      subst hspot
      have hc : ∀ i, i < len → w.cell? ⟨b, off + i, none⟩ = some (.string (ss.getD i ByteArray.empty)) := fun i hi => by
        rw [← Go.WideShapes.add_plain]; exact hcell i (by omega)
      exact ⟨b, off, rfl, block_lt_of_cell (hc 0 hp), hc⟩
end Go.Proofs.Qxb6628993a
