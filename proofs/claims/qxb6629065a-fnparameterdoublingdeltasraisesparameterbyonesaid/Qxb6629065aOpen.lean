import Derived.Test.Qxb6629065aParam
import Derived.ProofKit
import Derived.OpenShut
import Derived.Laws.Rows
namespace Go.Proofs.Qxb6629065a
open Go.ChangeShapes Go.WideShapes Go.ChangeAt Go.RowKit

theorem laidOut : laidOutB Try.prog = true := by kernel_rfl
theorem own : ownKnob Try.prog.godebug = none := by kernel_rfl
theorem cells25 : Try.prog.cellsOf 25 = 1 := by kernel_rfl

theorem open_u_any {H : Type} {enc : TypeId × Value → H} {w : World} {a : Option Addr} {len cap : Nat} {d : DataW H} {ps : List MemPlace}
    (h : DataW.Trod enc Try.prog w 0 (fun _ => true) true 22 (.slice a len cap) d ps) : ∃ z, IsU w a len z ∧ len ≤ maxLen := by
  obtain ⟨fuel, hf⟩ := h
  rcases open_ints Try.underlying22 Try.underlying25 cells25 hf with ⟨hcs, _⟩ | ⟨x, l, c, zs, hcs, _, hl, hm, hz, _, hcell, hwz⟩
  · simp [Value.cells] at hcs
    obtain ⟨rfl, rfl, rfl⟩ := hcs
    exact ⟨fun _ => 0, ⟨fun i hi => absurd hi (by omega), fun h => absurd h (by omega)⟩, by unfold maxLen; omega⟩
  · simp [Value.cells] at hcs
    obtain ⟨rfl, rfl, rfl⟩ := hcs
    have hz' : zs.length = cap := by simpa using hz
    refine ⟨fun i => zs.getD i 0, ⟨fun i hi => ?_, fun hp => ?_⟩, by omega⟩
    · have hi' : i < zs.length := by omega
      have hm' : zs.getD i 0 ∈ zs := by
        rw [List.getD_eq_getElem?_getD, List.getElem?_eq_getElem hi']; exact List.getElem_mem hi'
      have hw := hwz _ hm'
      have h1 : IntKind.u32.min = 0 := rfl
      have h2 : IntKind.u32.max = 4294967295 := rfl
      simp only [Lit.wf, Bool.and_eq_true, decide_eq_true_eq, h1, h2] at hw
      exact hw
    · obtain ⟨b, off, spot⟩ := x
      have hspot : spot = none := by simpa [Addr.add] using World.cell?_spot (hcell 0 (by omega))
      subst hspot
      have hc : ∀ i, i < len → w.cell? ⟨b, off + i, none⟩ = some (.int .u32 (zs.getD i 0)) := fun i hi => by
        rw [← Go.WideShapes.add_plain, hcell i (by omega)]
      exact ⟨b, off, rfl, block_lt_of_cell (hc 0 hp), hc⟩
end Go.Proofs.Qxb6629065a
