import Derived.Test.Qxb6629025aInts
import Derived.ProofKit
import Derived.OpenShut
import Derived.Laws.Rows
namespace Go.Proofs.Qxb6629025a
open Go.ChangeShapes Go.WideShapes Go.ChangeAt Go.RowKit

theorem laidOut : laidOutB Try.prog = true := by kernel_rfl
theorem own : ownKnob Try.prog.godebug = none := by kernel_rfl
theorem cells3 : Try.prog.cellsOf 3 = 1 := by kernel_rfl

theorem open_ints_any {H : Type} {enc : TypeId × Value → H} {w : World} {a : Option Addr} {len cap : Nat} {d : DataW H} {ps : List MemPlace}
    (h : DataW.Trod enc Try.prog w 0 (fun _ => true) true 22 (.slice a len cap) d ps) : ∃ l, IsInts w a len l ∧ len ≤ maxLen := by
  obtain ⟨fuel, hf⟩ := h
  rcases open_ints Try.underlying22 Try.underlying3 cells3 hf with ⟨hcs, _⟩ | ⟨x, l, c, zs, hcs, _, hl, hm, hz, _, hcell, hwz⟩
  · simp [Value.cells] at hcs
    obtain ⟨rfl, rfl, rfl⟩ := hcs
    exact ⟨[], ⟨rfl, by simp, fun h => absurd h (by omega)⟩, by unfold maxLen; omega⟩
  · simp [Value.cells] at hcs
    obtain ⟨rfl, rfl, rfl⟩ := hcs
    have hz' : zs.length = cap := by simpa using hz
    refine ⟨zs.take len, ⟨by rw [List.length_take]; omega, fun x hx => hwz x (List.mem_of_mem_take hx), fun hp => ?_⟩, by omega⟩
    obtain ⟨b, off, spot⟩ := x
    have hspot : spot = none := by simpa [Addr.add] using World.cell?_spot (hcell 0 (by omega))
    subst hspot
    have hc : ∀ i, i < len → w.cell? ⟨b, off + i, none⟩ = some (.int .i64 ((zs.take len).getD i 0)) := fun i hi => by
      rw [← Go.WideShapes.add_plain, hcell i (by omega)]
      simp [hi]
    exact ⟨b, off, rfl, block_lt_of_cell (hc 0 hp), hc⟩
end Go.Proofs.Qxb6629025a
