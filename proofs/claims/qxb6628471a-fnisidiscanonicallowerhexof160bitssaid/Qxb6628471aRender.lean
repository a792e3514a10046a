import Derived.Test.Qxb6628471aSeed
import Derived.Deep.OwnRows
import Derived.Laws.IdiomStrings
namespace Go.Proofs.Qxb6628471a
open Go.RowKit Go.Deep

def zero40 : Array Value := madeCells #[.int .u8 0] 40
theorem make40 (w : World) : (Instr.makeSlice 30 (.int .i64 40) (.int .i64 40)).run Try.prog w = .ok (.slice (some ⟨w.heap.size, 0, none⟩) 40 40) (w.alloc (.cells zero40 5)) :=
  run_make_row' (P := Try.prog) 30 5 (.int .u8 0) 1 Try.underlying30 (by kernel_rfl) rfl .i64 .i64 40 (by omega) (by omega) w
theorem zero40_size : zero40.size = 40 := by decide +kernel

def HEX : ByteArray := ⟨#[48, 49, 50, 51, 52, 53, 54, 55, 56, 57, 97, 98, 99, 100, 101, 102]⟩
def hexd (n : Nat) : UInt8 := HEX.data.getD n 0
theorem HEX_at (n : Nat) (h : n < HEX.size) : HEX[n] = hexd n := by
  unfold hexd
  have h' : n < HEX.data.size := h
  have e : HEX.data[n]? = some (HEX.data[n]'h') := Array.getElem?_eq_getElem h'
  rw [Array.getD_eq_getD_getElem?, e]; rfl
/-- digit j of the rendering -/
def digit (l : List UInt8) (j : Nat) : UInt8 := if j % 2 = 0 then hexd ((l.getD (j / 2) 0).toNat / 16) else hexd ((l.getD (j / 2) 0).toNat % 16)
def renderTo (l : List UInt8) (k : Nat) : List UInt8 := (List.range 40).map (fun j => if j < 2 * k then digit l j else 0)
def renderL (l : List UInt8) : List UInt8 := (List.range 40).map (digit l)
theorem renderTo_len (s : List UInt8) (k : Nat) : (renderTo s k).length = 40 := by simp [renderTo]
theorem renderL_len (s : List UInt8) : (renderL s).length = 40 := by simp [renderL]
theorem renderTo_end (s : List UInt8) : renderTo s 20 = renderL s := by
  unfold renderTo renderL
  apply List.map_congr_left
  intro i hi
  have := List.mem_range.1 hi
  rw [if_pos (by omega)]
theorem cellsOf_at (l : List UInt8) (j : Nat) (h : j < (cellsOf l).size) : (cellsOf l)[j] = .int .u8 ((l.getD j 0).toNat : Int) := by
  have h' : j < l.length := by simpa [cellsOf] using h
  simp [cellsOf, B, List.getElem?_eq_getElem h']
theorem renderTo_step (l : List UInt8) (k : Nat) (_hk : k < 20) (c : UInt8) (hc : l.getD k 0 = c) (h1 : c.toNat / 16 < HEX.size) (h2 : c.toNat % 16 < HEX.size) :
    ((cellsOf (renderTo l k)).setIfInBounds (2 * k) (.int .u8 (HEX[c.toNat / 16].toNat : Int))).setIfInBounds (2 * k + 1) (.int .u8 (HEX[c.toNat % 16].toNat : Int)) = cellsOf (renderTo l (k + 1)) := by
  rw [HEX_at, HEX_at]
  subst hc
  apply Array.ext
  · simp [cellsOf_size, renderTo_len]
  · intro i g1 g2
    have hi : i < 40 := by simpa [cellsOf_size, renderTo_len] using g2
    have hz : (cellsOf (renderTo l k)).size = 40 := by rw [cellsOf_size, renderTo_len]
    rw [Array.getElem_setIfInBounds (by simpa [hz] using hi), cellsOf_at]
    have e2 : (renderTo l (k + 1)).getD i 0 = if i < 2 * (k + 1) then digit l i else 0 := by
      simp [renderTo, List.getElem?_range hi]
    have e1 : (renderTo l k).getD i 0 = if i < 2 * k then digit l i else 0 := by
      simp [renderTo, List.getElem?_range hi]
    rw [e2]
    by_cases a1 : 2 * k + 1 = i
    · rw [if_pos a1, if_pos (by omega)]
      unfold digit
      rw [if_neg (by omega), show i / 2 = k from by omega]
    · rw [if_neg a1, Array.getElem_setIfInBounds (by rw [hz]; exact hi)]
      by_cases a0 : 2 * k = i
      · rw [if_pos a0, if_pos (by omega)]
        unfold digit
        rw [if_pos (by omega), show i / 2 = k from by omega]
      · rw [if_neg a0, cellsOf_at, e1]
        by_cases h3 : i < 2 * k
        · rw [if_pos h3, if_pos (by omega)]
        · rw [if_neg h3, if_neg (by omega)]
theorem zero40_render (s : List UInt8) : zero40 = cellsOf (renderTo s 0) := by
  apply Array.ext
  · rw [zero40_size, cellsOf_size, renderTo_len]
  · intro i g1 g2
    have hi : i < 40 := by simpa [cellsOf_size, renderTo_len] using g2
    rw [cellsOf_at]
    have e1 : (renderTo s 0).getD i 0 = 0 := by simp [renderTo, List.getElem?_range hi]
    rw [e1]
    have : i % 1 = 0 := by omega
    simp [zero40, madeCells, this]

theorem string40 (w : World) (C : Array Value) (l : List UInt8) :
    (convert 30 9 (.slice (some ⟨w.heap.size + 1, 0, none⟩) 40 40)).run Try.prog ((w.alloc (.cells C 24)).alloc (.cells (cellsOf (renderL l)) 5)) = .ok (.string ⟨(renderL l).toArray⟩) ((w.alloc (.cells C 24)).alloc (.cells (cellsOf (renderL l)) 5)) := by
  have h := run_convert_bytes_back (P := Try.prog) ((w.alloc (.cells C 24)).alloc (.cells (cellsOf (renderL l)) 5)) 30 9 5 ⟨w.heap.size + 1, 0, none⟩ 40 (renderL l) Try.underlying30 Try.underlying5 Try.underlying9 ?_
  · rw [renderL_len] at h
    exact h
  · intro j hj
    rw [show (⟨w.heap.size + 1, 0, none⟩ : Addr).add j = ⟨w.heap.size + 1, j, none⟩ from by unfold Addr.add; split <;> simp_all, World.cell?_alloc_at _ _ _ _ (by simp)]
    rw [Array.getElem?_eq_getElem (by rw [cellsOf_size]; exact hj), cellsOf_at]
    simp [List.getElem?_eq_getElem hj]

set_option maxHeartbeats 400000 in
theorem render_any (l : List UInt8) (w : World) (hl : l.length = 20) : Calls Try.prog 6 #[.agg (cellsOf l)] w fun e w' => e = .returned (.string ⟨(renderL l).toArray⟩) ∧ Below w.heap.size w w' := by
    have hC := cellsOf_size l
    rw [hl] at hC
    have hcell := cellsOf_at l
    generalize cellsOf l = C at *
    have hmk := make40
    go_enter Try.func6, Try.ntmps6
    go_wp2
    clear hmk
    go_loopw [4] (fun i wr => ∃ (k : Nat) (M : Array Value), k ≤ 20 ∧ i = .int .i64 k ∧ M.size = 40 ∧ Hid (M = cellsOf (renderTo l k)) ∧ wr = (w.alloc (.cells C 24)).alloc (.cells M 5)) (fun i _ => 20 - (intOf i).toNat)
    case atStart => exact ⟨0, zero40, by omega, rfl, zero40_size, zero40_render l, rfl⟩
    case round =>
      obtain ⟨k, M, hk, rfl, hM, HM, rfl⟩ := hrel
      by_cases hlt : k < 20
      · have hck := hcell k (by omega)
        have hc := UInt8.toNat_lt (l.getD k 0)
        generalize hcc : l.getD k 0 = c at *
        have HCC : Hid (l.getD k 0 = c) := hcc
        clear hcell hcc
        obtain ⟨v1, hv1⟩ : ∃ v, M[2 * k]? = some v := ⟨_, Array.getElem?_eq_getElem (by omega)⟩
        obtain ⟨v2, hv2⟩ : ∃ v, M[2 * k + 1]? = some v := ⟨_, Array.getElem?_eq_getElem (by omega)⟩
        go_wp2
        go_roundw
        case rel => exact ⟨k + 1, _, by omega, by go_num, by simp [hM], by rw [HM.out]; exact renderTo_step l k hlt c HCC.out (by have : HEX.size = 16 := rfl; omega) (by have : HEX.size = 16 := rfl; omega), rfl⟩
        case measure => simp [intOf]; omega
      · clear hcell
        have HE : Hid (M = cellsOf (renderL l)) := by rw [HM.out, show k = 20 from by omega, renderTo_end]; exact rfl
        clear HM
        have hst := string40 w C l
        rw [← HE.out] at hst
        go_wp2
        go_ret
        exact ⟨rfl, ((Below.refl _ _).alloc (Nat.le_refl _) _).alloc (by simp) _⟩
end Go.Proofs.Qxb6628471a
