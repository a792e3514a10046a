import Derived.Test.Qxb6628993aStrs
import Derived.Laws.MakeOwn
import Derived.Laws.Rows
import Derived.LaidEqlPtr
import Derived.Lib.Builder
namespace Go.Proofs.Qxb6628993a
open Go.RowKit

theorem info38 : (Try.prog.info? 38).map (fun i => (i.zero, i.size, i.bytes)) = some (some (.agg #[.string ⟨#[]⟩, .bool false, .string ⟨#[]⟩, .bool false, .int .i64 0, .int .u64 0, .int .i64 0, .pointer none, .int .i64 0, .int .i64 0, .bool false]), 11, 104) := by kernel_rfl
theorem make_life (n : Nat) (hn : n ≤ 65536) : ∃ M : Array Value, M.size = n * 11 ∧ ∀ w : World, (Instr.makeSlice 32 (.int .i64 (n : Int)) (.int .i64 (n : Int))).run Try.prog w = .ok (.slice (some ⟨w.heap.size, 0, none⟩) n n) (w.alloc (.cells M 38)) := by
  obtain ⟨i, hi, hzz⟩ := Option.map_eq_some_iff.1 info38
  simp only [Prod.mk.injEq] at hzz
  obtain ⟨hz, hs, hb⟩ := hzz
  refine ⟨_, ?_, fun w => run_make (P := Try.prog) w 32 38 i _ Try.underlying32 hi hz .i64 .i64 n n (by omega) (Int.le_refl _) (by rw [hb]; omega) (by omega)⟩
  rw [size_madeCells, hs]; simp

/-- A *Lifecycle at block L whose rules, len of them, bear the IDs f 0, f 1, .. -/
def IsLife (w : World) (L len : Nat) (f : Nat → ByteArray) : Prop :=
  ∃ R, L < w.heap.size ∧ R < w.heap.size ∧ w.heap[L]? = some (.cells #[.slice (some ⟨R, 0, none⟩) len len] 40 (0, 0)) ∧ ∀ j, j < len → w.cell? ⟨R, j * 11, none⟩ = some (.string (f j))
theorem IsLife.below {w w' : World} {L len : Nat} {f : Nat → ByteArray} (h : IsLife w L len f) (hb : Below w.heap.size w w') : IsLife w' L len f := by
  obtain ⟨R, h1, h2, h3, h4⟩ := h
  exact ⟨R, Nat.lt_of_lt_of_le h1 hb.size, Nat.lt_of_lt_of_le h2 hb.size, (hb.block L h1).trans h3, fun j hj => (hb.cell (by exact h2)).trans (h4 j hj)⟩
theorem life_end (w : World) (M : Array Value) (len : Nat) (f : Nat → ByteArray) (h : ∀ j, j < len → M[j * 11]? = some (.string (f j))) :
    IsLife ((w.alloc (.cells M 38)).alloc (.cells #[.slice (some ⟨w.heap.size, 0, none⟩) len len] 40)) (w.heap.size + 1) len f ∧
    Below w.heap.size w ((w.alloc (.cells M 38)).alloc (.cells #[.slice (some ⟨w.heap.size, 0, none⟩) len len] 40)) := by
  refine ⟨⟨w.heap.size, by simp, by simp; omega, ?_, fun j hj => ?_⟩, ((Below.refl _ _).alloc (Nat.le_refl _) _).alloc (by simp) _⟩
  · exact heap_alloc2_new w _ _
  · rw [World.cell?_alloc_past _ _ _ (by simp), World.cell?_alloc_at _ _ _ _ rfl]; exact h j hj
theorem set_step (M : Array Value) (n k : Nat) (f : Nat → ByteArray) (t : ByteArray) (hM : M.size = n * 11) (hk : k < n) (ht : f k = t) (h : ∀ j, j < k → M[j * 11]? = some (.string (f j))) :
    ∀ j, j < k + 1 → (M.setIfInBounds (k * 11) (.string t))[j * 11]? = some (.string (f j)) := by
  intro j hj
  rw [Array.getElem?_setIfInBounds]
  by_cases e : k = j
  · subst e
    rw [if_pos rfl, if_pos (by omega), ht]
  · rw [if_neg (by omega)]
    exact h j (by omega)

set_option maxHeartbeats 400000 in
theorem life_any (a : Option Addr) (len cap : Nat) (f : Nat → ByteArray) (w : World) (h : IsStrs w a len f) (h1 : len ≤ 65536) :
    Calls Try.prog 7 #[.slice a len cap] w fun e w' => ∃ L : Nat, e = .returned (.pointer (some ⟨L, 0, none⟩)) ∧ w.heap.size ≤ L ∧ IsLife w' L len f ∧ Below w.heap.size w w' := by
  have H : Hid (IsStrs w a len f) := h
  clear h
  obtain ⟨M0, hM0, hmk⟩ := make_life len h1
  go_enter Try.func7, Try.ntmps7
  go_wp2
  clear hmk
  go_loopw [4] (fun i wr => ∃ (k : Nat) (M : Array Value), k ≤ len ∧ i = .int .i64 k ∧ M.size = len * 11 ∧ Hid (∀ j, j < k → M[j * 11]? = some (.string (f j))) ∧ wr = w.alloc (.cells M 38)) (fun i _ => len - (intOf i).toNat)
  case atStart => exact ⟨0, M0, by omega, rfl, hM0, fun j hj => absurd hj (by omega), rfl⟩
  case round =>
    obtain ⟨k, M, hk, rfl, hM, HM, rfl⟩ := hrel
    by_cases hlt : k < len
    · obtain ⟨b, off, rfl, hb, hc⟩ := H.out.2.2 (by omega)
      have hck := hc k hlt
      clear hc
      generalize ht : f k = t at *
      have HT : Hid (f k = t) := ht
      clear ht
      obtain ⟨v1, hv1⟩ : ∃ v, M[k * 11]? = some v := ⟨_, Array.getElem?_eq_getElem (by omega)⟩
      go_wp2
      go_roundw
      case rel => exact ⟨k + 1, _, by omega, by go_num, by simp [hM], set_step M len k f t hM hlt HT.out HM.out, rfl⟩
      case measure => simp [intOf]; omega
    · have hE := life_end w M len f (fun j hj => HM.out j (by omega))
      have HE : Hid (_ ∧ _) := hE
      clear hE
      go_wp2
      go_ret
      exact ⟨w.heap.size + 1, rfl, by omega, HE.out.1, HE.out.2⟩

theorem IsLife.cell {w : World} {L len : Nat} {f : Nat → ByteArray} (h : IsLife w L len f) : ∃ R, L < w.heap.size ∧ R < w.heap.size ∧ w.cell? ⟨L, 0, none⟩ = some (.slice (some ⟨R, 0, none⟩) len len) ∧ ∀ j, j < len → w.cell? ⟨R, j * 11, none⟩ = some (.string (f j)) := by
  obtain ⟨R, h1, h2, h3, h4⟩ := h
  exact ⟨R, h1, h2, by rw [cell_of_row w L 0 _ _ _ h3]; rfl, h4⟩
theorem info40 : ∃ j : TypeInfo, Try.prog.info? 40 = some j ∧ j.size ≠ 0 := by
  have h : (Try.prog.info? 40).map (·.size) = some 1 := by kernel_rfl
  obtain ⟨j, hj, hs⟩ := Option.map_eq_some_iff.1 h
  exact ⟨j, hj, by rw [hs]; decide⟩
theorem eql_same (L : Nat) (w : World) : (binOp .eql 25 (.pointer (some ⟨L, 0, none⟩)) (.pointer (some ⟨L, 0, none⟩))).run Try.prog w = .ok (.bool true) w := by
  obtain ⟨j, hj, _⟩ := info40
  exact run_eql_ptr_same (P := Try.prog) w ⟨L, 0, none⟩ Try.underlying25 hj
theorem neq_same (L : Nat) (w : World) : (binOp .neq 25 (.pointer (some ⟨L, 0, none⟩)) (.pointer (some ⟨L, 0, none⟩))).run Try.prog w = .ok (.bool false) w := by
  obtain ⟨j, hj, _⟩ := info40
  exact Go.Lib.run_neq_ptr_same (P := Try.prog) w ⟨L, 0, none⟩ Try.underlying25 hj
theorem eql_other (L L' len len' : Nat) (f f' : Nat → ByteArray) (w : World) (h : IsLife w L len f) (h' : IsLife w L' len' f') (hne : L ≠ L') : (binOp .eql 25 (.pointer (some ⟨L, 0, none⟩)) (.pointer (some ⟨L', 0, none⟩))).run Try.prog w = .ok (.bool false) w := by
  obtain ⟨j, hj, hs⟩ := info40
  obtain ⟨R, _, _, h3, _⟩ := h
  obtain ⟨R', _, _, h3', _⟩ := h'
  exact run_eql_ptr_other (P := Try.prog) w (a := ⟨L, 0, none⟩) (b := ⟨L', 0, none⟩) Try.underlying25 hj hs (fun e => hne (by injection e)) h3 h3'

/-- LifecycleSettings.Rules -/
theorem rules_off (d b : Option Addr) (w : World) : Calls Try.prog 8 #[.agg #[.bool false, .pointer d, .pointer b]] w fun e w' => e = .returned (.pointer none) ∧ Below w.heap.size w w' := by
  go_enter Try.func8, Try.ntmps8
  go_wp2
  go_ret
  exact ⟨rfl, (Below.refl _ _).alloc (Nat.le_refl _) _⟩
theorem rules_dom (L : Nat) (b : Option Addr) (w : World) : Calls Try.prog 8 #[.agg #[.bool true, .pointer (some ⟨L, 0, none⟩), .pointer b]] w fun e w' => e = .returned (.pointer (some ⟨L, 0, none⟩)) ∧ Below w.heap.size w w' := by
  go_enter Try.func8, Try.ntmps8
  go_wp2
  go_ret
  exact ⟨rfl, (Below.refl _ _).alloc (Nat.le_refl _) _⟩
theorem rules_buc (b : Option Addr) (w : World) : Calls Try.prog 8 #[.agg #[.bool true, .pointer none, .pointer b]] w fun e w' => e = .returned (.pointer b) ∧ Below w.heap.size w w' := by
  go_enter Try.func8, Try.ntmps8
  go_wp2
  go_ret
  exact ⟨rfl, (Below.refl _ _).alloc (Nat.le_refl _) _⟩
end Go.Proofs.Qxb6628993a
