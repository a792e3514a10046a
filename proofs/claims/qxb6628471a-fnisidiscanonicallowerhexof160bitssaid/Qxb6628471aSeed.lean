import Derived.Test.Qxb6628471aIsID
import Derived.Laws.ResultCell
import Derived.Deep.WholeRow
namespace Go.Proofs.Qxb6628471a
open Go.RowKit

def B (c : UInt8) : Value := .int .u8 (c.toNat : Int)
def cellsOf (l : List UInt8) : Array Value := (l.map B).toArray
theorem cellsOf_size (l : List UInt8) : (cellsOf l).size = l.length := by simp [cellsOf]
theorem cellsOf_one (l : List UInt8) : (cellsOf l).all (·.oneCell') = true := by
  rw [Array.all_eq_true_iff_forall_mem]
  intro v hv
  simp [cellsOf, B] at hv
  obtain ⟨a, _, rfl⟩ := hv
  rfl
/-- the first k bytes of s, then noughts up to twenty -/
def seedTo (s : List UInt8) (k : Nat) : List UInt8 := (List.range 20).map (fun i => if i < k then s.getD i 0 else 0)
def seedL (s : List UInt8) : List UInt8 := (List.range 20).map (fun i => s.getD i 0)
theorem seedTo_len (s : List UInt8) (k : Nat) : (seedTo s k).length = 20 := by simp [seedTo]
theorem seedL_len (s : List UInt8) : (seedL s).length = 20 := by simp [seedL]
theorem seedTo_end (s : List UInt8) (k : Nat) (h : k = 20 ∨ s.length ≤ k) : seedTo s k = seedL s := by
  unfold seedTo seedL
  apply List.map_congr_left
  intro i hi
  have := List.mem_range.1 hi
  by_cases hk : i < k
  · rw [if_pos hk]
  · rw [if_neg hk]
    rcases h with h | h
    · omega
    · rw [List.getD_eq_getElem?_getD, List.getElem?_eq_none (by omega)]; rfl
theorem seedTo_step (s : ByteArray) (k : Nat) (h : k < s.size) (_hk : k < 20) :
    (cellsOf (seedTo s.data.toList k)).setIfInBounds k (.int .u8 (s[k].toNat : Int)) = cellsOf (seedTo s.data.toList (k + 1)) := by
  apply Array.ext
  · simp [cellsOf_size, seedTo_len]
  · intro i h1 h2
    have hi : i < 20 := by simpa [cellsOf_size, seedTo_len] using h2
    rw [Array.getElem_setIfInBounds (by simpa [cellsOf_size, seedTo_len] using hi)]
    by_cases e : k = i
    · subst e
      rw [if_pos rfl]
      simp [cellsOf, seedTo, B, Array.getElem?_eq_getElem (show k < s.data.size from h)]
      rfl
    · rw [if_neg e]
      have : (i < k + 1) ↔ i < k := by omega
      simp [cellsOf, seedTo, this]
def zero20 : Array Value := #[.int .u8 0, .int .u8 0, .int .u8 0, .int .u8 0, .int .u8 0, .int .u8 0, .int .u8 0, .int .u8 0, .int .u8 0, .int .u8 0, .int .u8 0, .int .u8 0, .int .u8 0, .int .u8 0, .int .u8 0, .int .u8 0, .int .u8 0, .int .u8 0, .int .u8 0, .int .u8 0]
theorem zero20_seed (s : List UInt8) : zero20 = cellsOf (seedTo s 0) := by simp [zero20, cellsOf, seedTo, List.range, List.range.loop, B]
theorem info24 : (Try.prog.info? 24).map (·.size) = some 20 := by kernel_rfl

theorem seed_res (w : World) (C : Array Value) (tmps : Array Value) (hC : C.size = 20) (hp : tmps.getD 2 undef = .pointer (some ⟨w.heap.size, 0, none⟩)) :
    (results Try.f7 tmps).run Try.prog (((w.alloc (.cells zero20 24)).alloc (.cells C 24)).setRow w.heap.size C) = .ok (.agg C) (((w.alloc (.cells zero20 24)).alloc (.cells C 24)).setRow w.heap.size C) :=
  results_cell_row Try.results7 tmps _ w.heap.size 24 C (0, 0) (.array 20 5) hp (setRow_heap _ _ _ _ _ _ (heap_alloc2_old w _ _)) Try.underlying24 rfl (by rw [hC]; exact info24)
theorem below_setRow {B g : Nat} {w0 w : World} (hb : Below B w0 w) (hBg : B ≤ g) (cs : Array Value) : Below B w0 (w.setRow g cs) :=
  hb.trans ⟨rfl, rfl, rfl, by simp [World.setRow], fun k hk => setRow_other w g k cs (by omega)⟩
theorem seed_below (w : World) (C : Array Value) : Below w.heap.size w (((w.alloc (.cells zero20 24)).alloc (.cells C 24)).setRow w.heap.size C) :=
  below_setRow (((Below.refl _ _).alloc (Nat.le_refl _) _).alloc (by simp) _) (Nat.le_refl _) _
set_option maxHeartbeats 400000 in
theorem seed_any (s : ByteArray) (w : World) (hs : s.size ≤ 1048576) : Calls Try.prog 7 #[.string s] w fun e w' => e = .returned (.agg (cellsOf (seedL s.data.toList))) ∧ Below w.heap.size w w' := by
    go_enter Try.func7, Try.ntmps7
    go_wp2
    go_loopw [4] (fun i wr => ∃ (k : Nat) (C : Array Value), k ≤ 20 ∧ k ≤ s.size ∧ i = .int .i64 k ∧ C.size = 20 ∧ Hid (C = cellsOf (seedTo s.data.toList k)) ∧ wr = (w.alloc (.cells zero20 24)).alloc (.cells C 24)) (fun i _ => 20 - (intOf i).toNat)
    case atStart => exact ⟨0, zero20, by omega, by omega, rfl, rfl, zero20_seed _, rfl⟩
    case round =>
      obtain ⟨k, C, hk, hks, rfl, hC, HC, rfl⟩ := hrel
      by_cases hlt : k < 20
      · by_cases hls : k < s.size
        · go_wp2
          go_roundw
          case rel => exact ⟨k + 1, _, by omega, by omega, by go_num, by simp [hC], by rw [HC.out]; exact seedTo_step s k hls hlt, rfl⟩
          case measure => simp [intOf]; omega
        · have HE : Hid (C = cellsOf (seedL s.data.toList)) := by rw [← seedTo_end s.data.toList k (.inr (by rw [size_len]; omega))]; exact HC.out
          clear HC
          go_wp2_with (first | (refine wpList_load_row rfl 24 (.tmp 3) rfl (w.heap.size + 1) rfl 24 C (0, 0) (.array 20 5) (heap_alloc2_new w _ _) Try.underlying24 rfl (by rw [hC]; exact info24) ?_) | (refine wpList_store_row rfl 24 (.tmp 2) (.tmp 20) rfl (w.heap.size) C rfl rfl 24 zero20 (heap_alloc2_old w _ _) (by rw [hC]; exact info24) (by rw [hC]; rfl) (by rw [HE.out]; exact cellsOf_one _) ?_))
          exact bodyPost_ret (seed_res w C _ hC rfl) rfl ⟨by rw [HE.out], seed_below w C⟩
      · have HE : Hid (C = cellsOf (seedL s.data.toList)) := by rw [← seedTo_end s.data.toList k (.inl (by omega))]; exact HC.out
        clear HC
        go_wp2_with (first | (refine wpList_load_row rfl 24 (.tmp 3) rfl (w.heap.size + 1) rfl 24 C (0, 0) (.array 20 5) (heap_alloc2_new w _ _) Try.underlying24 rfl (by rw [hC]; exact info24) ?_) | (refine wpList_store_row rfl 24 (.tmp 2) (.tmp 20) rfl (w.heap.size) C rfl rfl 24 zero20 (heap_alloc2_old w _ _) (by rw [hC]; exact info24) (by rw [hC]; rfl) (by rw [HE.out]; exact cellsOf_one _) ?_))
        exact bodyPost_ret (seed_res w C _ hC rfl) rfl ⟨by rw [HE.out], seed_below w C⟩
end Go.Proofs.Qxb6628471a
