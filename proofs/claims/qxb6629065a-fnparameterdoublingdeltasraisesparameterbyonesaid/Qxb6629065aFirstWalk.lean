import Derived.Test.Qxb6629065aMarg
import Derived.Laws.CopyOwn
import Derived.Deep.OwnRows
namespace Go.Proofs.Qxb6629065a
open Go.RowKit Go.Deep

def SomeBool (e : Ending) : Prop := ∃ r : Bool, e = .returned (.bool r)
theorem zz5_any (a : Option Addr) (len cap : Nat) (w : World) (h0 : len ≤ maxLen) : Calls Try.prog 5 #[.slice a len cap] w fun e w' => SomeBool e ∧ w' = w := by
  unfold maxLen at h0
  go_enter Try.func5, Try.ntmps5
  go_wp2
  all_goals (go_ret; first | exact ⟨⟨false, rfl⟩, rfl⟩ | exact ⟨⟨true, rfl⟩, rfl⟩)
theorem zz8_any (a : Option Addr) (len cap : Nat) (w : World) (h0 : len ≤ maxLen) : Calls Try.prog 8 #[.slice a len cap] w fun e w' => SomeBool e ∧ w' = w := by
  unfold maxLen at h0
  go_enter Try.func8, Try.ntmps8
  go_wp2
  all_goals (go_ret; first | exact ⟨⟨false, rfl⟩, rfl⟩ | exact ⟨⟨true, rfl⟩, rfl⟩)
theorem IsU.below {w w' : World} {a : Option Addr} {len : Nat} {z : Nat → Int} (h : IsU w a len z) (hb : Below w.heap.size w w') : IsU w' a len z :=
  ⟨h.1, fun hp => by
    obtain ⟨b, off, ha, hl, hc⟩ := h.2 hp
    exact ⟨b, off, ha, Nat.lt_of_lt_of_le hl hb.size, fun i hi => (hb.cell (by exact hl)).trans (hc i hi)⟩⟩
theorem make_u (n : Nat) (hn : n ≤ 262144) (w : World) : (Instr.makeSlice 22 (.int .i64 (n : Int)) (.int .i64 (n : Int))).run Try.prog w = .ok (.slice (some ⟨w.heap.size, 0, none⟩) n n) (w.alloc (.cells (madeCells #[.int .u32 0] n) 25)) :=
  run_make_row' (P := Try.prog) 22 25 (.int .u32 0) 4 Try.underlying22 (by kernel_rfl) rfl .i64 .i64 n (by omega) (by omega) w
theorem info25 : (Try.prog.info? 25).map (·.size) = some 1 := by kernel_rfl
/-- the cells of z -/
def cellsU (z : Nat → Int) (n : Nat) : List Value := (List.range n).map (fun i => .int .u32 (z i))
theorem cellsU_at (z : Nat → Int) (n i : Nat) (h : i < n) : (cellsU z n)[i]? = some (.int .u32 (z i)) := by
  unfold cellsU; rw [List.getElem?_map, List.getElem?_range h]; rfl
/-- 'copy(zzc, values)' into the row that was made last -/
theorem copy_law {ops : Array Oper} {rest : List Oper} {o : Oper} {a : Act} {Q : Exit → Act → World → Prop} (w : World) (a0 : Option Addr) (len cap : Nat) (z : Nat → Int) (H : IsU w a0 len z)
    (hgd : o.guard = none) (d s : Operand) (ho : o.op = .call { callee := .builtin .copy, args := #[d, s], argTypes := #[22, 22] }) (hd : a.eval d = .slice (some ⟨w.heap.size, 0, none⟩) len len) (hs : a.eval s = .slice a0 len cap)
    (h : ∀ w', IsU w' (some ⟨w.heap.size, 0, none⟩) len z → Below w.heap.size w w' → wpList Try.prog ops Q rest (a.put o.dst (goInt len)) w') :
    wpList Try.prog ops Q (o :: rest) a (w.alloc (.cells (madeCells #[.int .u32 0] len) 25)) := by
  have hl : (cellsU z len).length = len := by simp [cellsU]
  refine wpList_copy_splice hgd d s 22 22 ho 25 Try.underlying22 info25 _ _ len len len cap hd hs w.heap.size 0 (madeCells #[.int .u32 0] len).toList 25 (by rw [Array.toArray_toList]; exact heap_alloc_new w _) (cellsU z len) (by rw [hl]; exact (Nat.min_self len).symm)
    (fun hp => ⟨rfl, ?_⟩) (by rw [hl, Array.length_toList, size_madeCells]; omega) (fun v hv => ?_) w.heap.size w ((Below.refl _ _).alloc (Nat.le_refl _) _) (Nat.le_refl _) ?_
  · rw [hl] at hp
    obtain ⟨b, off, ha, hb, hc⟩ := H.2 hp
    refine ⟨⟨b, off, none⟩, ha, fun j v hv => ?_⟩
    have hj : j < len := by
      have := (List.getElem?_eq_some_iff.1 hv).1
      omega
    rw [cellsU_at z len j hj] at hv
    rw [show (⟨b, off, none⟩ : Addr).add j = ⟨b, off + j, none⟩ from by unfold Addr.add; split <;> simp_all, World.cell?_alloc_past _ _ _ hb, hc j hj]
    exact hv
  · simp [cellsU] at hv
    obtain ⟨i, _, rfl⟩ := hv
    rfl
  · intro w' hg hb
    have e : splice (madeCells #[.int .u32 0] len).toList 0 (cellsU z len) = cellsU z len := by
      have h2 : ((madeCells #[.int .u32 0] len).toList.drop (0 + (cellsU z len).length)) = [] := by
        rw [List.drop_eq_nil_iff, Array.length_toList, size_madeCells, hl]; omega
      unfold splice
      rw [h2]; simp
    have hg' := hg.out
    rw [e] at hg'
    rw [hl]
    refine h w' ⟨H.1, fun hp => ⟨w.heap.size, 0, rfl, (Array.getElem?_eq_some_iff.1 hg').1, fun i hi => ?_⟩⟩ hb
    rw [Nat.zero_add, cell_of_row w' w.heap.size i _ _ _ hg']
    simp [cellsU_at z len i hi]

set_option maxHeartbeats 800000 in
theorem first_any (a : Option Addr) (len cap : Nat) (z : Nat → Int) (w : World) (h : IsU w a len z) (hl : len ≤ maxLen) :
    Calls Try.prog 3 #[.slice a len cap] w fun e w' => e = .returned (.bool true) ∧ Below w.heap.size w w' := by
  have H : Hid (IsU w a len z) := h
  have HZ : Hid (Calls Try.prog 5 #[.slice a len cap] w fun e w' => SomeBool e ∧ w' = w) := zz5_any a len cap w hl
  unfold maxLen at hl
  clear h
  have hq := fun w => run_neq_slice_nil_any (P := Try.prog) w 22 25 a len cap 0 0 Try.underlying22
  go_enter Try.func3, Try.ntmps3
  go_wp2_with fail
  refine HZ.out.mono ?_
  rintro e w0 ⟨⟨r, rfl⟩, rfl⟩
  cases r
  · go_wp2_with fail
    go_ret
    exact ⟨rfl, Below.refl _ _⟩
  by_cases hz : (262144 : Int) < (len : Int)
  · go_wp2_with fail
    go_ret
    exact ⟨rfl, Below.refl _ _⟩
  have hmk := make_u len (by omega)
  clear HZ
  cases a with
  | none =>
    go_wp2_with fail
    refine (param_any none len cap z _ H.out (by omega)).mono ?_
    rintro e w1 ⟨p, rfl, hp, hb1⟩
    have HP : Hid (IsFirst (fun k => M z k len) (len - 1) p) := hp
    have HB1 : Hid (Below w0.heap.size w0 w1) := hb1
    clear hp hb1
    go_wp2_with fail
    refine (marg_any none len cap z _ (H.out.below HB1.out) (by omega)).mono ?_
    rintro e w2 ⟨q, rfl, hq2, hb2⟩
    have e := first_unique hq2 HP.out
    subst e
    have HB2 : Hid (Below w0.heap.size w0 w2) := HB1.out.trans (hb2.mono HB1.out.size)
    clear hq2 hb2
    go_wp2_with fail
    go_ret
    exact ⟨by simp, HB2.out⟩
  | some x =>
    go_wp2_with (refine copy_law w0 (some x) len cap z H.out rfl (.tmp 16) (.tmp 17) rfl rfl rfl ?_; intro w1 hI hb1; have HI : Hid (IsU w1 (some ⟨w0.heap.size, 0, none⟩) len z) := hI; have HB : Hid (Below w0.heap.size w0 w1) := hb1; clear hI hb1 hmk hq)
    refine (param_any _ len len z _ HI.out (by omega)).mono ?_
    rintro e w2 ⟨p, rfl, hp, hb1⟩
    have HP : Hid (IsFirst (fun k => M z k len) (len - 1) p) := hp
    have HB1 : Hid (Below w1.heap.size w1 w2) := hb1
    clear hp hb1
    go_wp2_with fail
    refine (marg_any _ len len z _ (HI.out.below HB1.out) (by omega)).mono ?_
    rintro e w3 ⟨q, rfl, hq2, hb2⟩
    have e := first_unique hq2 HP.out
    subst e
    have y1 := HB.out.trans (HB1.out.mono HB.out.size)
    have HB2 : Hid (Below w0.heap.size w0 w3) := y1.trans (hb2.mono y1.size)
    clear hq2 hb2 y1
    go_wp2_with fail
    go_ret
    exact ⟨by simp, HB2.out⟩
end Go.Proofs.Qxb6629065a
