import Derived.Test.Qxb6629025aInts
import Derived.Laws.AppendOwn
import Derived.Laws.OwnMore
import Derived.OwnWalk
namespace Go.Proofs.Qxb6629025a
open Go.RowKit

theorem info3 : (Try.prog.info? 3).map (fun i => (i.zero, i.size, i.bytes)) = some (some (.int .i64 0), 1, 8) := by kernel_rfl

theorem own_ints {w : World} {base : Nat} {v : Value} {l : List Int} (h : w.ownsRow base 3 1 v l.length (l.map (Value.int .i64))) (hw : ∀ x ∈ l, (Lit.int .i64 x).wf = true) :
    ∃ a cap, v = .slice a l.length cap ∧ IsInts w a l.length l := by
  rcases h.2 with ⟨hv, h0⟩ | ⟨g, cap, cur, hv, hg, hh, _, _, _, _⟩
  · exact ⟨none, 0, by rw [h0]; exact hv, rfl, hw, fun hp => absurd hp (by omega)⟩
  · refine ⟨_, _, hv, rfl, hw, fun hp => ⟨g, 0, rfl, (Array.getElem?_eq_some_iff.1 hh).1, fun i hi => ?_⟩⟩
    rw [Nat.zero_add]
    have h2 := h
    rw [hv] at h2
    rw [h2.cellAt i (by omega)]
    simp [List.getElem?_eq_getElem hi]

/-- the first k elements, without v -/
def woTo (l : List Int) (v : Int) (k : Nat) : List Int := (l.take k).filter (fun x => x != v)
theorem woTo_le (l : List Int) (v : Int) (k : Nat) : (woTo l v k).length ≤ k := by
  unfold woTo
  exact Nat.le_trans (List.length_filter_le _ _) (List.length_take_le _ _)
theorem take_succ_getD (l : List Int) (k : Nat) (h : k < l.length) : l.take (k + 1) = l.take k ++ [l.getD k 0] := by
  rw [List.take_succ_eq_append_getElem h]; simp [List.getElem?_eq_getElem h]
theorem woTo_keep (l : List Int) (v : Int) (k : Nat) (h : k < l.length) (hv : (l.getD k 0 != v) = true) : woTo l v (k + 1) = woTo l v k ++ [l.getD k 0] := by
  unfold woTo; rw [take_succ_getD l k h, List.filter_append]; simp only [List.filter_cons, hv]; simp
theorem woTo_drop (l : List Int) (v : Int) (k : Nat) (h : k < l.length) (hv : (l.getD k 0 != v) = false) : woTo l v (k + 1) = woTo l v k := by
  unfold woTo; rw [take_succ_getD l k h, List.filter_append]; simp only [List.filter_cons, hv]; simp

theorem own_snoc {w w1 : World} {base : Nat} {v v' : Value} {l : List Int} {x : Int} {o : Obj} (hb : base ≤ w.heap.size)
    (hown' : w1.ownsRow base 3 1 v' (l.length + 1) (l.map (Value.int .i64) ++ [.int .i64 x])) (hgrow : (w.alloc o).grownBy w1 v.ownBlock) (hv : w.ownsRow base 3 1 v l.length (l.map (Value.int .i64))) {W : World} (hbel : Below base W w) :
    w1.ownsRow base 3 1 v' (l ++ [x]).length ((l ++ [x]).map (Value.int .i64)) ∧ Below base W w1 := by
  refine ⟨by simpa using hown', (hbel.alloc hb o).grown hgrow (by simp; omega) (fun k hk => ?_)⟩
  rcases hv.2 with ⟨e, _⟩ | ⟨g, cap, cur, e, hg, _⟩
  · rw [e] at hk; simp [Value.ownBlock] at hk
  · rw [e] at hk; simp [Value.ownBlock] at hk; omega

/-- 'out = append(out, y)', out a slice of ints of the call's own, in the walk's own form. -/
theorem append_int {ops : Array Oper} {rest : List Oper} {o : Oper} {a : Act} {Q : Exit → Act → World → Prop} (w : World) (hgd : o.guard = none) (s x : Operand) (ho : o.op = .call { callee := .builtin .append, args := #[s, x], argTypes := #[22, 22] })
    (base : Nat) (v : Value) (l : List Int) (hs : a.eval s = v) (hown : w.ownsRow base 3 1 v l.length (l.map (Value.int .i64))) (y : Int) (hx : a.eval x = .slice (some ⟨w.heap.size, 0, none⟩) 1 1) (hlen : l.length ≤ 100000) (W : World) (hbel : Below base W w) (hB : base ≤ w.heap.size)
    (h : ∀ v' w', w'.ownsRow base 3 1 v' (l ++ [y]).length ((l ++ [y]).map (Value.int .i64)) → Below base W w' → v' ≠ .slice none 0 0 → w.grownBy w' v.ownBlock → wpList Try.prog ops Q rest (a.put o.dst v') w') :
    wpList Try.prog ops Q (o :: rest) a (w.alloc (.cells #[.int .i64 y] 3)) := by
  obtain ⟨i0, hi, hz0, hz1, hz2⟩ := info_parts info3
  refine wpList_append_own _ hgd s x 22 ho base 3 i0 (.int .i64 0) 1 8 Try.underlying22 hi hz0 hz1 hz2 rfl (by decide) v l.length _ hs (hown.alloc _) ⟨w.heap.size, 0, none⟩ 1 1 [.int .i64 y] hx rfl (cell_one_new _ _ _) (ints_oneCell .i64 [y]) (by unfold maxLen; omega) (by omega) (by simp; omega) ?_
  intro v' w1 hown' hgrow hnil
  have R := own_snoc hB hown' hgrow hown hbel
  exact h v' w1 R.1 R.2 (fun e => by have := (hnil.1 e).2; omega) ((World.grownBy_alloc w _ _).trans hgrow)

set_option maxHeartbeats 400000 in
theorem without_any (a : Option Addr) (len cap : Nat) (l : List Int) (v : Int) (w : World) (h : IsInts w a len l) (h1 : len ≤ 65536) :
    Calls Try.prog 15 #[.slice a len cap, .int .i64 v] w fun e w' => ∃ a' cap', e = .returned (.slice a' (l.filter (fun x => x != v)).length cap') ∧ IsInts w' a' (l.filter (fun x => x != v)).length (l.filter (fun x => x != v)) ∧ Below w.heap.size w w' := by
  have H : Hid (IsInts w a len l) := h
  have hlen : l.length = len := h.1
  have hwf := h.2.1
  have HW : Hid (∀ x ∈ l, (Lit.int .i64 x).wf = true) := hwf
  have HL : Hid (l.length = len) := hlen
  clear h hlen hwf
  go_enter Try.func15, Try.ntmps15
  go_wp2
  go_loopw [5, 6] (fun s i wr => ∃ k : Nat, k ≤ len ∧ i = .int .i64 k ∧ Hid (wr.ownsRow w.heap.size 3 1 s (woTo l v k).length ((woTo l v k).map (Value.int .i64))) ∧ Hid (Below w.heap.size w wr)) (fun _ i _ => len - (intOf i).toNat)
  case atStart => exact ⟨0, by omega, rfl, World.ownsRow_nil _ _ _ _, Below.refl _ _⟩
  case round =>
    obtain ⟨k, hk, rfl, hown, hbel⟩ := hrel
    by_cases hlt : k < len
    · obtain ⟨b, off, rfl, hb, hc⟩ := H.out.2.2 (by omega)
      have hck : wr.cell? ⟨b, off + k, none⟩ = some (.int .i64 (l.getD k 0)) := (hbel.out.cell (by exact hb)).trans (hc k hlt)
      clear hc
      cases hne : (l.getD k 0 != v)
      · have HD : Hid (woTo l v (k + 1) = woTo l v k) := woTo_drop l v k (by rw [HL.out]; exact hlt) hne
        generalize l.getD k 0 = t at *
        go_wp2
        go_roundw
        case rel => exact ⟨k + 1, by omega, by go_num, by rw [HD.out]; exact hown, hbel⟩
        case measure => simp [intOf]; omega
      · have HD : Hid (woTo l v (k + 1) = woTo l v k ++ [l.getD k 0]) := woTo_keep l v k (by rw [HL.out]; exact hlt) hne
        generalize l.getD k 0 = t at *
        have hle := woTo_le l v k
        have hsz := hbel.out.size
        go_wp2_with (at_builtin; refine append_int wr rfl (.tmp 19) (.tmp 24) rfl w.heap.size u5 (woTo l v k) rfl hown.out t rfl (by omega) w hbel.out hsz ?_; intro v' w1 R1 R2 _ _)
        go_roundw
        case rel => exact ⟨k + 1, by omega, by go_num, by rw [HD.out]; exact R1, R2⟩
        case measure => simp [intOf]; omega
    · have HE : Hid (woTo l v k = l.filter (fun x => x != v)) := by
        show _ = _
        unfold woTo; rw [List.take_of_length_le (by rw [HL.out]; omega)]
      go_wp2
      rw [HE.out] at hown
      have hfw : ∀ x ∈ l.filter (fun x => x != v), (Lit.int .i64 x).wf = true := fun x hx => HW.out x (List.mem_filter.1 hx).1
      obtain ⟨a', cap', e1, hI⟩ := own_ints hown.out hfw
      go_ret
      exact ⟨a', cap', by rw [← e1]; rfl, hI, hbel.out⟩

/-- v put in at its sorted place -/
def ins (v : Int) : List Int → List Int
  | [] => [v]
  | x :: xs => if v < x then v :: x :: xs else x :: ins v xs
theorem ins_len (v : Int) : ∀ l, (ins v l).length = l.length + 1
  | [] => rfl
  | x :: xs => by
    unfold ins
    split
    · simp
    · simp [ins_len v xs]
theorem ins_mem (v : Int) : ∀ (l : List Int) (y : Int), y ∈ ins v l ↔ y = v ∨ y ∈ l
  | [], y => by simp [ins]
  | x :: xs, y => by
    unfold ins
    split
    · simp
    · simp [ins_mem v xs y]; constructor
      · rintro (h | h | h)
        · exact .inr (.inl h)
        · exact .inl h
        · exact .inr (.inr h)
      · rintro (h | h | h)
        · exact .inr (.inl h)
        · exact .inl h
        · exact .inr (.inr h)
theorem ins_pass (v : Int) (bs : List Int) : ∀ cs : List Int, cs.any (fun x => decide (v < x)) = false → ins v (cs ++ bs) = cs ++ ins v bs
  | [], _ => rfl
  | a :: cs, h => by
    simp only [List.any_cons, Bool.or_eq_false_iff, decide_eq_false_iff_not] at h
    have e : ins v (a :: (cs ++ bs)) = a :: ins v (cs ++ bs) := by
      rw [ins, if_neg h.1]
    show ins v (a :: (cs ++ bs)) = _
    rw [e, ins_pass v bs cs h.2]; rfl
theorem ins_past (v : Int) (bs : List Int) : ∀ cs : List Int, cs.any (fun x => decide (v < x)) = true → ins v (cs ++ bs) = ins v cs ++ bs
  | [], h => by simp at h
  | a :: cs, h => by
    show ins v (a :: (cs ++ bs)) = _
    by_cases ha : v < a
    · rw [ins, ins, if_pos ha, if_pos ha]; rfl
    · rw [ins, ins, if_neg ha, if_neg ha, ins_past v bs cs (by simpa [ha] using h)]; rfl
/-- has v been put in behind k rounds? what has been written? -/
def putTo (l : List Int) (v : Int) (k : Nat) : Bool := (l.take k).any (fun x => decide (v < x))
def insTo (l : List Int) (v : Int) (k : Nat) : List Int := if putTo l v k then ins v (l.take k) else l.take k
theorem insTo_le (l : List Int) (v : Int) (k : Nat) : (insTo l v k).length ≤ k + 1 := by
  have := List.length_take_le k l
  unfold insTo; split
  · rw [ins_len]; omega
  · omega
theorem putTo_succ (l : List Int) (v : Int) (k : Nat) (h : k < l.length) : putTo l v (k + 1) = (putTo l v k || decide (v < l.getD k 0)) := by
  unfold putTo; rw [take_succ_getD l k h, List.any_append]; simp
theorem insTo_put (l : List Int) (v : Int) (k : Nat) (h : k < l.length) (hp : putTo l v k = true) : putTo l v (k + 1) = true ∧ insTo l v (k + 1) = insTo l v k ++ [l.getD k 0] := by
  have h1 : putTo l v (k + 1) = true := by rw [putTo_succ l v k h, hp]; rfl
  refine ⟨h1, ?_⟩
  unfold insTo
  rw [h1, hp, take_succ_getD l k h]
  exact ins_past v _ _ hp
theorem insTo_now (l : List Int) (v : Int) (k : Nat) (h : k < l.length) (hp : putTo l v k = false) (hv : v < l.getD k 0) : putTo l v (k + 1) = true ∧ insTo l v (k + 1) = insTo l v k ++ [v] ++ [l.getD k 0] := by
  have h1 : putTo l v (k + 1) = true := by rw [putTo_succ l v k h, hp]; simp only [Bool.false_or, decide_eq_true_eq]; exact hv
  refine ⟨h1, ?_⟩
  unfold insTo
  rw [h1, hp, take_succ_getD l k h, if_pos rfl, if_neg (by simp), ins_pass v _ _ hp]
  simp only [ins, hv, if_true, List.append_assoc, List.cons_append, List.nil_append]
theorem insTo_not (l : List Int) (v : Int) (k : Nat) (h : k < l.length) (hp : putTo l v k = false) (hv : ¬ v < l.getD k 0) : putTo l v (k + 1) = false ∧ insTo l v (k + 1) = insTo l v k ++ [l.getD k 0] := by
  have h1 : putTo l v (k + 1) = false := by rw [putTo_succ l v k h, hp]; simp only [Bool.false_or, decide_eq_false_iff_not]; exact hv
  refine ⟨h1, ?_⟩
  unfold insTo
  rw [h1, hp, take_succ_getD l k h]; simp
theorem insTo_end_put (l : List Int) (v : Int) (k : Nat) (h : l.length ≤ k) (hp : putTo l v k = true) : insTo l v k = ins v l := by
  unfold insTo; rw [hp, List.take_of_length_le h]; rfl
theorem insTo_end_not (l : List Int) (v : Int) (k : Nat) (h : l.length ≤ k) (hp : putTo l v k = false) : insTo l v k ++ [v] = ins v l := by
  have hp' := hp
  unfold putTo at hp'
  unfold insTo; rw [hp, List.take_of_length_le h]
  rw [List.take_of_length_le h] at hp'
  have := ins_pass v [] l hp'
  rw [List.append_nil] at this
  rw [this]; rfl

set_option maxHeartbeats 800000 in
theorem insert_any (a : Option Addr) (len cap : Nat) (l : List Int) (v : Int) (w : World) (h : IsInts w a len l) (h1 : len ≤ 65536) (hv : (Lit.int .i64 v).wf = true) :
    Calls Try.prog 16 #[.slice a len cap, .int .i64 v] w fun e w' => ∃ a' cap', e = .returned (.slice a' (ins v l).length cap') ∧ IsInts w' a' (ins v l).length (ins v l) ∧ Below w.heap.size w w' := by
  have H : Hid (IsInts w a len l) := h
  have HW : Hid (∀ x ∈ ins v l, (Lit.int .i64 x).wf = true) := fun x hx => by
    rcases (ins_mem v l x).1 hx with e | hx
    · rw [e]; exact hv
    · exact h.2.1 x hx
  have HL : Hid (l.length = len) := h.1
  clear h hv
  obtain ⟨i0, hi, hz0, hz1, hz2⟩ := info_parts info3
  go_enter Try.func16, Try.ntmps16
  go_wp2_with (at_make; refine wpList_make_own _ rfl _ _ 22 rfl w.heap.size 3 i0 (.int .i64 0) 1 Try.underlying22 hi hz0 hz1 .i64 .i64 _ (len + 1) rfl rfl (by omega) (by rw [hz2]; omega) (by unfold maxLen; omega) (Nat.le_refl _) ?_; intro w1 hown1 hgrow1)
  have hb1 : Below w.heap.size w w1 := (Below.refl _ _).grown hgrow1 (Nat.le_refl _) (fun k hk => by cases hk)
  have HO : Hid (w1.ownsRow w.heap.size 3 1 (.slice (some ⟨w.heap.size, 0, none⟩) 0 (len + 1)) 0 []) := hown1
  have HB : Hid (Below w.heap.size w w1) := hb1
  clear hown1 hgrow1 hb1
  go_loopw [5, 6, 7] (fun s p i wr => ∃ k : Nat, k ≤ len ∧ i = .int .i64 k ∧ p = .bool (putTo l v k) ∧ Hid (wr.ownsRow w.heap.size 3 1 s (insTo l v k).length ((insTo l v k).map (Value.int .i64))) ∧ Hid (Below w.heap.size w wr)) (fun _ _ i _ => len - (intOf i).toNat)
  case atStart => exact ⟨0, by omega, rfl, rfl, HO.out, HB.out⟩
  case round =>
    clear HO HB
    obtain ⟨k, hk, rfl, rfl, hown, hbel⟩ := hrel
    have hle := insTo_le l v k
    have hsz := hbel.out.size
    by_cases hlt : k < len
    · obtain ⟨b, off, rfl, hb, hc⟩ := H.out.2.2 (by omega)
      have hck : wr.cell? ⟨b, off + k, none⟩ = some (.int .i64 (l.getD k 0)) := (hbel.out.cell (by exact hb)).trans (hc k hlt)
      cases hp : putTo l v k
      · by_cases hlv : v < l.getD k 0
        · have HD : Hid (_ ∧ _) := insTo_now l v k (by rw [HL.out]; exact hlt) hp hlv
          have hck2 : ∀ w1, Below w.heap.size w w1 → w1.cell? ⟨b, off + k, none⟩ = some (.int .i64 (l.getD k 0)) := fun w1 h => (h.cell (by exact hb)).trans (hc k hlt)
          have HC2 : Hid (∀ w1, Below w.heap.size w w1 → w1.cell? ⟨b, off + k, none⟩ = some (.int .i64 (l.getD k 0))) := hck2
          clear hc hck2 hp
          generalize l.getD k 0 = t at *
          go_wp2_with (first | (at_builtin; refine append_int wr rfl (.tmp 28) (.tmp 30) rfl w.heap.size u5 (insTo l v k) rfl hown.out v rfl (by omega) w hbel.out hsz ?_; intro v1 w2 R1 R2 _ _; have HR1 : Hid (w2.ownsRow w.heap.size 3 1 v1 (insTo l v k ++ [v]).length ((insTo l v k ++ [v]).map (Value.int .i64))) := R1; have HR2 : Hid (Below w.heap.size w w2) := R2; have hck3 := HC2.out w2 R2; have hsz3 := R2.size; clear R1 R2 hck) | (at_builtin; refine append_int w2 rfl (.tmp 32) (.tmp 37) rfl w.heap.size v1 (insTo l v k ++ [v]) rfl HR1.out t rfl (by simp; omega) w HR2.out hsz3 ?_; intro v2 w3 R3 R4 _ _))
          go_roundw
          case rel => exact ⟨k + 1, by omega, by go_num, by rw [HD.out.1], by rw [HD.out.2]; exact R3, R4⟩
          case measure => simp [intOf]; omega
        · have HD : Hid (_ ∧ _) := insTo_not l v k (by rw [HL.out]; exact hlt) hp hlv
          clear hc hp
          generalize l.getD k 0 = t at *
          go_wp2_with (at_builtin; refine append_int wr rfl (.tmp 32) (.tmp 37) rfl w.heap.size u5 (insTo l v k) rfl hown.out t rfl (by omega) w hbel.out hsz ?_; intro v1 w2 R1 R2 _ _)
          go_roundw
          case rel => exact ⟨k + 1, by omega, by go_num, by rw [HD.out.1], by rw [HD.out.2]; exact R1, R2⟩
          case measure => simp [intOf]; omega
      · have HD : Hid (_ ∧ _) := insTo_put l v k (by rw [HL.out]; exact hlt) hp
        clear hc hp
        generalize l.getD k 0 = t at *
        go_wp2_with (at_builtin; refine append_int wr rfl (.tmp 32) (.tmp 37) rfl w.heap.size u5 (insTo l v k) rfl hown.out t rfl (by omega) w hbel.out hsz ?_; intro v1 w2 R1 R2 _ _)
        go_roundw
        case rel => exact ⟨k + 1, by omega, by go_num, by rw [HD.out.1], by rw [HD.out.2]; exact R1, R2⟩
        case measure => simp [intOf]; omega
    · cases hp : putTo l v k
      · have HE : Hid (insTo l v k ++ [v] = ins v l) := insTo_end_not l v k (by rw [HL.out]; omega) hp
        clear hp
        go_wp2_with (at_builtin; refine append_int wr rfl (.tmp 41) (.tmp 43) rfl w.heap.size u5 (insTo l v k) rfl hown.out v rfl (by omega) w hbel.out hsz ?_; intro v1 w2 R1 R2 _ _)
        rw [HE.out] at R1
        obtain ⟨a', cap', e1, hI⟩ := own_ints R1 HW.out
        go_ret
        exact ⟨a', cap', by rw [← e1]; rfl, hI, R2⟩
      · have HE : Hid (insTo l v k = ins v l) := insTo_end_put l v k (by rw [HL.out]; omega) hp
        clear hp
        go_wp2
        rw [HE.out] at hown
        obtain ⟨a', cap', e1, hI⟩ := own_ints hown.out HW.out
        go_ret
        exact ⟨a', cap', by rw [← e1]; rfl, hI, hbel.out⟩
end Go.Proofs.Qxb6629025a
