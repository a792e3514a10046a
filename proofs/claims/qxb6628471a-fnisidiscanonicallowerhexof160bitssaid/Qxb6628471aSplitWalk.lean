import Derived.Test.Qxb6628471aRender
import Derived.Deep.QuietTactic
import Derived.BigQuiet
import Derived.WalkSpells
namespace Go.Proofs.Qxb6628471a
open Go.RowKit Go.Deep

theorem zz10_yes (s : ByteArray) (k : Int) (w : World) (h : s.size ≤ 1048576) : Calls Try.prog 10 #[.string s, .int .i64 k] w fun e w' => e = .returned (.bool true) ∧ w' = w := by
  have h1 : ¬ (1048576 : Int) < (s.size : Int) := by omega
  go_enter Try.func10, Try.ntmps10
  go_wp2
  go_ret
  exact ⟨rfl, rfl⟩
theorem zz10_no (s : ByteArray) (k : Int) (w : World) (h : 1048576 < s.size) : Calls Try.prog 10 #[.string s, .int .i64 k] w fun e w' => e = .returned (.bool false) ∧ w' = w := by
  have h1 : (1048576 : Int) < (s.size : Int) := by omega
  go_enter Try.func10, Try.ntmps10
  go_wp2
  go_ret
  exact ⟨rfl, rfl⟩
theorem render_ex (l : List UInt8) (w : World) (hl : l.length = 20) : Calls Try.prog 6 #[.agg (cellsOf l)] w fun e w' => ∃ W : ByteArray, e = .returned (.string W) ∧ W.size = 40 ∧ Hid (W.data.toList = renderL l) ∧ Below w.heap.size w w' :=
  (render_any l w hl).mono fun e w' ⟨he, hb⟩ => ⟨_, he, by rw [← size_len]; simp [renderL_len], by show _ = _; simp, hb⟩
theorem hexd_hex (n : Nat) (h : n < 16) : Plain.isHex (hexd n) = true := by
  have : ∀ m : Fin 16, Plain.isHex (hexd m.val) = true := by decide +kernel
  exact this ⟨n, h⟩
theorem render_hex (l : List UInt8) : ∀ c ∈ renderL l, Plain.isHex c = true := by
  intro c hc
  simp only [renderL, List.mem_map, List.mem_range] at hc
  obtain ⟨j, _, rfl⟩ := hc
  unfold digit
  split
  · exact hexd_hex _ (by have := UInt8.toNat_lt (l.getD (j / 2) 0); omega)
  · exact hexd_hex _ (by omega)
theorem render_id (l : List UInt8) : Plain.isID (renderL l) = true :=
  Plain.isID_all _ (renderL_len _) (fun c hc => render_hex _ c (List.mem_of_mem_take hc))

theorem below_drewN {B : Nat} {a w : World} (h : Below B a w) {n : Nat} : Below B a (w.drewN n) := ⟨h.os, h.tape, h.output, h.size, h.block⟩
theorem cut_list (s : ByteArray) (a b : Nat) : (s.extract a b).data.toList = (s.data.toList.take b).drop a := by
  simp [ByteArray.data_extract, Array.toList_extract, List.extract_eq_take_drop, List.drop_take]
theorem split_law (s W : ByteArray) (n : Nat) (hs : s.size = 40) (hW : W.size = 40) (hx : ∀ c ∈ W.data.toList, Plain.isHex c = true) (hn : n ≤ 40) :
    Plain.isID s.data.toList = (Plain.isID (s.extract 0 n ++ W.extract n W.size).data.toList && Plain.isID (W.extract 0 n ++ s.extract n s.size).data.toList) := by
  have ls := size_len s
  have lW := size_len W
  rw [ByteArray.data_append, ByteArray.data_append, Array.toList_append, Array.toList_append, cut_list, cut_list, cut_list, cut_list, ← ls, ← lW, List.take_length, List.take_length]
  generalize s.data.toList = S at *
  generalize W.data.toList = V at *
  have aV1 : (V.drop n).all Plain.isHex = true := List.all_eq_true.2 (fun c hc => hx c (List.mem_of_mem_drop hc))
  have aV2 : (V.take n).all Plain.isHex = true := List.all_eq_true.2 (fun c hc => hx c (List.mem_of_mem_take hc))
  have l1 : (List.drop 0 (S.take n) ++ V.drop n).length = 40 := by simp; omega
  have l2 : (List.drop 0 (V.take n) ++ S.drop n).length = 40 := by simp; omega
  have l0 : S.length = 40 := by omega
  unfold Plain.isID
  rw [l1, l2, l0, List.all_append, List.all_append, aV1, List.drop_zero, List.drop_zero, aV2]
  have : S.all Plain.isHex = ((S.take n).all Plain.isHex && (S.drop n).all Plain.isHex) := by
    rw [← List.all_append, List.take_append_drop]
  rw [this]
  simp

set_option maxHeartbeats 400000 in
theorem split40 (s : ByteArray) (n : Nat) (w : World) (hs : s.size = 40) (hn : n ≤ 40) :
    Calls Try.prog 4 #[.string s, .int .i64 n] w fun e w' => e = .returned (.bool true) ∧ Below w.heap.size w w' := by
  have h1 : ¬ (1048576 : Int) < (s.size : Int) := by omega
  have h2 : ¬ ((n : Int) < 0) := by omega
  have h3 : ¬ (s.size : Int) < (n : Int) := by omega
  have h4 : ((s.size : Int) != 40) = false := by simp [hs]
  have hs1 : s.size ≤ 40 := by omega
  have hs2 : 40 ≤ s.size := by omega
  have HS : Hid (s.size = 40) := hs
  clear hs
  go_enter Try.func4, Try.ntmps4
  go_wp2_with fail
  refine (zz10_yes s n _ (by omega)).mono ?_
  rintro e w0 ⟨rfl, rfl⟩
  go_wp2_with fail
  refine (seed_any s _ (by omega)).mono ?_
  rintro e w1 ⟨rfl, hb1⟩
  go_wp2_with fail
  refine (render_ex _ _ (seedL_len _)).mono ?_
  rintro e w2 ⟨W, rfl, hW, HL, hb2⟩
  have hb : Below w0.heap.size w0 w2 := hb1.trans (hb2.mono hb1.size)
  clear hb1 hb2
  have hW1 : W.size ≤ 40 := by omega
  have hW2 : 40 ≤ W.size := by omega
  have HW : Hid (W.size = 40) := hW
  clear hW
  have HI : Hid (Plain.isID W.data.toList = true) := by rw [HL.out]; exact render_id _
  go_wp2_with fail
  refine (isid_any _ _).mono ?_
  rintro e w3 ⟨rfl, rfl⟩
  rw [HI.out]
  go_wp2_with fail
  go_quiet (fail)
  go_wp2_with fail
  go_quiet (fail)
  go_wp2_with fail
  refine (isid_any _ _).mono ?_
  rintro e w4 ⟨rfl, rfl⟩
  go_wp2_with fail
  refine (isid_any _ _).mono ?_
  rintro e w5 ⟨rfl, rfl⟩
  have HQ : Hid (_ = (_ && _)) := split_law s W n HS.out HW.out (by rw [HL.out]; exact render_hex _) hn
  generalize Plain.isID s.data.toList = b0 at *
  generalize Plain.isID (s.extract 0 n ++ W.extract n W.size).data.toList = b1 at *
  cases b1
  · have e0 : b0 = false := by rw [HQ.out]; rfl
    subst e0
    clear HQ
    go_wp2_with fail
    go_ret
    exact ⟨rfl, below_drewN hb⟩
  · go_wp2_with fail
    refine (isid_any _ _).mono ?_
    rintro e w6 ⟨rfl, rfl⟩
    generalize Plain.isID (W.extract 0 n ++ s.extract n s.size).data.toList = b2 at *
    have e0 : b0 = b2 := by rw [HQ.out]; rfl
    subst e0
    clear HQ
    cases b0
    · go_wp2_with fail
      go_ret
      exact ⟨rfl, below_drewN hb⟩
    · go_wp2_with fail
      go_ret
      exact ⟨rfl, below_drewN hb⟩

set_option maxHeartbeats 400000 in
theorem split_short (s : ByteArray) (n : Int) (w : World) (hs : s.size ≠ 40) (hz : s.size ≤ 1048576) (hn0 : 0 ≤ n) (hn : n ≤ s.size) :
    Calls Try.prog 4 #[.string s, .int .i64 n] w fun e w' => e = .returned (.bool true) ∧ Below w.heap.size w w' := by
  have h1 : ¬ (1048576 : Int) < (s.size : Int) := by omega
  have h4 : ((s.size : Int) != 40) = true := by rw [bne_iff_ne]; omega
  have HS : Hid (Plain.isID s.data.toList = false) := Plain.isID_len _ (by rw [size_len]; exact hs)
  clear hs
  go_enter Try.func4, Try.ntmps4
  go_wp2_with fail
  refine (zz10_yes s n _ (by omega)).mono ?_
  rintro e w0 ⟨rfl, rfl⟩
  go_wp2_with fail
  refine (seed_any s _ (by omega)).mono ?_
  rintro e w1 ⟨rfl, hb1⟩
  go_wp2_with fail
  refine (render_ex _ _ (seedL_len _)).mono ?_
  rintro e w2 ⟨W, rfl, hW, HL, hb2⟩
  have hb : Below w0.heap.size w0 w2 := hb1.trans (hb2.mono hb1.size)
  clear hb1 hb2 hW
  have HI : Hid (Plain.isID W.data.toList = true) := by rw [HL.out]; exact render_id _
  go_wp2_with fail
  refine (isid_any _ _).mono ?_
  rintro e w3 ⟨rfl, rfl⟩
  rw [HI.out]
  go_wp2_with fail
  refine (isid_any _ _).mono ?_
  rintro e w4 ⟨rfl, rfl⟩
  rw [HS.out]
  go_wp2_with fail
  go_ret
  exact ⟨rfl, hb⟩
set_option maxHeartbeats 400000 in
theorem split_out (s : ByteArray) (n : Int) (w : World) (hz : s.size ≤ 1048576) (hn : n < 0 ∨ s.size < n) :
    Calls Try.prog 4 #[.string s, .int .i64 n] w fun e w' => e = .returned (.bool true) ∧ Below w.heap.size w w' := by
  have h1 : ¬ (1048576 : Int) < (s.size : Int) := by omega
  rcases hn with hn | hn
  · go_enter Try.func4, Try.ntmps4
    go_wp2_with fail
    refine (zz10_yes s n _ (by omega)).mono ?_
    rintro e w0 ⟨rfl, rfl⟩
    go_wp2_with fail
    go_ret
    exact ⟨rfl, Below.refl _ _⟩
  · have hn0 : ¬ n < 0 := by omega
    go_enter Try.func4, Try.ntmps4
    go_wp2_with fail
    refine (zz10_yes s n _ (by omega)).mono ?_
    rintro e w0 ⟨rfl, rfl⟩
    go_wp2_with fail
    go_ret
    exact ⟨rfl, Below.refl _ _⟩
set_option maxHeartbeats 400000 in
theorem split_long (s : ByteArray) (n : Int) (w : World) (hz : 1048576 < s.size) :
    Calls Try.prog 4 #[.string s, .int .i64 n] w fun e w' => e = .returned (.bool true) ∧ Below w.heap.size w w' := by
  go_enter Try.func4, Try.ntmps4
  go_wp2_with fail
  refine (zz10_no s n _ (by omega)).mono ?_
  rintro e w0 ⟨rfl, rfl⟩
  go_wp2_with fail
  go_ret
  exact ⟨rfl, Below.refl _ _⟩
theorem split_any (s : ByteArray) (n : Int) (w : World) :
    Calls Try.prog 4 #[.string s, .int .i64 n] w fun e w' => e = .returned (.bool true) ∧ Below w.heap.size w w' := by
  by_cases hz : s.size ≤ 1048576
  · by_cases h0 : 0 ≤ n
    · by_cases h1 : n ≤ s.size
      · by_cases h40 : s.size = 40
        · obtain ⟨m, rfl⟩ := Int.eq_ofNat_of_zero_le h0
          exact split40 s m w h40 (by omega)
        · exact split_short s n w h40 hz h0 h1
      · exact split_out s n w hz (by omega)
    · exact split_out s n w hz (by omega)
  · exact split_long s n w (by omega)
end Go.Proofs.Qxb6628471a
