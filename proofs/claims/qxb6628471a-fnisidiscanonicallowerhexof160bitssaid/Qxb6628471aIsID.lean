import Derived.Test.Qxb6628471aRows
import Derived.Test.Qxb6628471aPlain
import Derived.WalkKit
namespace Go.Proofs.Qxb6628471a
open Go.RowKit

theorem mem_at (s : ByteArray) (k : Nat) (h : k < s.size) : s[k] ∈ s.data.toList := by
  have : s.data[k]'h ∈ s.data := Array.getElem_mem h
  exact Array.mem_toList_iff.2 this
theorem take_snoc (s : ByteArray) (k : Nat) (h : k < s.size) : s.data.toList.take (k + 1) = s.data.toList.take k ++ [s[k]] := by
  rw [List.take_succ_eq_append_getElem (by simpa using h)]; rfl
theorem take_hex (s : ByteArray) (k : Nat) (h : k < s.size) (hp : ∀ c ∈ s.data.toList.take k, Plain.isHex c = true) (hc : Plain.isHex s[k] = true) :
    ∀ c ∈ s.data.toList.take (k + 1), Plain.isHex c = true := by
  intro c hm
  rw [take_snoc s k h, List.mem_append] at hm
  rcases hm with hm | hm
  · exact hp c hm
  · simp at hm; rw [hm]; exact hc
theorem ret_bool {a b : Bool} (h : a = b) : Ending.returned (.bool a) = .returned (.bool b) := by rw [h]
theorem size_len (s : ByteArray) : s.data.toList.length = s.size := by simp

set_option maxHeartbeats 400000 in
theorem isid_any (s : ByteArray) (w : World) : Calls Try.prog 9 #[.string s] w fun e w' => e = .returned (.bool (Plain.isID s.data.toList)) ∧ w' = w := by
  by_cases h40 : s.size = 40
  · have hle : ((s.size : Int) != 40) = false := by simp [h40]
    have hs1 : 40 ≤ s.size := by omega
    have hs2 : s.size ≤ 40 := by omega
    have H40 : Hid (s.size = 40) := h40
    clear h40
    go_enter Try.func9, Try.ntmps9
    go_wp2
    go_loop [10] (fun i => ∃ k : Nat, k ≤ 40 ∧ i = .int .i64 k ∧ ∀ c ∈ s.data.toList.take k, Plain.isHex c = true) (fun i => 40 - (intOf i).toNat)
    case atStart => exact ⟨0, by omega, rfl, by simp⟩
    case round =>
      obtain ⟨k, hk, rfl, hp⟩ := hrel
      have HP : Hid (∀ c ∈ s.data.toList.take k, Plain.isHex c = true) := hp
      clear hp
      go_wp2
      all_goals first
        | (go_ret; exact ⟨ret_bool (Plain.isID_all _ (by rw [size_len]; exact H40.out) (fun c hc => HP.out c (by rw [show k = 40 from by omega]; exact hc))).symm, rfl⟩)
        | (go_ret; exact ⟨ret_bool (Plain.isID_not _ s[k] (mem_at s k (by assumption)) (Plain.isHex_no _ (by omega) (by omega))).symm, rfl⟩)
        | (go_round
           case rel => exact ⟨k + 1, by omega, by go_num, take_hex s k (by assumption) HP.out (by first | exact Plain.isHex_lo _ (by omega) (by omega) | exact Plain.isHex_hi _ (by omega) (by omega))⟩
           case measure => simp [intOf]; omega)
  · have hle : ((s.size : Int) != 40) = true := by rw [bne_iff_ne]; omega
    have H40 : Hid (¬ s.size = 40) := h40
    clear h40
    go_enter Try.func9, Try.ntmps9
    go_wp2
    go_ret
    exact ⟨ret_bool (Plain.isID_len _ (by rw [size_len]; exact H40.out)).symm, rfl⟩
end Go.Proofs.Qxb6628471a
