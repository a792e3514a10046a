/- The plain functions of this seat: no Go, no program. -/
namespace Go.Proofs.Qxb6628471a.Plain

def isHex (c : UInt8) : Bool := (decide (48 ≤ c.toNat) && decide (c.toNat ≤ 57)) || (decide (97 ≤ c.toNat) && decide (c.toNat ≤ 102))
def isID (s : List UInt8) : Bool := decide (s.length = 40) && s.all isHex

theorem isID_len (s : List UInt8) (h : s.length ≠ 40) : isID s = false := by simp [isID, h]
theorem isID_all (s : List UInt8) (h : s.length = 40) (ha : ∀ c ∈ s.take 40, isHex c = true) : isID s = true := by
  have e : s.take 40 = s := List.take_of_length_le (by omega)
  rw [e] at ha
  simp only [isID, h, decide_true, Bool.true_and, List.all_eq_true]
  exact ha
theorem isID_not (s : List UInt8) (c : UInt8) (hc : c ∈ s) (hn : isHex c = false) : isID s = false := by
  have : s.all isHex = false := by
    rw [List.all_eq_false]; exact ⟨c, hc, by simp [hn]⟩
  simp [isID, this]
theorem isHex_lo (c : UInt8) (h1 : (48 : Int) ≤ (c.toNat : Int)) (h2 : (c.toNat : Int) ≤ 57) : isHex c = true := by
  have : 48 ≤ c.toNat := by omega
  have : c.toNat ≤ 57 := by omega
  simp [isHex, *]
theorem isHex_hi (c : UInt8) (h1 : (97 : Int) ≤ (c.toNat : Int)) (h2 : (c.toNat : Int) ≤ 102) : isHex c = true := by
  have : 97 ≤ c.toNat := by omega
  have : c.toNat ≤ 102 := by omega
  simp [isHex, *]
theorem isHex_no (c : UInt8) (h1 : (c.toNat : Int) < 48 ∨ 57 < (c.toNat : Int)) (h2 : (c.toNat : Int) < 97 ∨ 102 < (c.toNat : Int)) : isHex c = false := by
  unfold isHex
  rw [Bool.or_eq_false_iff, Bool.and_eq_false_iff, Bool.and_eq_false_iff]
  simp only [decide_eq_false_iff_not]
  omega
end Go.Proofs.Qxb6628471a.Plain
