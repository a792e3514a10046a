import Derived.Test.Qxb6629025aRows
import Derived.WalkKit
import Derived.WalkSpells
import Derived.Deep.QuietTactic
import Derived.BigQuiet
namespace Go.Proofs.Qxb6629025a
open Go.RowKit

def SomeBool (e : Ending) : Prop := ∃ r : Bool, e = .returned (.bool r)
theorem below_drewN {B : Nat} {a w : World} (h : Below B a w) {n : Nat} : Below B a (w.drewN n) := ⟨h.os, h.tape, h.output, h.size, h.block⟩

/-- A slice of ints: its elements are l. -/
def IsInts (w : World) (a : Option Addr) (len : Nat) (l : List Int) : Prop :=
  l.length = len ∧ (∀ x ∈ l, (Lit.int .i64 x).wf = true) ∧ (0 < len → ∃ b off, a = some ⟨b, off, none⟩ ∧ b < w.heap.size ∧ ∀ i, i < len → w.cell? ⟨b, off + i, none⟩ = some (.int .i64 (l.getD i 0)))
theorem IsInts.below {w w' : World} {a : Option Addr} {len : Nat} {l : List Int} (h : IsInts w a len l) (hb : Below w.heap.size w w') : IsInts w' a len l :=
  ⟨h.1, h.2.1, fun hp => by
    obtain ⟨b, off, ha, hl, hc⟩ := h.2.2 hp
    exact ⟨b, off, ha, Nat.lt_of_lt_of_le hl hb.size, fun i hi => (hb.cell (by exact hl)).trans (hc i hi)⟩⟩

/-- zzSameInts at two equal lists -/
theorem same_any (a a' : Option Addr) (len cap cap' : Nat) (l : List Int) (w : World) (h : IsInts w a len l) (h' : IsInts w a' len l) (h1 : len ≤ 65536) :
    Calls Try.prog 12 #[.slice a len cap, .slice a' len cap'] w fun e w' => e = .returned (.bool true) ∧ Below w.heap.size w w' := by
  have H : Hid (IsInts w a len l) := h
  have H' : Hid (IsInts w a' len l) := h'
  clear h h'
  have hne : ((len : Int) != (len : Int)) = false := by simp
  go_enter Try.func12, Try.ntmps12
  go_wp2
  go_loopw [5] (fun i wr => ∃ (k n : Nat), k ≤ len ∧ i = .int .i64 k ∧ wr = w.drewN n) (fun i _ => len - (intOf i).toNat)
  case atStart => exact ⟨0, 0, by omega, rfl, rfl⟩
  case round =>
    obtain ⟨k, n, hk, rfl, rfl⟩ := hrel
    by_cases hlt : k < len
    · obtain ⟨b, off, rfl, hb, hc⟩ := H.out.2.2 (by omega)
      obtain ⟨b', off', rfl, hb', hc'⟩ := H'.out.2.2 (by omega)
      have hck := hc k hlt
      have hck' := hc' k hlt
      clear hc hc'
      generalize l.getD k 0 = t at *
      have hnt : (t != t) = false := by simp
      go_wp2
      go_quiet (fail)
      go_wp2
      go_roundw
      case rel => exact ⟨k + 1, n + nq, by omega, by go_num, rfl⟩
      case measure => simp [intOf]; omega
    · go_wp2
      go_ret
      exact ⟨rfl, below_drewN (Below.refl _ _)⟩

/-- zzNilIffEmpty at a slice that is nil just if it is empty -/
theorem nil_any (a : Option Addr) (len cap : Nat) (w : World) (h : len = 0 ↔ a = none) :
    Calls Try.prog 13 #[.slice a len cap] w fun e w' => e = .returned (.bool true) ∧ w' = w := by
  have hq := fun w => Lib.run_eql_slice_nil (P := Try.prog) w 22 3 a len cap 0 0 Try.underlying22
  cases a with
  | none =>
    have h0 : len = 0 := h.2 rfl
    subst h0
    clear h
    go_enter Try.func13, Try.ntmps13
    go_wp2
    go_ret
    exact ⟨rfl, rfl⟩
  | some x =>
    have h0 : ¬ len = 0 := fun e => by cases h.1 e
    have h1 : ((len : Int) == 0) = false := by rw [beq_eq_false_iff_ne]; omega
    clear h
    go_enter Try.func13, Try.ntmps13
    go_wp2
    go_ret
    exact ⟨rfl, rfl⟩

theorem pairs_any (a a' : Option Addr) (len cap len' cap' : Nat) (w : World) :
    Calls Try.prog 6 #[.slice a len cap, .slice a' len' cap'] w fun e w' => ∃ n : Nat, e = .returned (.int .i64 (n : Int)) ∧ n ≤ len ∧ n ≤ len' ∧ w' = w := by
  by_cases hlt : (len' : Int) < (len : Int)
  · go_enter Try.func6, Try.ntmps6
    go_wp2
    go_ret
    exact ⟨len', rfl, by omega, by omega, rfl⟩
  · go_enter Try.func6, Try.ntmps6
    go_wp2
    go_ret
    exact ⟨len, rfl, by omega, by omega, rfl⟩

theorem held_any (a : Option Addr) (len cap n : Nat) (l : List Int) (w : World) (h : IsInts w a len l) (h1 : len ≤ 65536) (hn : n ≤ len) :
    Calls Try.prog 7 #[.slice a len cap, .int .i64 (n : Int)] w fun e w' => SomeBool e ∧ w' = w := by
  have H : Hid (IsInts w a len l) := h
  clear h
  go_enter Try.func7, Try.ntmps7
  go_wp2
  go_loop [5] (fun i => ∃ (k : Nat), k ≤ n ∧ i = .int .i64 k) (fun i => n - (intOf i).toNat)
  case atStart => exact ⟨0, by omega, rfl⟩
  case round =>
    obtain ⟨k, hk, rfl⟩ := hrel
    by_cases hlt : k < n
    · obtain ⟨b, off, rfl, hb, hc⟩ := H.out.2.2 (by omega)
      have hck := hc k (by omega)
      clear hc
      generalize l.getD k 0 = t at *
      go_wp2
      all_goals first
        | (go_ret; exact ⟨⟨false, rfl⟩, rfl⟩)
        | (go_round
           case rel => exact ⟨k + 1, by omega, by go_num⟩
           case measure => simp [intOf]; omega)
    · go_wp2
      go_ret
      exact ⟨⟨true, rfl⟩, rfl⟩

theorem compat_any (a b : Int) (w : World) : Calls Try.prog 17 #[.int .i64 a, .int .i64 b] w fun e w' => e = .returned (.bool (!(a == 2) && !(b == 2))) ∧ w' = w := by
  by_cases ha : a = 2
  · subst ha
    go_enter Try.func17, Try.ntmps17
    go_wp2
    go_ret
    exact ⟨rfl, rfl⟩
  · have h1 : (a == 2) = false := by simp [ha]
    have h2 : (a != 2) = true := by simp [ha]
    go_enter Try.func17, Try.ntmps17
    go_wp2
    go_ret
    exact ⟨by rw [h1]; rfl, rfl⟩
end Go.Proofs.Qxb6629025a
