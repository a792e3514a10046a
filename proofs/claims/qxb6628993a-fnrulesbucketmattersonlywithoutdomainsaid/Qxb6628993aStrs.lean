import Derived.Test.Qxb6628993aRows
import Derived.WalkKit
import Derived.WalkSpells
namespace Go.Proofs.Qxb6628993a
open Go.RowKit

/-- A slice of strings that came in: its length; cell i holds the string f i. -/
def IsStrs (w : World) (a : Option Addr) (len : Nat) (f : Nat → ByteArray) : Prop :=
  len ≤ maxLen ∧ (∀ i, i < len → (f i).size ≤ maxLen) ∧ (0 < len → ∃ b off, a = some ⟨b, off, none⟩ ∧ b < w.heap.size ∧ ∀ i, i < len → w.cell? ⟨b, off + i, none⟩ = some (.string (f i)))

theorem IsStrs.below {w w' : World} {a : Option Addr} {len : Nat} {f : Nat → ByteArray} (h : IsStrs w a len f) (hb : Below w.heap.size w w') : IsStrs w' a len f :=
  ⟨h.1, h.2.1, fun hp => by
    obtain ⟨b, off, ha, hl, hc⟩ := h.2.2 hp
    exact ⟨b, off, ha, Nat.lt_of_lt_of_le hl hb.size, fun i hi => (hb.cell (by exact hl)).trans (hc i hi)⟩⟩

set_option maxHeartbeats 400000 in
theorem add_any (s : Int) (a : Option Addr) (len cap : Nat) (f : Nat → ByteArray) (w : World) (h : IsStrs w a len f) (h0 : 0 ≤ s) (h1 : s ≤ 1048576) :
    Calls Try.prog 6 #[.int .i64 s, .slice a len cap] w fun e w' => ∃ n : Int, e = .returned (.int .i64 n) ∧ 0 ≤ n ∧ w' = w := by
  have hl := h.1
  unfold maxLen at hl
  have H : Hid (IsStrs w a len f) := h
  clear h
  go_enter Try.func6, Try.ntmps6
  go_wp2
  go_loop [0, 5] (fun s i => ∃ (k : Nat) (n : Int), k ≤ len ∧ i = .int .i64 k ∧ s = .int .i64 n ∧ 0 ≤ n ∧ n ≤ 1048576) (fun _ i => len - (intOf i).toNat)
  case atStart => exact ⟨0, s, by omega, rfl, rfl, h0, h1⟩
  case round =>
    obtain ⟨k, n, hk, rfl, rfl, hn0, hn1⟩ := hrel
    by_cases hlt : k < len
    · obtain ⟨b, off, rfl, hb, hc⟩ := H.out.2.2 (by omega)
      have hck := hc k hlt
      have hsz := H.out.2.1 k hlt
      unfold maxLen at hsz
      generalize f k = t at *
      clear hc
      go_wp2
      · go_ret
        exact ⟨1048577, rfl, by omega, rfl⟩
      · go_ret
        exact ⟨n + (16 + (t.size : Int)), rfl, by omega, rfl⟩
      · go_round
        case rel => exact ⟨k + 1, n + (16 + (t.size : Int)), by omega, by go_num, rfl, by omega, by omega⟩
        case measure => simp [intOf]; omega
    · go_wp2
      go_ret
      exact ⟨n, rfl, hn0, rfl⟩

def SomeBool (e : Ending) : Prop := ∃ r : Bool, e = .returned (.bool r)
set_option maxHeartbeats 800000 in
theorem zz5_any (c hd : Bool) (a : Option Addr) (len cap : Nat) (f : Nat → ByteArray) (hbk : Bool) (a' : Option Addr) (len' cap' : Nat) (f' : Nat → ByteArray) (w : World) (h : IsStrs w a len f) (h' : IsStrs w a' len' f') :
    Calls Try.prog 5 #[.bool c, .bool hd, .slice a len cap, .bool hbk, .slice a' len' cap'] w fun e w' => SomeBool e ∧ w' = w := by
  have hl := h.1
  have hl' := h'.1
  unfold maxLen at hl hl'
  have H : Hid (IsStrs w a len f) := h
  have H' : Hid (IsStrs w a' len' f') := h'
  clear h h'
  by_cases hz : (1048576 : Int) < (len : Int)
  · go_enter Try.func5, Try.ntmps5
    go_wp2
    go_ret
    exact ⟨⟨false, rfl⟩, rfl⟩
  go_enter Try.func5, Try.ntmps5
  go_wp2
  go_loop [11, 12] (fun s i => ∃ (k : Nat) (n : Int), k ≤ len ∧ i = .int .i64 k ∧ s = .int .i64 n ∧ 0 ≤ n ∧ n ≤ 1048576) (fun _ i => len - (intOf i).toNat)
  case atStart => exact ⟨0, len, by omega, rfl, rfl, by omega, by omega⟩
  case round =>
    obtain ⟨k, n, hk, rfl, rfl, hn0, hn1⟩ := hrel
    by_cases hlt : k < len
    · obtain ⟨b, off, rfl, hb, hc⟩ := H.out.2.2 (by omega)
      have hck := hc k hlt
      have hsz := H.out.2.1 k hlt
      unfold maxLen at hsz
      generalize f k = t at *
      clear hc
      go_wp2
      · go_ret
        exact ⟨⟨false, rfl⟩, rfl⟩
      · go_ret
        exact ⟨⟨false, rfl⟩, rfl⟩
      · go_round
        case rel => exact ⟨k + 1, n + (t.size : Int), by omega, by go_num, rfl, by omega, by omega⟩
        case measure => simp [intOf]; omega
    · by_cases hz' : (1048576 : Int) < (len' : Int)
      · go_wp2
        go_ret
        exact ⟨⟨false, rfl⟩, rfl⟩
      · by_cases hz2 : (1048576 : Int) < n + (len' : Int)
        · go_wp2
          go_ret
          exact ⟨⟨false, rfl⟩, rfl⟩
        go_wp2
        go_loop [11, 13] (fun s i => ∃ (k : Nat) (n : Int), k ≤ len' ∧ i = .int .i64 k ∧ s = .int .i64 n ∧ 0 ≤ n ∧ n ≤ 1048576) (fun _ i => len' - (intOf i).toNat)
        case atStart => exact ⟨0, n + len', by omega, rfl, rfl, by omega, by omega⟩
        case round =>
          obtain ⟨k', n', hk', rfl, rfl, hn0', hn1'⟩ := hrel
          by_cases hlt' : k' < len'
          · obtain ⟨b', off', rfl, hb', hc'⟩ := H'.out.2.2 (by omega)
            have hck' := hc' k' hlt'
            have hsz' := H'.out.2.1 k' hlt'
            unfold maxLen at hsz'
            generalize f' k' = t' at *
            clear hc'
            go_wp2
            · go_ret
              exact ⟨⟨false, rfl⟩, rfl⟩
            · go_ret
              exact ⟨⟨false, rfl⟩, rfl⟩
            · go_round
              case rel => exact ⟨k' + 1, n' + (t'.size : Int), by omega, by go_num, rfl, by omega, by omega⟩
              case measure => simp [intOf]; omega
          · go_wp2
            go_ret
            exact ⟨⟨true, rfl⟩, rfl⟩
end Go.Proofs.Qxb6628993a
