import Derived.Test.Qxb6628993aLife
import Derived.Deep.QuietTactic
import Derived.BigQuiet
namespace Go.Proofs.Qxb6628993a
open Go.RowKit

theorem below_drewN {B : Nat} {a w : World} (h : Below B a w) {n : Nat} : Below B a (w.drewN n) := ⟨h.os, h.tape, h.output, h.size, h.block⟩

set_option maxHeartbeats 400000 in
theorem same_any (L : Nat) (a : Option Addr) (len cap : Nat) (f : Nat → ByteArray) (w : World) (h : IsStrs w a len f) (hL : IsLife w L len f) (h1 : len ≤ 65536) :
    Calls Try.prog 9 #[.pointer (some ⟨L, 0, none⟩), .slice a len cap] w fun e w' => e = .returned (.bool true) ∧ Below w.heap.size w w' := by
  have H : Hid (IsStrs w a len f) := h
  clear h
  obtain ⟨R, hL1, hR1, hLc, hRc⟩ := hL.cell
  clear hL
  have HR : Hid (∀ j, j < len → w.cell? ⟨R, j * 11, none⟩ = some (.string (f j))) := hRc
  clear hRc
  have hne : ((len : Int) != (len : Int)) = false := by simp
  go_enter Try.func9, Try.ntmps9
  go_wp2
  go_loopw [5] (fun i wr => ∃ (k n : Nat), k ≤ len ∧ i = .int .i64 k ∧ wr = w.drewN n) (fun i _ => len - (intOf i).toNat)
  case atStart => exact ⟨0, 0, by omega, rfl, rfl⟩
  case round =>
    obtain ⟨k, n, hk, rfl, rfl⟩ := hrel
    by_cases hlt : k < len
    · obtain ⟨b, off, rfl, hb, hc⟩ := H.out.2.2 (by omega)
      have hck := hc k hlt
      have hcr := HR.out k hlt
      clear hc
      generalize f k = t at *
      go_wp2
      go_quiet (fail)
      go_wp2
      go_roundw
      case rel => exact ⟨k + 1, n + nq, by omega, by go_num, rfl⟩
      case measure => simp [intOf]; omega
    · go_wp2
      go_ret
      exact ⟨rfl, below_drewN (Below.refl _ _)⟩
end Go.Proofs.Qxb6628993a
