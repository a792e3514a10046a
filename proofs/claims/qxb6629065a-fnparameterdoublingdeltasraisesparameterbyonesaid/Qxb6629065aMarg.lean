import Derived.Test.Qxb6629065aParam
namespace Go.Proofs.Qxb6629065a
open Go.RowKit

theorem M_one (z : Nat → Int) (k : Nat) : M z k 1 = 0 := by simp [M]
theorem M_next (z : Nat → Int) (k j : Nat) (h : 1 ≤ j) : M z k (j + 1) = M z k j + (dl z j / 2 ^ k + 1) / 2 := by
  rw [M, if_neg (by omega)]

theorem div_small (z : Nat → Int) (i k : Nat) (hk : 3 ≤ k) : dl z i / 2 ^ k ≤ 536870911 := by
  have h := dl_lt z i
  have h2 : dl z i / 2 ^ k ≤ dl z i / 2 ^ 3 := Nat.div_le_div_left (Nat.pow_le_pow_right (by decide) hk) (by decide)
  omega
theorem marg_next (z : Nat → Int) (k j T : Nat) (x y : Int) (hx : z j = x) (hy : z (j - 1) = y) (hk : 3 ≤ k) (hj : 1 ≤ j) (hT : T = M z k j) :
    (T : Int) + ((x - y) % 4294967296 / 2 ^ k + 1) % 4294967296 / 2 = ((M z k (j + 1) : Nat) : Int) := by
  subst hx hy
  have hd := div_small z j k hk
  rw [dl_div, M_next z k j hj, ← hT]
  generalize dl z j / 2 ^ k = q at *
  omega

set_option maxHeartbeats 1600000 in
theorem marg_any (a : Option Addr) (len cap : Nat) (z : Nat → Int) (w : World) (h : IsU w a len z) (h1 : len ≤ 262144) :
    Calls Try.prog 7 #[.slice a len cap] w fun e w' => ∃ p : Nat, e = .returned (.int .i64 (p : Int)) ∧ IsFirst (fun k => M z k len) (len - 1) p ∧ Below w.heap.size w w' := by
  have H : Hid (IsU w a len z) := h
  clear h
  by_cases hl : (1 : Int) < (len : Int)
  case pos =>
    go_enter Try.func7, Try.ntmps7
    go_wp2
    go_loopw [5] (fun k wr => ∃ (kk n : Nat), 3 ≤ kk ∧ kk ≤ 30 ∧ k = .int .i64 kk ∧ Hid (∀ j, 3 ≤ j → j < kk → len - 1 < M z j len) ∧ wr = w.drewN n) (fun k _ => 30 - (intOf k).toNat)
    case atStart => exact ⟨3, 0, by omega, by omega, rfl, fun j h1 h2 => absurd h2 (by omega), rfl⟩
    case round =>
      obtain ⟨k, n, hk1, hk2, rfl, hF, rfl⟩ := hrel
      by_cases hlt : k < 30
      · go_wp2
        go_loopw [6, 7] (fun sv i wr => ∃ (j n : Nat), 1 ≤ j ∧ j ≤ len ∧ i = .int .i64 j ∧ Hid (sv = .int .u64 ((M z k j : Nat) : Int)) ∧ wr = w.drewN n) (fun _ i _ => len - (intOf i).toNat)
        case atStart => exact ⟨1, n, by omega, by omega, rfl, by rw [M_one]; rfl, rfl⟩
        case round =>
          obtain ⟨j, n, hj1, hj2, rfl, hbt, rfl⟩ := hrel
          obtain ⟨T, hT⟩ : ∃ T : Nat, T = M z k j := ⟨_, rfl⟩
          have hbt' := hbt.out
          rw [← hT] at hbt'
          rw [hbt']
          have HT : Hid (T = M z k j) := hT
          clear hT hbt hbt'
          by_cases hjl : j < len
          · obtain ⟨b, off, rfl, hb, hc⟩ := H.out.2 (by omega)
            have hck := hc j hjl
            have hck' := hc (j - 1) (by omega)
            have hz1 := H.out.1 j hjl
            have hz2 := H.out.1 (j - 1) (by omega)
            have hTb : T ≤ 1125899906842624 := by rw [HT.out]; exact M_le z k j len hj2 h1
            clear hc
            generalize hx : z j = x at *
            generalize hy : z (j - 1) = y at *
            have HV : Hid ((T : Int) + ((x - y) % 4294967296 / 2 ^ k + 1) % 4294967296 / 2 = ((M z k (j + 1) : Nat) : Int)) := marg_next z k j T x y hx hy hk1 hj1 HT.out
            clear hx hy
            go_wp2
            go_quiet (fail)
            go_wp2
            go_roundw
            case rel => exact ⟨j + 1, n + nq, by omega, by omega, by go_num, congrArg (Value.int .u64) HV.out, rfl⟩
            case measure => simp [intOf]; omega
          · have HB : Hid (T = M z k len) := by
              have e : j = len := by omega
              rw [HT.out, e]; exact rfl
            by_cases hTm : (T : Int) ≤ (len : Int) - 1
            · have HR : Hid (IsFirst (fun k => M z k len) (len - 1) k) := ⟨hk1, hk2, hF.out, fun _ => by show M z k len ≤ len - 1; rw [← HB.out]; omega⟩
              go_wp2
              go_ret
              exact ⟨k, rfl, HR.out, below_drewN (Below.refl _ _)⟩
            · have HF2 : Hid (∀ j, 3 ≤ j → j < k + 1 → len - 1 < M z j len) := fun i h1 h2 => by
                by_cases e : i = k
                · rw [e, ← HB.out]; omega
                · exact hF.out i h1 (by omega)
              go_wp2
              go_roundw
              case rel => exact ⟨k + 1, n, by omega, by omega, by go_num, HF2, rfl⟩
              case measure => simp [intOf]; omega
      · have HR : Hid (IsFirst (fun k => M z k len) (len - 1) 30) := by
          have e : k = 30 := by omega
          subst e
          exact ⟨by omega, by omega, hF.out, fun h => absurd h (by omega)⟩
        go_wp2
        go_ret
        exact ⟨30, rfl, HR.out, below_drewN (Below.refl _ _)⟩
  case neg =>
    have HR : Hid (IsFirst (fun k => M z k len) (len - 1) 3) := by
      have e : M z 3 len = 0 := by
        rcases (show len = 0 ∨ len = 1 from by omega) with e | e
        · rw [e]; rfl
        · rw [e, M_one]
      exact ⟨by omega, by omega, fun k h1 h2 => absurd h2 (by omega), fun _ => by show M z 3 len ≤ _; omega⟩
    go_enter Try.func7, Try.ntmps7
    go_wp2
    refine wp_loop_rounds 1 ?_
    rw [rounds_succ]
    go_wp2
    refine wp_loop_rounds 1 ?_
    rw [rounds_succ]
    go_wp2
    go_ret
    exact ⟨3, rfl, HR.out, Below.refl _ _⟩
end Go.Proofs.Qxb6629065a
