import Derived.Test.Qxb6629065aRows
import Derived.Test.Qxb6629065aPlain
import Derived.WalkKit
import Derived.WalkSpells
import Derived.WalkLawsBesides
import Derived.Deep.QuietTactic
import Derived.BigQuiet
namespace Go.Proofs.Qxb6629065a
open Go.RowKit

theorem below_drewN {B : Nat} {a w : World} (h : Below B a w) {n : Nat} : Below B a (w.drewN n) := ⟨h.os, h.tape, h.output, h.size, h.block⟩
def IsU (w : World) (a : Option Addr) (len : Nat) (z : Nat → Int) : Prop :=
  (∀ i, i < len → 0 ≤ z i ∧ z i ≤ 4294967295) ∧ (0 < len → ∃ b off, a = some ⟨b, off, none⟩ ∧ b < w.heap.size ∧ ∀ i, i < len → w.cell? ⟨b, off + i, none⟩ = some (.int .u32 (z i)))

theorem wrap_in (n : Int) (h0 : 0 ≤ n) (h1 : n ≤ 1152921504606846976) : IntKind.u64.wrap n = n := by
  rw [IntKind.wrap_u64]; omega
theorem dl_div (z : Nat → Int) (j k : Nat) : (z j - z (j - 1)) % 4294967296 / 2 ^ k = ((dl z j / 2 ^ k : Nat) : Int) := by
  unfold dl
  rw [Int.natCast_ediv, Int.natCast_pow, Int.toNat_of_nonneg (by omega)]
  rfl
theorem S_one (z : Nat → Int) (k : Nat) : S z k 1 = 0 := by simp [S]
theorem S_next (z : Nat → Int) (k j : Nat) (h : 1 ≤ j) : S z k (j + 1) = S z k j + dl z j / 2 ^ k := by
  rw [S, if_neg (by omega)]
theorem prod_le (len k : Nat) (h1 : len ≤ 262144) (hk : k ≤ 30) : (len - 1) * (k + 1) ≤ 262144 * 31 := Nat.mul_le_mul (by omega) (by omega)
theorem bits_start (z : Nat → Int) (len k : Nat) (h : 1 ≤ len) (h1 : len ≤ 262144) (hk : k ≤ 30) : IntKind.u64.wrap (((len : Int) - 1) * ((k : Int) + 1)) = (((len - 1) * (k + 1) + S z k 1 : Nat) : Int) := by
  have hp := prod_le len k h1 hk
  rw [S_one, Nat.add_zero]
  have e : ((len : Int) - 1) * ((k : Int) + 1) = (((len - 1) * (k + 1) : Nat) : Int) := by
    rw [Int.natCast_mul, Int.natCast_add, Int.natCast_sub h]; rfl
  rw [e]
  exact wrap_in _ (by omega) (by omega)
theorem bits_next (z : Nat → Int) (len k j T : Nat) (x y : Int) (hx : z j = x) (hy : z (j - 1) = y) (hj : 1 ≤ j) (hT : T = (len - 1) * (k + 1) + S z k j) (hTb : T ≤ 1125899914706944) :
    IntKind.u64.wrap ((T : Int) + IntKind.u64.wrap ((x - y) % 4294967296 / 2 ^ k)) = (((len - 1) * (k + 1) + S z k (j + 1) : Nat) : Int) := by
  subst hx hy
  have hd := div_le z j k
  rw [dl_div, S_next z k j hj]
  generalize dl z j / 2 ^ k = q at *
  rw [wrap_in (q : Int) (by omega) (by omega), wrap_in _ (by omega) (by omega)]
  omega
theorem T_le (z : Nat → Int) (len k j : Nat) (hj : j ≤ len) (h1 : len ≤ 262144) (hk : k ≤ 30) : (len - 1) * (k + 1) + S z k j ≤ 1125899914706944 := by
  have hp := prod_le len k h1 hk
  have hs := S_le z k j len hj h1
  omega
theorem bits_end (z : Nat → Int) (len k j : Nat) (h : j = len ∨ (len = 0 ∧ j = 1)) : (len - 1) * (k + 1) + S z k j = bits z len k := by
  unfold bits
  rcases h with h | ⟨h, h'⟩
  · rw [h]
  · rw [h, h', S_one]; simp [S]

set_option maxHeartbeats 1600000 in
theorem param_any (a : Option Addr) (len cap : Nat) (z : Nat → Int) (w : World) (h : IsU w a len z) (h1 : len ≤ 262144) :
    Calls Try.prog 6 #[.slice a len cap] w fun e w' => ∃ p : Nat, e = .returned (.int .i64 (p : Int)) ∧ IsFirst (fun k => M z k len) (len - 1) p ∧ Below w.heap.size w w' := by
  have H : Hid (IsU w a len z) := h
  clear h
  go_enter Try.func6, Try.ntmps6
  go_wp2
  go_loopw [3, 4, 5] (fun bs bb k wr => ∃ (kk p m n : Nat), 3 ≤ kk ∧ kk ≤ 31 ∧ bs = .int .i64 (p : Int) ∧ bb = .int .u64 (m : Int) ∧ k = .int .i64 kk ∧ Hid (Scan z len kk p m) ∧ wr = w.drewN n) (fun _ _ k _ => 31 - (intOf k).toNat)
  case atStart => exact ⟨3, 3, 18446744073709551615, 0, by omega, by omega, rfl, rfl, rfl, Scan.init z len, rfl⟩
  case round =>
    obtain ⟨k, p, m, n, hk1, hk2, rfl, rfl, rfl, hS, rfl⟩ := hrel
    by_cases hlt : k ≤ 30
    · have HST : Hid (∀ h : 1 ≤ len, IntKind.u64.wrap (((len : Int) - 1) * ((k : Int) + 1)) = (((len - 1) * (k + 1) + S z k 1 : Nat) : Int)) := fun h => bits_start z len k h h1 hlt
      by_cases hl0 : 1 ≤ len
      case pos =>
        go_wp2
        go_loopw [6, 7] (fun bt i wr => ∃ (j n : Nat), 1 ≤ j ∧ (j ≤ len ∨ j = 1) ∧ i = .int .i64 j ∧ Hid (bt = .int .u64 (((len - 1) * (k + 1) + S z k j : Nat) : Int)) ∧ wr = w.drewN n) (fun _ i _ => len - (intOf i).toNat)
        case atStart =>
          refine ⟨1, n, by omega, .inr rfl, rfl, ?_, rfl⟩
          exact congrArg (Value.int .u64) (HST.out (by assumption))
        case round =>
          clear HST
          obtain ⟨j, n, hj1, hj2, rfl, hbt, rfl⟩ := hrel
          obtain ⟨T, hT⟩ : ∃ T : Nat, T = (len - 1) * (k + 1) + S z k j := ⟨_, rfl⟩
          have hbt' := hbt.out
          rw [← hT] at hbt'
          rw [hbt']
          have HT : Hid (T = (len - 1) * (k + 1) + S z k j) := hT
          clear hT hbt hbt'
          by_cases hjl : j < len
          · obtain ⟨b, off, rfl, hb, hc⟩ := H.out.2 (by omega)
            have hck := hc j hjl
            have hck' := hc (j - 1) (by omega)
            have hz1 := H.out.1 j hjl
            have hz2 := H.out.1 (j - 1) (by omega)
            have hTb : T ≤ 1125899914706944 := by rw [HT.out]; exact T_le z len k j (by omega) h1 hlt
            have HN : Hid (∀ x y, z j = x → z (j - 1) = y → IntKind.u64.wrap ((T : Int) + IntKind.u64.wrap ((x - y) % 4294967296 / 2 ^ k)) = (((len - 1) * (k + 1) + S z k (j + 1) : Nat) : Int)) := fun x y hx hy => bits_next z len k j T x y hx hy hj1 HT.out hTb
            clear hc
            generalize hx : z j = x at *
            generalize hy : z (j - 1) = y at *
            have HV := HN.out x y rfl rfl
            have HV' : Hid (IntKind.u64.wrap ((T : Int) + IntKind.u64.wrap ((x - y) % 4294967296 / 2 ^ k)) = (((len - 1) * (k + 1) + S z k (j + 1) : Nat) : Int)) := HV
            clear HN HV hx hy
            go_wp2
            go_quiet (fail)
            go_wp2
            go_roundw
            case rel => exact ⟨j + 1, n + nq, by omega, .inl (by omega), by go_num, congrArg (Value.int .u64) HV'.out, rfl⟩
            case measure => simp [intOf]; omega
          · have HB : Hid (T = bits z len k) := by rw [HT.out]; exact bits_end z len k j (by omega)
            by_cases hTm : T < m
            · have HS2 : Hid (Scan z len (k + 1) k T) := by rw [HB.out]; exact hS.out.better hk1 (by rw [← HB.out]; exact hTm)
              go_wp2
              go_roundw
              case rel => exact ⟨k + 1, k, T, n, by omega, by omega, rfl, rfl, by go_num, HS2, rfl⟩
              case measure => simp [intOf]; omega
            · have HS2 : Hid (Scan z len (k + 1) p m) := by
                by_cases h3 : k = 3
                · have hm := (hS.out.start h3).2
                  have hl := bits_lt z len k h1 hlt
                  have := HB.out
                  omega
                · exact hS.out.worse (by omega) (by rw [← HB.out]; exact hTm)
              go_wp2
              go_roundw
              case rel => exact ⟨k + 1, p, m, n, by omega, by omega, rfl, rfl, by go_num, HS2, rfl⟩
              case measure => simp [intOf]; omega
      case neg =>
        have HB : Hid (bits z len k = 0) := by
          have e : len = 0 := by omega
          show _ = _
          rw [e]; simp [bits, S]
        by_cases hTm : 0 < m
        · have HS2 : Hid (Scan z len (k + 1) k 0) := by
            have := hS.out.better hk1 (by rw [HB.out]; exact hTm)
            rw [HB.out] at this; exact this
          go_wp2
          refine wp_loop_rounds 1 ?_
          rw [rounds_succ]
          go_wp2
          go_roundw
          case rel => exact ⟨k + 1, k, 0, n, by omega, by omega, rfl, rfl, by go_num, HS2, rfl⟩
          case measure => simp [intOf]; omega
        · have HS2 : Hid (Scan z len (k + 1) p m) := by
            by_cases h3 : k = 3
            · have hm := (hS.out.start h3).2
              omega
            · exact hS.out.worse (by omega) (by rw [HB.out]; exact hTm)
          go_wp2
          refine wp_loop_rounds 1 ?_
          rw [rounds_succ]
          go_wp2
          go_roundw
          case rel => exact ⟨k + 1, p, m, n, by omega, by omega, rfl, rfl, by go_num, HS2, rfl⟩
          case measure => simp [intOf]; omega
    · have HF : Hid (IsFirst (fun k => M z k len) (len - 1) p) := by
        have e : k = 31 := by omega
        subst e
        exact hS.out.done
      go_wp2
      go_ret
      exact ⟨p, rfl, HF.out, below_drewN (Below.refl _ _)⟩
end Go.Proofs.Qxb6629065a
