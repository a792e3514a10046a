import Derived.Test.Qxb6629065aFirstWalk
namespace Go.Proofs.Qxb6629065a
open Go.RowKit Go.Deep

/-- the doubled values -/
def dbl (z : Nat → Int) : Nat → Int := fun i => (z i * 2) % 4294967296
/-- every delta below 2^31 -/
def Small (z : Nat → Int) (n : Nat) : Prop := ∀ i, 1 ≤ i → i < n → dl z i < 2147483648
theorem dl_dbl (z : Nat → Int) (i : Nat) (h : dl z i < 2147483648) : dl (dbl z) i = 2 * dl z i := by
  unfold dl dbl at *
  omega
theorem M_dbl (z : Nat → Int) (k : Nat) : ∀ n, Small z n → M (dbl z) (k + 1) n = M z k n
  | 0, _ => rfl
  | j + 1, h => by
    have ih := M_dbl z k j (fun i h1 h2 => h i h1 (by omega))
    unfold M
    rw [ih]
    by_cases e : j = 0
    · rw [if_pos e, if_pos e]
    · rw [if_neg e, if_neg e, dl_dbl z j (h j (by omega) (by omega)), Nat.pow_succ, Nat.mul_comm (2 ^ k) 2, Nat.mul_div_mul_left _ _ (by decide)]
/-- what the law says of the two answers -/
theorem double_law (z : Nat → Int) (n p q : Nat) (hs : Small z n) (hp : IsFirst (fun k => M z k n) (n - 1) p) (hq : IsFirst (fun k => M (dbl z) k n) (n - 1) q) :
    (p = 3 → q = 3 ∨ q = 4) ∧ (p = 30 → q = 30) ∧ (p ≠ 3 → p ≠ 30 → q = p + 1) := by
  have e : ∀ k, M (dbl z) (k + 1) n = M z k n := fun k => M_dbl z k n hs
  have hplo := hp.lo
  have hphi := hp.hi
  have hqlo := hq.lo
  have hqhi := hq.hi
  have m3 : M (dbl z) 4 n ≤ M (dbl z) 3 n := M_mono (dbl z) 3 n
  have e3 : M (dbl z) 4 n = M z 3 n := M_dbl z 3 n hs
  refine ⟨fun h => ?_, fun h => ?_, fun h3 h30 => ?_⟩
  · subst h
    by_cases h5 : 4 < q
    · have h1 : n - 1 < M (dbl z) 4 n := hq.before 4 (by omega) h5
      have h2 : M z 3 n ≤ n - 1 := hp.at_p (by omega)
      omega
    · omega
  · subst h
    by_cases h5 : q < 30
    · have h1 := hq.at_p h5
      have h1' : M (dbl z) q n ≤ n - 1 := h1
      by_cases h6 : q = 3
      · subst h6
        have h2 := hp.before 3 (by omega) (by omega)
        have h2' : n - 1 < M z 3 n := h2
        omega
      · have h2 := hp.before (q - 1) (by omega) (by omega)
        have h2' : n - 1 < M z (q - 1) n := h2
        have h7 := e (q - 1)
        rw [show q - 1 + 1 = q from by omega] at h7
        omega
    · omega
  · rcases Nat.lt_trichotomy q (p + 1) with h | h | h
    · have h1 : M (dbl z) q n ≤ n - 1 := hq.at_p (by omega)
      by_cases h6 : q = 3
      · subst h6
        have h2 : n - 1 < M z 3 n := hp.before 3 (by omega) (by omega)
        omega
      · have h2 : n - 1 < M z (q - 1) n := hp.before (q - 1) (by omega) (by omega)
        have h7 := e (q - 1)
        rw [show q - 1 + 1 = q from by omega] at h7
        omega
    · exact h
    · have h1 : n - 1 < M (dbl z) (p + 1) n := hq.before (p + 1) (by omega) h
      have h2 : M z p n ≤ n - 1 := hp.at_p (by omega)
      have := e p
      omega

theorem dbl_step (Mk : Array Value) (z : Nat → Int) (len k : Nat) (x : Int) (hx : z k = x) (hM : Mk.size = len) (hk : k < len) (h : ∀ i, i < k → Mk[i]? = some (.int .u32 (dbl z i))) :
    ∀ i, i < k + 1 → (Mk.setIfInBounds k (.int .u32 (x * 2 % 4294967296)))[i]? = some (.int .u32 (dbl z i)) := by
  intro i hi
  rw [Array.getElem?_setIfInBounds]
  by_cases e : k = i
  · subst e
    rw [if_pos rfl, if_pos (by omega)]
    unfold dbl; rw [hx]
  · rw [if_neg e]
    exact h i (by omega)
theorem dbl_row (wD : World) (Mk : Array Value) (z : Nat → Int) (len : Nat) (h : ∀ i, i < len → Mk[i]? = some (.int .u32 (dbl z i))) : IsU (wD.alloc (.cells Mk 25)) (some ⟨wD.heap.size, 0, none⟩) len (dbl z) := by
  refine ⟨fun i _ => by unfold dbl; omega, fun _ => ⟨wD.heap.size, 0, rfl, by simp, fun i hi => ?_⟩⟩
  rw [Nat.zero_add, World.cell?_alloc_at _ _ _ _ rfl]
  exact h i hi

set_option maxHeartbeats 1600000 in
theorem double_any (a : Option Addr) (len cap : Nat) (z : Nat → Int) (w : World) (h : IsU w a len z) (hl : len ≤ maxLen) :
    Calls Try.prog 4 #[.slice a len cap] w fun e w' => e = .returned (.bool true) ∧ Below w.heap.size w w' := by
  have H : Hid (IsU w a len z) := h
  have HZ : Hid (Calls Try.prog 8 #[.slice a len cap] w fun e w' => SomeBool e ∧ w' = w) := zz8_any a len cap w hl
  unfold maxLen at hl
  clear h
  have hq := fun w => run_neq_slice_nil_any (P := Try.prog) w 22 25 a len cap 0 0 Try.underlying22
  go_enter Try.func4, Try.ntmps4
  go_wp2_with fail
  refine HZ.out.mono ?_
  rintro e w0 ⟨⟨r, rfl⟩, rfl⟩
  cases r
  · go_wp2_with fail
    go_ret
    exact ⟨rfl, Below.refl _ _⟩
  by_cases hz : (262144 : Int) < (len : Int)
  · go_wp2_with fail
    go_ret
    exact ⟨rfl, Below.refl _ _⟩
  have hmk := make_u len (by omega)
  clear HZ
  cases a
  case' none =>
    go_wp2_with fail
    obtain ⟨w1, hw1⟩ : ∃ w1, w1 = w0 := ⟨_, rfl⟩
    have HI : Hid (IsU w1 none len z) := by rw [hw1]; exact H
    have HB : Hid (Below w0.heap.size w0 w1) := by rw [hw1]; exact Below.refl _ _
    rw [← hw1]
    clear hw1 H hq
    generalize (none : Option Addr) = aV at *
  case' some x =>
    go_wp2_with (refine copy_law w0 (some x) len cap z H.out rfl (.tmp 20) (.tmp 21) rfl rfl rfl ?_; intro w1 hI hb1; have HI : Hid (IsU w1 (some ⟨w0.heap.size, 0, none⟩) len z) := hI; have HB : Hid (Below w0.heap.size w0 w1) := hb1; clear hI hb1 H hq)
    generalize (some ⟨w0.heap.size, 0, none⟩ : Option Addr) = aV at *
  all_goals
    go_loopw [4] (fun i wr => ∃ (j n : Nat), 1 ≤ j ∧ (j ≤ len ∨ j = 1) ∧ i = .int .i64 j ∧ Hid (∀ i, 1 ≤ i → i < j → dl z i < 2147483648) ∧ wr = w1.drewN n) (fun i _ => len - (intOf i).toNat)
    case atStart => exact ⟨1, 0, by omega, .inr rfl, rfl, fun i h1 h2 => absurd h2 (by omega), rfl⟩
    case round =>
      obtain ⟨j, n, hj1, hj2, rfl, hN, rfl⟩ := hrel
      by_cases hjl : j < len
      · obtain ⟨b, off, rfl, hb, hc⟩ := HI.out.2 (by omega)
        have hck := hc j hjl
        have hck' := hc (j - 1) (by omega)
        have hz1 := HI.out.1 j hjl
        have hz2 := HI.out.1 (j - 1) (by omega)
        clear hc
        by_cases hbig : (2147483648 : Int) ≤ (z j - z (j - 1)) % 4294967296
        · generalize z j = x at *
          generalize z (j - 1) = y at *
          go_wp2
          go_quiet (fail)
          go_wp2
          go_ret
          exact ⟨rfl, by first | exact below_drewN HB.out | exact below_drewN (below_drewN HB.out)⟩
        · have HN2 : Hid (∀ i, 1 ≤ i → i < j + 1 → dl z i < 2147483648) := fun i h1 h2 => by
            by_cases e : i = j
            · rw [e]; unfold dl; omega
            · exact hN.out i h1 (by omega)
          generalize z j = x at *
          generalize z (j - 1) = y at *
          go_wp2
          go_quiet (fail)
          go_wp2
          go_roundw
          case rel => exact ⟨j + 1, n + nq, by omega, .inl (by omega), by go_num, HN2, rfl⟩
          case measure => simp [intOf]; omega
      · have HS : Hid (Small z len) := fun i h1 h2 => hN.out i h1 (by omega)
        obtain ⟨wD, hwD⟩ : ∃ wD, wD = w1.drewN n := ⟨_, rfl⟩
        have HID : Hid (IsU wD aV len z) := by rw [hwD]; exact HI
        have HBD : Hid (Below w0.heap.size w0 wD) := by rw [hwD]; exact below_drewN HB.out
        rw [← hwD]
        clear hwD HI HB hN
        go_wp2
        clear hmk
        go_loopw [6] (fun i wr => ∃ (k : Nat) (Mk : Array Value), k ≤ len ∧ i = .int .i64 k ∧ Mk.size = len ∧ Hid (∀ i, i < k → Mk[i]? = some (.int .u32 (dbl z i))) ∧ wr = wD.alloc (.cells Mk 25)) (fun i _ => len - (intOf i).toNat)
        case atStart => exact ⟨0, _, by omega, rfl, size_madeCells _ _, fun i hi => absurd hi (by omega), rfl⟩
        case round =>
          obtain ⟨k, Mk, hk, rfl, hM, HM, rfl⟩ := hrel
          by_cases hlt : k < len
          · obtain ⟨b, off, rfl, hb, hc⟩ := HID.out.2 (by omega)
            have hck := hc k hlt
            have hz1 := HID.out.1 k hlt
            clear hc
            obtain ⟨v1, hv1⟩ : ∃ v, Mk[k]? = some v := ⟨_, Array.getElem?_eq_getElem (by omega)⟩
            have HST : Hid (∀ x, z k = x → ∀ i, i < k + 1 → (Mk.setIfInBounds k (.int .u32 (x * 2 % 4294967296)))[i]? = some (.int .u32 (dbl z i))) := fun x hx => dbl_step Mk z len k x hx hM hlt HM.out
            generalize hx : z k = x at *
            have HST2 := HST.out x rfl
            have HST3 : Hid (∀ i, i < k + 1 → (Mk.setIfInBounds k (.int .u32 (x * 2 % 4294967296)))[i]? = some (.int .u32 (dbl z i))) := HST2
            clear HST HST2 hx
            go_wp2
            go_roundw
            case rel => exact ⟨k + 1, _, by omega, by go_num, by simp [hM], HST3, rfl⟩
            case measure => simp [intOf]; omega
          · have HU : Hid (IsU (wD.alloc (.cells Mk 25)) (some ⟨wD.heap.size, 0, none⟩) len (dbl z)) := dbl_row wD Mk z len (fun i hi => HM.out i (by omega))
            have HV : Hid (IsU (wD.alloc (.cells Mk 25)) aV len z) := HID.out.below ((Below.refl _ _).alloc (Nat.le_refl _) _)
            have HE : Hid (Below w0.heap.size w0 (wD.alloc (.cells Mk 25))) := HBD.out.alloc HBD.out.size _
            clear HID HBD HM
            go_wp2_with fail
            generalize hwE : wD.alloc (.cells Mk 25) = wE at *
            clear hwE
            refine (param_any aV len _ z _ HV.out (by omega)).mono ?_
            rintro e w2 ⟨p, rfl, hp, hb2⟩
            have HP : Hid (IsFirst (fun k => M z k len) (len - 1) p) := hp
            have B2 : Hid (Below wE.heap.size wE w2) := hb2
            clear hp hb2
            go_wp2_with fail
            refine (param_any _ len _ (dbl z) _ (HU.out.below B2.out) (by omega)).mono ?_
            rintro e w3 ⟨q, rfl, hq, hb3⟩
            have HL : Hid (_ ∧ _) := double_law z len p q HS.out HP.out hq
            have y1 := HE.out.trans (B2.out.mono HE.out.size)
            have HF : Hid (Below w0.heap.size w0 w3) := y1.trans (hb3.mono y1.size)
            have hplo := HP.out.lo
            have hphi := HP.out.hi
            have hqhi := hq.hi
            clear hq hb3 y1
            by_cases h3 : p = 3
            · have hq' := HL.out.1 h3
              subst h3
              rcases hq' with hq' | hq'
              · subst hq'
                go_wp2_with fail
                go_ret
                exact ⟨rfl, HF.out⟩
              · subst hq'
                go_wp2_with fail
                go_ret
                exact ⟨rfl, HF.out⟩
            · have e3 : ((p : Int) == 3) = false := by rw [beq_eq_false_iff_ne]; omega
              by_cases h30 : p = 30
              · have hq' := HL.out.2.1 h30
                subst h30
                subst hq'
                go_wp2_with fail
                go_ret
                exact ⟨rfl, HF.out⟩
              · have e30 : ((p : Int) == 30) = false := by rw [beq_eq_false_iff_ne]; omega
                have hq' := HL.out.2.2 h3 h30
                subst hq'
                have eq1 : (((p + 1 : Nat) : Int) == (p : Int) + 1) = true := by rw [beq_iff_eq]; omega
                clear h3 h30
                go_wp2_with fail
                go_ret
                exact ⟨by simp, HF.out⟩
end Go.Proofs.Qxb6629065a
