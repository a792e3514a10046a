import Derived.Test.Qxb6628993aSame
namespace Go.Proofs.Qxb6628993a
open Go.RowKit

set_option maxHeartbeats 1600000 in
theorem zz10_any (c hd : Bool) (a : Option Addr) (len cap : Nat) (f : Nat → ByteArray) (a' : Option Addr) (len' cap' : Nat) (f' : Nat → ByteArray) (a'' : Option Addr) (len'' cap'' : Nat) (f'' : Nat → ByteArray) (w : World)
    (h : IsStrs w a len f) (h' : IsStrs w a' len' f') (h'' : IsStrs w a'' len'' f'') :
    Calls Try.prog 10 #[.bool c, .bool hd, .slice a len cap, .slice a' len' cap', .slice a'' len'' cap''] w fun e w' => SomeBool e ∧ w' = w := by
  have hl := h.1
  have hl' := h'.1
  have hl'' := h''.1
  unfold maxLen at hl hl' hl''
  have H : Hid (IsStrs w a len f) := h
  have H' : Hid (IsStrs w a' len' f') := h'
  have H'' : Hid (IsStrs w a'' len'' f'') := h''
  clear h h' h''
  by_cases hz : (1048576 : Int) < (len : Int)
  · go_enter Try.func10, Try.ntmps10
    go_wp2
    go_ret
    exact ⟨⟨false, rfl⟩, rfl⟩
  go_enter Try.func10, Try.ntmps10
  go_wp2
  go_loop [11, 12] (fun s i => ∃ (k : Nat) (n : Int), k ≤ len ∧ i = .int .i64 k ∧ s = .int .i64 n ∧ 0 ≤ n ∧ n ≤ 1048576) (fun _ i => len - (intOf i).toNat)
  case atStart => exact ⟨0, len, by omega, rfl, rfl, by omega, by omega⟩
  case round =>
    obtain ⟨k, n, hk, rfl, rfl, hn0, hn1⟩ := hrel
    by_cases hlt : k < len
    · obtain ⟨b, off, rfl, hb, hc⟩ := H.out.2.2 (by omega)
      have hck := hc k hlt
      have hsz := H.out.2.1 k hlt
      unfold maxLen at hsz
      generalize f k = t at *
      clear hc
      go_wp2
      · go_ret
        exact ⟨⟨false, rfl⟩, rfl⟩
      · go_ret
        exact ⟨⟨false, rfl⟩, rfl⟩
      · go_round
        case rel => exact ⟨k + 1, n + (t.size : Int), by omega, by go_num, rfl, by omega, by omega⟩
        case measure => simp [intOf]; omega
    · by_cases hz' : (1048576 : Int) < (len' : Int)
      · go_wp2
        go_ret
        exact ⟨⟨false, rfl⟩, rfl⟩
      by_cases hy' : (1048576 : Int) < n + (len' : Int)
      · go_wp2
        go_ret
        exact ⟨⟨false, rfl⟩, rfl⟩
      go_wp2
      go_loop [11, 13] (fun s i => ∃ (k : Nat) (n : Int), k ≤ len' ∧ i = .int .i64 k ∧ s = .int .i64 n ∧ 0 ≤ n ∧ n ≤ 1048576) (fun _ i => len' - (intOf i).toNat)
      case atStart => exact ⟨0, n + len', by omega, rfl, rfl, by omega, by omega⟩
      case round =>
        obtain ⟨k', n', hk', rfl, rfl, hn0', hn1'⟩ := hrel
        by_cases hlt' : k' < len'
        · obtain ⟨b', off', rfl, hb', hc'⟩ := H'.out.2.2 (by omega)
          have hck' := hc' k' hlt'
          have hsz' := H'.out.2.1 k' hlt'
          unfold maxLen at hsz'
          generalize f' k' = t' at *
          clear hc'
          go_wp2
          · go_ret
            exact ⟨⟨false, rfl⟩, rfl⟩
          · go_ret
            exact ⟨⟨false, rfl⟩, rfl⟩
          · go_round
            case rel => exact ⟨k' + 1, n' + (t'.size : Int), by omega, by go_num, rfl, by omega, by omega⟩
            case measure => simp [intOf]; omega
        · by_cases hz'' : (1048576 : Int) < (len'' : Int)
          · go_wp2
            go_ret
            exact ⟨⟨false, rfl⟩, rfl⟩
          by_cases hy'' : (1048576 : Int) < n' + (len'' : Int)
          · go_wp2
            go_ret
            exact ⟨⟨false, rfl⟩, rfl⟩
          go_wp2
          go_loop [11, 14] (fun s i => ∃ (k : Nat) (n : Int), k ≤ len'' ∧ i = .int .i64 k ∧ s = .int .i64 n ∧ 0 ≤ n ∧ n ≤ 1048576) (fun _ i => len'' - (intOf i).toNat)
          case atStart => exact ⟨0, n' + len'', by omega, rfl, rfl, by omega, by omega⟩
          case round =>
            obtain ⟨k'', n'', hk'', rfl, rfl, hn0'', hn1''⟩ := hrel
            by_cases hlt'' : k'' < len''
            · obtain ⟨b'', off'', rfl, hb'', hc''⟩ := H''.out.2.2 (by omega)
              have hck'' := hc'' k'' hlt''
              have hsz'' := H''.out.2.1 k'' hlt''
              unfold maxLen at hsz''
              generalize f'' k'' = t'' at *
              clear hc''
              go_wp2
              · go_ret
                exact ⟨⟨false, rfl⟩, rfl⟩
              · go_ret
                exact ⟨⟨false, rfl⟩, rfl⟩
              · go_round
                case rel => exact ⟨k'' + 1, n'' + (t''.size : Int), by omega, by go_num, rfl, by omega, by omega⟩
                case measure => simp [intOf]; omega
            · go_wp2
              go_ret
              exact ⟨⟨true, rfl⟩, rfl⟩

set_option maxHeartbeats 1600000 in
theorem buck_any (c hd : Bool) (a : Option Addr) (len cap : Nat) (f : Nat → ByteArray) (a' : Option Addr) (len' cap' : Nat) (f' : Nat → ByteArray) (a'' : Option Addr) (len'' cap'' : Nat) (f'' : Nat → ByteArray) (w : World)
    (h : IsStrs w a len f) (h' : IsStrs w a' len' f') (h'' : IsStrs w a'' len'' f'') :
    Calls Try.prog 4 #[.bool c, .bool hd, .slice a len cap, .slice a' len' cap', .slice a'' len'' cap''] w fun e w' => e = .returned (.bool true) ∧ Below w.heap.size w w' := by
  have hl := h.1
  have hl' := h'.1
  have hl'' := h''.1
  unfold maxLen at hl hl' hl''
  have H : Hid (IsStrs w a len f) := h
  have H' : Hid (IsStrs w a' len' f') := h'
  have H'' : Hid (IsStrs w a'' len'' f'') := h''
  clear h h' h''
  have q1 := eql_same
  go_enter Try.func4, Try.ntmps4
  go_wp2_with fail
  refine (zz10_any c hd a len cap f a' len' cap' f' a'' len'' cap'' f'' _ H.out H'.out H''.out).mono ?_
  rintro e w0 ⟨⟨r, rfl⟩, rfl⟩
  cases r
  · go_wp2_with fail
    go_ret
    exact ⟨rfl, Below.refl _ _⟩
  go_wp2_with fail
  refine (add_any 0 a len cap f _ H.out (by omega) (by omega)).mono ?_
  rintro e w1 ⟨n, rfl, hn0, rfl⟩
  by_cases hn : (1048576 : Int) < n
  · go_wp2_with fail
    go_ret
    exact ⟨rfl, Below.refl _ _⟩
  go_wp2_with fail
  refine (add_any n a' len' cap' f' _ H'.out (by omega) (by omega)).mono ?_
  rintro e w2 ⟨m, rfl, hm0, rfl⟩
  by_cases hm : (1048576 : Int) < m
  · go_wp2_with fail
    go_ret
    exact ⟨rfl, Below.refl _ _⟩
  go_wp2_with fail
  refine (add_any m a'' len'' cap'' f'' _ H''.out (by omega) (by omega)).mono ?_
  rintro e w2 ⟨m', rfl, hm0', rfl⟩
  by_cases hm' : (1048576 : Int) < m'
  · go_wp2_with fail
    go_ret
    exact ⟨rfl, Below.refl _ _⟩
  by_cases hz : (65536 : Int) < (len : Int)
  · go_wp2_with fail
    go_ret
    exact ⟨rfl, Below.refl _ _⟩
  by_cases hz' : (65536 : Int) < (len' : Int)
  · go_wp2_with fail
    go_ret
    exact ⟨rfl, Below.refl _ _⟩
  by_cases hz'' : (65536 : Int) < (len'' : Int)
  · go_wp2_with fail
    go_ret
    exact ⟨rfl, Below.refl _ _⟩
  cases hd
  · go_wp2_with fail
    refine (life_any a' len' cap' f' _ H'.out (by omega)).mono ?_
    rintro e w4 ⟨L', rfl, hL', hLi', hb4⟩
    have hs4 := hb4.size
    have HL' : Hid (IsLife w4 L' len' f') := hLi'
    clear hLi'
    go_wp2_with fail
    refine (life_any a'' len'' cap'' f'' _ (H''.out.below hb4) (by omega)).mono ?_
    rintro e w5 ⟨L'', rfl, hL'', hLi'', hb5⟩
    have hs5 := hb5.size
    have HL'' : Hid (IsLife w5 L'' len'' f'') := hLi''
    clear hLi''
    have hall5 := hb4.trans (hb5.mono hb4.size)
    cases c
    · go_wp2_with fail
      refine (rules_off _ _ _).mono ?_
      rintro e w6 ⟨rfl, hw6⟩
      go_wp2_with fail
      refine (rules_off _ _ _).mono ?_
      rintro e w7 ⟨rfl, hw7⟩
      have hall6 := hall5.trans (hw6.mono hall5.size)
      go_wp2_with fail
      go_ret
      exact ⟨rfl, hall6.trans (hw7.mono hall6.size)⟩
    · go_wp2_with fail
      refine (rules_buc _ _).mono ?_
      rintro e w6 ⟨rfl, hw6⟩
      go_wp2_with fail
      refine (rules_buc _ _).mono ?_
      rintro e w7 ⟨rfl, hw7⟩
      have hall6 := hall5.trans (hw6.mono hall5.size)
      have hall7 := hall6.trans (hw7.mono hall6.size)
      have HB' : Hid (IsLife w7 L' len' f') := ((HL'.out.below hb5).below hw6).below hw7
      have HB'' : Hid (IsLife w7 L'' len'' f'') := (HL''.out.below hw6).below hw7
      have hlt : L' < w4.heap.size := by obtain ⟨R, h1, _⟩ := HL'.out; exact h1
      have q3 := eql_other L' L'' len' len'' f' f'' w7 HB'.out HB''.out (by omega)
      go_wp2_with fail
      refine (same_any L' a' len' cap' f' _ (H'.out.below hall7) HB'.out (by omega)).mono ?_
      rintro e w8 ⟨rfl, hw8⟩
      have hall8 := hall7.trans (hw8.mono hall7.size)
      go_wp2_with fail
      refine (same_any L'' a'' len'' cap'' f'' _ (H''.out.below hall8) (HB''.out.below hw8) (by omega)).mono ?_
      rintro e w9 ⟨rfl, hw9⟩
      go_wp2_with fail
      go_ret
      exact ⟨rfl, hall8.trans (hw9.mono hall8.size)⟩
  · go_wp2_with fail
    refine (life_any a len cap f _ H.out (by omega)).mono ?_
    rintro e w3 ⟨L, rfl, hL, hLi, hb3⟩
    have hs3 := hb3.size
    have HL : Hid (IsLife w3 L len f) := hLi
    clear hLi
    go_wp2_with fail
    refine (life_any a' len' cap' f' _ (H'.out.below hb3) (by omega)).mono ?_
    rintro e w4 ⟨L', rfl, hL', hLi', hb4⟩
    have hs4 := hb4.size
    have HL' : Hid (IsLife w4 L' len' f') := hLi'
    clear hLi'
    go_wp2_with fail
    refine (life_any a'' len'' cap'' f'' _ (H''.out.below (hb3.trans (hb4.mono hb3.size))) (by omega)).mono ?_
    rintro e w5 ⟨L'', rfl, hL'', hLi'', hb5⟩
    have hs5 := hb5.size
    have HL'' : Hid (IsLife w5 L'' len'' f'') := hLi''
    clear hLi''
    have hall5 := (hb3.trans (hb4.mono hb3.size)).trans (hb5.mono (hb3.trans (hb4.mono hb3.size)).size)
    cases c
    · go_wp2_with fail
      refine (rules_off _ _ _).mono ?_
      rintro e w6 ⟨rfl, hw6⟩
      go_wp2_with fail
      refine (rules_off _ _ _).mono ?_
      rintro e w7 ⟨rfl, hw7⟩
      have hall6 := hall5.trans (hw6.mono hall5.size)
      go_wp2_with fail
      go_ret
      exact ⟨rfl, hall6.trans (hw7.mono hall6.size)⟩
    · go_wp2_with fail
      refine (rules_dom L _ _).mono ?_
      rintro e w6 ⟨rfl, hw6⟩
      go_wp2_with fail
      refine (rules_dom L _ _).mono ?_
      rintro e w7 ⟨rfl, hw7⟩
      have hall6 := hall5.trans (hw6.mono hall5.size)
      have hall7 := hall6.trans (hw7.mono hall6.size)
      go_wp2_with fail
      refine (same_any L a len cap f _ (H.out.below hall7) ((((HL.out.below hb4).below hb5).below hw6).below hw7) (by omega)).mono ?_
      rintro e w8 ⟨rfl, hw8⟩
      go_wp2_with fail
      go_ret
      exact ⟨rfl, hall7.trans (hw8.mono hall7.size)⟩
end Go.Proofs.Qxb6628993a
