import Derived.Test.Qxb6628993aSame
namespace Go.Proofs.Qxb6628993a
open Go.RowKit

set_option maxHeartbeats 1600000 in
theorem fall_any (c hd : Bool) (a : Option Addr) (len cap : Nat) (f : Nat → ByteArray) (hbk : Bool) (a' : Option Addr) (len' cap' : Nat) (f' : Nat → ByteArray) (w : World) (h : IsStrs w a len f) (h' : IsStrs w a' len' f') :
    Calls Try.prog 3 #[.bool c, .bool hd, .slice a len cap, .bool hbk, .slice a' len' cap'] w fun e w' => e = .returned (.bool true) ∧ Below w.heap.size w w' := by
  have hl := h.1
  have hl' := h'.1
  unfold maxLen at hl hl'
  have H : Hid (IsStrs w a len f) := h
  have H' : Hid (IsStrs w a' len' f') := h'
  clear h h'
  have q1 := eql_same
  have q2 := neq_same
  go_enter Try.func3, Try.ntmps3
  go_wp2_with fail
  refine (zz5_any c hd a len cap f hbk a' len' cap' f' _ H.out H'.out).mono ?_
  rintro e w0 ⟨⟨r, rfl⟩, rfl⟩
  cases r
  · go_wp2_with fail
    go_ret
    exact ⟨rfl, Below.refl _ _⟩
  go_wp2_with fail
  refine (add_any 0 a len cap f _ H.out (by omega) (by omega)).mono ?_
  rintro e w1 ⟨n, rfl, hn0, rfl⟩
  by_cases hn : (1048576 : Int) < n
  · go_wp2_with fail
    go_ret
    exact ⟨rfl, Below.refl _ _⟩
  go_wp2_with fail
  refine (add_any n a' len' cap' f' _ H'.out (by omega) (by omega)).mono ?_
  rintro e w2 ⟨m, rfl, hm0, rfl⟩
  by_cases hm : (1048576 : Int) < m
  · go_wp2_with fail
    go_ret
    exact ⟨rfl, Below.refl _ _⟩
  by_cases hz : (65536 : Int) < (len : Int)
  · go_wp2_with fail
    go_ret
    exact ⟨rfl, Below.refl _ _⟩
  by_cases hz' : (65536 : Int) < (len' : Int)
  · go_wp2_with fail
    go_ret
    exact ⟨rfl, Below.refl _ _⟩
  cases hd
  · cases hbk
    · cases c
      · go_wp2_with fail
        refine (rules_off _ _ _).mono ?_
        rintro e w5 ⟨rfl, hw5⟩
        go_wp2_with fail
        refine (rules_buc _ _).mono ?_
        rintro e w6 ⟨rfl, hw6⟩
        go_wp2_with fail
        refine (rules_off _ _ _).mono ?_
        rintro e w7 ⟨rfl, hw7⟩
        go_wp2_with fail
        go_ret
        exact ⟨rfl, ((hw5.trans (hw6.mono (hw5).size)).trans (hw7.mono ((hw5.trans (hw6.mono (hw5).size))).size))⟩
      · go_wp2_with fail
        refine (rules_buc _ _).mono ?_
        rintro e w5 ⟨rfl, hw5⟩
        go_wp2_with fail
        refine (rules_buc _ _).mono ?_
        rintro e w6 ⟨rfl, hw6⟩
        go_wp2_with fail
        refine (rules_buc _ _).mono ?_
        rintro e w7 ⟨rfl, hw7⟩
        go_wp2_with fail
        go_ret
        exact ⟨rfl, ((hw5.trans (hw6.mono (hw5).size)).trans (hw7.mono ((hw5.trans (hw6.mono (hw5).size))).size))⟩
    · go_wp2_with fail
      refine (life_any a' len' cap' f' _ H'.out (by omega)).mono ?_
      rintro e w4 ⟨L', rfl, hL', hLi', hb4⟩
      have hs4 := hb4.size
      have HLi' : Hid (IsLife w4 L' len' f') := hLi'
      clear hLi'
      cases c
      · go_wp2_with fail
        refine (rules_off _ _ _).mono ?_
        rintro e w5 ⟨rfl, hw5⟩
        go_wp2_with fail
        refine (rules_buc _ _).mono ?_
        rintro e w6 ⟨rfl, hw6⟩
        go_wp2_with fail
        refine (rules_off _ _ _).mono ?_
        rintro e w7 ⟨rfl, hw7⟩
        go_wp2_with fail
        go_ret
        exact ⟨rfl, (((hb4.trans (hw5.mono (hb4).size)).trans (hw6.mono ((hb4.trans (hw5.mono (hb4).size))).size)).trans (hw7.mono (((hb4.trans (hw5.mono (hb4).size)).trans (hw6.mono ((hb4.trans (hw5.mono (hb4).size))).size))).size))⟩
      · go_wp2_with fail
        refine (rules_buc _ _).mono ?_
        rintro e w5 ⟨rfl, hw5⟩
        go_wp2_with fail
        refine (rules_buc _ _).mono ?_
        rintro e w6 ⟨rfl, hw6⟩
        go_wp2_with fail
        refine (rules_buc _ _).mono ?_
        rintro e w7 ⟨rfl, hw7⟩
        have hall := (((hb4.trans (hw5.mono (hb4).size)).trans (hw6.mono ((hb4.trans (hw5.mono (hb4).size))).size)).trans (hw7.mono (((hb4.trans (hw5.mono (hb4).size)).trans (hw6.mono ((hb4.trans (hw5.mono (hb4).size))).size))).size))
        go_wp2_with fail
        refine (same_any L' a' len' cap' f' _ (H'.out.below hall) (((HLi'.out.below hw5).below hw6).below hw7) (by omega)).mono ?_
        rintro e w8 ⟨rfl, hw8⟩
        go_wp2_with fail
        go_ret
        exact ⟨rfl, hall.trans (hw8.mono hall.size)⟩
  · cases hbk
    · go_wp2_with fail
      refine (life_any a len cap f _ H.out (by omega)).mono ?_
      rintro e w3 ⟨L, rfl, hL, hLi, hb3⟩
      have hs3 := hb3.size
      have HLi : Hid (IsLife w3 L len f) := hLi
      clear hLi
      cases c
      · go_wp2_with fail
        refine (rules_off _ _ _).mono ?_
        rintro e w5 ⟨rfl, hw5⟩
        go_wp2_with fail
        refine (rules_dom L _ _).mono ?_
        rintro e w6 ⟨rfl, hw6⟩
        go_wp2_with fail
        refine (rules_off _ _ _).mono ?_
        rintro e w7 ⟨rfl, hw7⟩
        go_wp2_with fail
        go_ret
        exact ⟨rfl, (((hb3.trans (hw5.mono (hb3).size)).trans (hw6.mono ((hb3.trans (hw5.mono (hb3).size))).size)).trans (hw7.mono (((hb3.trans (hw5.mono (hb3).size)).trans (hw6.mono ((hb3.trans (hw5.mono (hb3).size))).size))).size))⟩
      · go_wp2_with fail
        refine (rules_dom L _ _).mono ?_
        rintro e w5 ⟨rfl, hw5⟩
        go_wp2_with fail
        refine (rules_dom L _ _).mono ?_
        rintro e w6 ⟨rfl, hw6⟩
        go_wp2_with fail
        refine (rules_buc _ _).mono ?_
        rintro e w7 ⟨rfl, hw7⟩
        have hall := (((hb3.trans (hw5.mono (hb3).size)).trans (hw6.mono ((hb3.trans (hw5.mono (hb3).size))).size)).trans (hw7.mono (((hb3.trans (hw5.mono (hb3).size)).trans (hw6.mono ((hb3.trans (hw5.mono (hb3).size))).size))).size))
        go_wp2_with fail
        refine (same_any L a len cap f _ (H.out.below hall) (((HLi.out.below hw5).below hw6).below hw7) (by omega)).mono ?_
        rintro e w8 ⟨rfl, hw8⟩
        go_wp2_with fail
        go_ret
        exact ⟨rfl, hall.trans (hw8.mono hall.size)⟩
    · go_wp2_with fail
      refine (life_any a len cap f _ H.out (by omega)).mono ?_
      rintro e w3 ⟨L, rfl, hL, hLi, hb3⟩
      have hs3 := hb3.size
      go_wp2_with fail
      refine (life_any a' len' cap' f' _ (H'.out.below hb3) (by omega)).mono ?_
      rintro e w4 ⟨L', rfl, hL', hLi', hb4⟩
      have hs4 := hb4.size
      have HLi : Hid (IsLife w3 L len f) := hLi
      clear hLi
      have HLi' : Hid (IsLife w4 L' len' f') := hLi'
      clear hLi'
      cases c
      · go_wp2_with fail
        refine (rules_off _ _ _).mono ?_
        rintro e w5 ⟨rfl, hw5⟩
        go_wp2_with fail
        refine (rules_dom L _ _).mono ?_
        rintro e w6 ⟨rfl, hw6⟩
        go_wp2_with fail
        refine (rules_off _ _ _).mono ?_
        rintro e w7 ⟨rfl, hw7⟩
        go_wp2_with fail
        go_ret
        exact ⟨rfl, ((((hb3.trans (hb4.mono (hb3).size)).trans (hw5.mono ((hb3.trans (hb4.mono (hb3).size))).size)).trans (hw6.mono (((hb3.trans (hb4.mono (hb3).size)).trans (hw5.mono ((hb3.trans (hb4.mono (hb3).size))).size))).size)).trans (hw7.mono ((((hb3.trans (hb4.mono (hb3).size)).trans (hw5.mono ((hb3.trans (hb4.mono (hb3).size))).size)).trans (hw6.mono (((hb3.trans (hb4.mono (hb3).size)).trans (hw5.mono ((hb3.trans (hb4.mono (hb3).size))).size))).size))).size))⟩
      · go_wp2_with fail
        refine (rules_dom L _ _).mono ?_
        rintro e w5 ⟨rfl, hw5⟩
        go_wp2_with fail
        refine (rules_dom L _ _).mono ?_
        rintro e w6 ⟨rfl, hw6⟩
        go_wp2_with fail
        refine (rules_buc _ _).mono ?_
        rintro e w7 ⟨rfl, hw7⟩
        have hall := ((((hb3.trans (hb4.mono (hb3).size)).trans (hw5.mono ((hb3.trans (hb4.mono (hb3).size))).size)).trans (hw6.mono (((hb3.trans (hb4.mono (hb3).size)).trans (hw5.mono ((hb3.trans (hb4.mono (hb3).size))).size))).size)).trans (hw7.mono ((((hb3.trans (hb4.mono (hb3).size)).trans (hw5.mono ((hb3.trans (hb4.mono (hb3).size))).size)).trans (hw6.mono (((hb3.trans (hb4.mono (hb3).size)).trans (hw5.mono ((hb3.trans (hb4.mono (hb3).size))).size))).size))).size))
        go_wp2_with fail
        refine (same_any L a len cap f _ (H.out.below hall) ((((HLi.out.below hb4).below hw5).below hw6).below hw7) (by omega)).mono ?_
        rintro e w8 ⟨rfl, hw8⟩
        go_wp2_with fail
        go_ret
        exact ⟨rfl, hall.trans (hw8.mono hall.size)⟩
end Go.Proofs.Qxb6628993a
