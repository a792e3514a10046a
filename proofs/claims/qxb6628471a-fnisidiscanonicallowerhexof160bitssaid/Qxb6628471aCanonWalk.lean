import Derived.Test.Qxb6628471aSplitWalk
import Derived.Lib.Strings
namespace Go.Proofs.Qxb6628471a
open Go.RowKit Go.Deep

theorem zz5_yes (s : ByteArray) (w : World) (h : s.size ≤ 1048576) : Calls Try.prog 5 #[.string s] w fun e w' => e = .returned (.bool true) ∧ w' = w := by
  have h1 : ¬ (1048576 : Int) < (s.size : Int) := by omega
  go_enter Try.func5, Try.ntmps5
  go_wp2
  go_ret
  exact ⟨rfl, rfl⟩
theorem zz5_no (s : ByteArray) (w : World) (h : 1048576 < s.size) : Calls Try.prog 5 #[.string s] w fun e w' => e = .returned (.bool false) ∧ w' = w := by
  have h1 : (1048576 : Int) < (s.size : Int) := by omega
  go_enter Try.func5, Try.ntmps5
  go_wp2
  go_ret
  exact ⟨rfl, rfl⟩
/-- is it a hex digit of either case? its value? -/
def nibOk (c : Nat) : Bool := (decide (48 ≤ c) && decide (c ≤ 57)) || (decide (97 ≤ c) && decide (c ≤ 102)) || (decide (65 ≤ c) && decide (c ≤ 70))
def nibN (c : Nat) : Nat := if c ≤ 57 then c - 48 else if c ≤ 70 then c - 55 else c - 87
theorem nib_yes (c : Nat) (w : World) (hc : nibOk c = true) :
    Calls Try.prog 8 #[.int .u8 (c : Int)] w fun e w' => ∃ x : Nat, e = .returned (.tuple #[.int .u8 (x : Int), .bool true]) ∧ x < 16 ∧ Hid (x = nibN c) ∧ w' = w := by
  have h : (48 ≤ c ∧ c ≤ 57) ∨ (97 ≤ c ∧ c ≤ 102) ∨ (65 ≤ c ∧ c ≤ 70) := by
    unfold nibOk at hc; simp at hc; omega
  clear hc
  rcases h with ⟨h1, h2⟩ | ⟨h1, h2⟩ | ⟨h1, h2⟩
  · go_enter Try.func8, Try.ntmps8
    go_wp2
    go_ret2
    exact ⟨c - 48, by rw [show ((c - 48 : Nat) : Int) = (c : Int) - 48 from by omega]; rfl, by omega, by show _ = _; unfold nibN; rw [if_pos h2], rfl⟩
  · go_enter Try.func8, Try.ntmps8
    go_wp2
    go_ret2
    exact ⟨c - 87, by rw [show ((c - 87 : Nat) : Int) = (c : Int) - 97 + 10 from by omega]; rfl, by omega, by show _ = _; unfold nibN; rw [if_neg (by omega), if_neg (by omega)], rfl⟩
  · go_enter Try.func8, Try.ntmps8
    go_wp2
    go_ret2
    exact ⟨c - 55, by rw [show ((c - 55 : Nat) : Int) = (c : Int) - 65 + 10 from by omega]; rfl, by omega, by show _ = _; unfold nibN; rw [if_neg (by omega), if_pos (by omega)], rfl⟩
theorem nib_no (c : Nat) (w : World) (hc : nibOk c = false) :
    Calls Try.prog 8 #[.int .u8 (c : Int)] w fun e w' => e = .returned (.tuple #[.int .u8 0, .bool false]) ∧ w' = w := by
  have h : ¬ ((48 ≤ c ∧ c ≤ 57) ∨ (97 ≤ c ∧ c ≤ 102) ∨ (65 ≤ c ∧ c ≤ 70)) := by
    unfold nibOk at hc; simp at hc; omega
  clear hc
  rcases (show c < 48 ∨ (57 < c ∧ c < 65) ∨ (70 < c ∧ c < 97) ∨ 102 < c from by omega) with h1 | h1 | h1 | h1
  all_goals
    clear h
    go_enter Try.func8, Try.ntmps8
    go_wp2
    go_ret2
    exact ⟨rfl, rfl⟩

/-- the k first decoded bytes, then noughts up to twenty -/
def decAt (s : List UInt8) (i : Nat) : UInt8 := UInt8.ofNat (nibN (s.getD (2 * i) 0).toNat * 16 + nibN (s.getD (2 * i + 1) 0).toNat)
def decTo (s : List UInt8) (k : Nat) : List UInt8 := (List.range 20).map (fun i => if i < k then decAt s i else 0)
theorem decTo_len (s : List UInt8) (k : Nat) : (decTo s k).length = 20 := by simp [decTo]
theorem zero20_dec (s : List UInt8) : zero20 = cellsOf (decTo s 0) := by simp [zero20, cellsOf, decTo, List.range, List.range.loop, B]
theorem render_C (C : Array Value) (l : List UInt8) (w : World) (hl : l.length = 20) (hC : C = cellsOf l) : Calls Try.prog 6 #[.agg C] w fun e w' => ∃ W : ByteArray, e = .returned (.string W) ∧ W.size = 40 ∧ Hid (W.data.toList = renderL l) ∧ Below w.heap.size w w' := by
  subst hC; exact render_ex l w hl

theorem nib_gen (c : Nat) (w : World) : Calls Try.prog 8 #[.int .u8 (c : Int)] w fun e w' => ∃ (x : Int) (b : Bool), e = .returned (.tuple #[.int .u8 x, .bool b]) ∧ w' = w := by
  cases h : nibOk c
  · exact (nib_no c w h).mono fun e w' ⟨he, hw⟩ => ⟨0, false, he, hw⟩
  · exact (nib_yes c w h).mono fun e w' ⟨x, he, _, _, hw⟩ => ⟨x, true, he, hw⟩
theorem or_dec (x y : Nat) (hx : x < 16) (hy : y < 16) : bits .or .u8 ((x : Int) * 16) (y : Int) = ((UInt8.ofNat (x * 16 + y)).toNat : Int) := by
  have : ∀ a b : Fin 16, bits .or .u8 ((a.val : Int) * 16) (b.val : Int) = ((UInt8.ofNat (a.val * 16 + b.val)).toNat : Int) := by decide +kernel
  exact this ⟨x, hx⟩ ⟨y, hy⟩
theorem list_at (s : ByteArray) (k : Nat) (h : k < s.size) : s.data.toList.getD k 0 = s[k] := by
  rw [List.getD_eq_getElem?_getD, Array.getElem?_toList, Array.getElem?_eq_getElem (show k < s.data.size from h)]; rfl
theorem decTo_step (s : ByteArray) (k : Nat) (C : Array Value) (hC : C = cellsOf (decTo s.data.toList k)) (h0 : 2 * k < s.size) (h1 : 2 * k + 1 < s.size) (x y : Nat) (hx : x < 16) (hy : y < 16)
    (ex : x = nibN s[2 * k].toNat) (ey : y = nibN s[2 * k + 1].toNat) :
    C.setIfInBounds k (.int .u8 (bits .or .u8 ((x : Int) * 16) (y : Int))) = cellsOf (decTo s.data.toList (k + 1)) := by
  rw [or_dec x y hx hy]
  subst hC
  apply Array.ext
  · simp [cellsOf_size, decTo_len]
  · intro i g1 g2
    have hi : i < 20 := by simpa [cellsOf_size, decTo_len] using g2
    have hz : (cellsOf (decTo s.data.toList k)).size = 20 := by rw [cellsOf_size, decTo_len]
    have e1 : ∀ m, (decTo s.data.toList m).getD i 0 = if i < m then decAt s.data.toList i else 0 := by
      intro m; simp [decTo, List.getElem?_range hi]
    have r : (cellsOf (decTo s.data.toList (k + 1)))[i]'g2 = .int .u8 ((if i < k + 1 then decAt s.data.toList i else 0 : UInt8).toNat : Int) := by rw [cellsOf_at, e1]
    rw [Array.getElem_setIfInBounds (by rw [hz]; exact hi), r]
    by_cases e : k = i
    · subst e
      rw [if_pos rfl, if_pos (by omega)]
      unfold decAt
      rw [list_at s _ h0, list_at s _ h1, ex, ey]
    · rw [if_neg e, cellsOf_at, e1]
      by_cases h3 : i < k
      · rw [if_pos h3, if_pos (by omega)]
      · rw [if_neg h3, if_neg (by omega)]
theorem nib_not_hex (c : UInt8) (h : nibOk c.toNat = false) : Plain.isHex c = false := by
  unfold nibOk at h
  unfold Plain.isHex
  rw [Bool.or_eq_false_iff] at h
  exact h.1
theorem nib_canon (n : Nat) (hn : n < 256) (h : nibOk n = true) : (Plain.isHex (UInt8.ofNat n) = true ↔ hexd (nibN n) = UInt8.ofNat n) ∧ nibN n < 16 := by
  have : ∀ a : Fin 256, nibOk a.val = true → (Plain.isHex (UInt8.ofNat a.val) = true ↔ hexd (nibN a.val) = UInt8.ofNat a.val) ∧ nibN a.val < 16 := by decide +kernel
  exact this ⟨n, hn⟩ h
theorem nib_canon' (c : UInt8) (h : nibOk c.toNat = true) : (Plain.isHex c = true ↔ hexd (nibN c.toNat) = c) ∧ nibN c.toNat < 16 := by
  have := nib_canon c.toNat (UInt8.toNat_lt c) h
  rwa [UInt8.ofNat_toNat] at this
theorem dec_digit (s : List UInt8) (hn : ∀ j, j < 40 → nibOk (s.getD j 0).toNat = true) (j : Nat) (hj : j < 40) : (renderL (decTo s 20)).getD j 0 = hexd (nibN (s.getD j 0).toNat) := by
  have e0 : (renderL (decTo s 20)).getD j 0 = digit (decTo s 20) j := by simp [renderL, List.getElem?_range hj]
  have hj2 : j / 2 < 20 := by omega
  have e1 : (decTo s 20).getD (j / 2) 0 = decAt s (j / 2) := by simp [decTo, List.getElem?_range hj2]; omega
  have a0 := (nib_canon' _ (hn (2 * (j / 2)) (by omega))).2
  have a1 := (nib_canon' _ (hn (2 * (j / 2) + 1) (by omega))).2
  have e2 : (decAt s (j / 2)).toNat = nibN (s.getD (2 * (j / 2)) 0).toNat * 16 + nibN (s.getD (2 * (j / 2) + 1) 0).toNat := by
    unfold decAt
    rw [UInt8.toNat_ofNat']
    omega
  rw [e0]
  unfold digit
  rw [e1, e2]
  by_cases h : j % 2 = 0
  · rw [if_pos h]
    have ej : 2 * (j / 2) = j := by omega
    rw [ej] at a0 a1 ⊢
    congr 1
    omega
  · rw [if_neg h]
    have ej : 2 * (j / 2) + 1 = j := by omega
    rw [ej] at a1 ⊢
    congr 1
    omega
theorem canon_law (s : List UInt8) (hs : s.length = 40) (hn : ∀ j, j < 40 → nibOk (s.getD j 0).toNat = true) : Plain.isID s = (renderL (decTo s 20) == s) := by
  have hl := renderL_len (decTo s 20)
  have key : ∀ j, j < 40 → ((renderL (decTo s 20)).getD j 0 = s.getD j 0 ↔ Plain.isHex (s.getD j 0) = true) := by
    intro j hj
    rw [dec_digit s hn j hj]
    exact (nib_canon' _ (hn j hj)).1.symm
  have gd : ∀ (l : List UInt8) (j : Nat) (h : j < l.length), l.getD j 0 = l[j] := fun l j h => by
    rw [List.getD_eq_getElem?_getD, List.getElem?_eq_getElem h]; rfl
  rw [Bool.eq_iff_iff, beq_iff_eq]
  constructor
  · intro h
    have ha : ∀ c ∈ s, Plain.isHex c = true := by
      have : s.all Plain.isHex = true := by
        unfold Plain.isID at h
        rw [Bool.and_eq_true] at h
        exact h.2
      exact List.all_eq_true.1 this
    apply List.ext_getElem (by omega)
    intro j h1 h2
    have := (key j (by omega)).2 (by rw [gd s j h2]; exact ha _ (List.getElem_mem h2))
    rw [gd _ j h1, gd _ j h2] at this
    exact this
  · intro h
    refine Plain.isID_all s hs (fun c hc => ?_)
    have hc' := List.mem_of_mem_take hc
    obtain ⟨j, hj, rfl⟩ := List.getElem_of_mem hc'
    have := (key j (by omega)).1 (by rw [h])
    rwa [gd s j hj] at this
theorem bytes_toList (s : ByteArray) : s.toList = s.data.toList := by
  have := Go.Lib.toList_data s
  exact this
theorem canon_fin (s V : ByteArray) (k : Nat) (hk : k = 20) (hs : s.size = 40) (hn : ∀ j (hj : j < s.size), j < 2 * k → nibOk s[j].toNat = true) (hV : V.data.toList = renderL (decTo s.data.toList k)) :
    Plain.isID s.data.toList = (V.toList == s.toList) := by
  subst hk
  rw [bytes_toList, bytes_toList, hV]
  refine canon_law _ (by rw [size_len]; exact hs) (fun j hj => ?_)
  rw [list_at s j (by omega)]
  exact hn j (by omega) (by omega)

theorem wpList_load_row_g {P : Program} {ops : Array Oper} {rest : List Oper} {o : Oper} {a : Act} {w : World} {Q : Exit → Act → World → Prop} (hw : Region.wanted o (yielded ops a.tmps) = true) (ty : TypeId) (x : Operand) (ho : o.op = .load ty x)
    (g : Nat) (hx : a.eval x = .pointer (some ⟨g, 0, none⟩)) (t : TypeId) (cs : Array Value) (fr : Nat × Nat) (d : TypeDesc) (hg : w.heap[g]? = some (.cells cs t fr))
    (hu : P.underlying ty = some d) (hd : (match d with | .struct _ | .array _ _ => true | _ => false) = true) (hi : (P.info? ty).map (·.size) = some cs.size)
    (h : wpList P ops Q rest (a.put o.dst (.agg cs)) w) : wpList P ops Q (o :: rest) a w :=
  wpList_step fun K hK => by
    rw [if_pos hw]
    exact wp_load_row ty x ho g hx t cs fr d hg hu hd hi (hK _ _ h)

set_option maxHeartbeats 800000 in
theorem canon40 (s : ByteArray) (w : World) (hs : s.size = 40) :
    Calls Try.prog 3 #[.string s] w fun e w' => e = .returned (.bool true) ∧ Below w.heap.size w w' := by
  have h1 : ¬ (1048576 : Int) < (s.size : Int) := by omega
  have h4 : ((s.size : Int) == 40) = true := by simp [hs]
  have hs1 : s.size ≤ 40 := by omega
  have hs2 : 40 ≤ s.size := by omega
  have HS : Hid (s.size = 40) := hs
  clear hs
  go_enter Try.func3, Try.ntmps3
  go_wp2_with fail
  refine (zz5_yes s _ (by omega)).mono ?_
  rintro e w0 ⟨rfl, rfl⟩
  go_wp2_with fail
  refine (seed_any s _ (by omega)).mono ?_
  rintro e w1 ⟨rfl, hb1⟩
  go_wp2_with fail
  refine (render_ex _ _ (seedL_len _)).mono ?_
  rintro e w2 ⟨W, rfl, hW, HL, hb2⟩
  have hb : Below w0.heap.size w0 w2 := hb1.trans (hb2.mono hb1.size)
  clear hb1 hb2 hW
  have HI : Hid (Plain.isID W.data.toList = true) := by rw [HL.out]; exact render_id _
  go_wp2_with fail
  go_loopw [6, 7] (fun ok i wr => ∃ (k : Nat) (C : Array Value), k ≤ 20 ∧ ok = .bool true ∧ i = .int .i64 k ∧ C.size = 20 ∧ Hid (C = cellsOf (decTo s.data.toList k)) ∧ Hid (∀ j (hj : j < s.size), j < 2 * k → nibOk s[j].toNat = true) ∧ wr = w2.alloc (.cells C 24)) (fun _ i _ => 20 - (intOf i).toNat)
  case atStart => exact ⟨0, zero20, by omega, rfl, rfl, rfl, zero20_dec _, (fun j _ hj => absurd hj (by omega)), rfl⟩
  case round =>
    obtain ⟨k, C, hk, rfl, rfl, hC, HC, HN, rfl⟩ := hrel
    by_cases hlt : k < 20
    · have hi0 : 2 * k < s.size := by omega
      have hi1 : 2 * k + 1 < s.size := by omega
      obtain ⟨v1, hv1⟩ : ∃ v, C[k]? = some v := ⟨_, Array.getElem?_eq_getElem (by omega)⟩
      cases hn0 : nibOk s[2 * k].toNat
      · have HN0 : Hid (_ = _) := hn0
        clear hn0
        go_wp2_with fail
        refine (nib_no _ _ HN0.out).mono ?_
        rintro e w3 ⟨rfl, rfl⟩
        go_wp2_with fail
        refine (nib_gen _ _).mono ?_
        rintro e w3 ⟨x, b, rfl, rfl⟩
        have HF : Hid (Plain.isID s.data.toList = false) := Plain.isID_not _ s[2 * k] (mem_at s _ hi0) (nib_not_hex _ HN0.out)
        go_wp2_with fail
        refine (isid_any _ _).mono ?_
        rintro e w3 ⟨rfl, rfl⟩
        rw [HI.out]
        go_wp2_with fail
        refine (isid_any _ _).mono ?_
        rintro e w3 ⟨rfl, rfl⟩
        rw [HF.out]
        go_wp2_with fail
        go_ret
        exact ⟨rfl, hb.alloc hb.size _⟩
      · have HN0 : Hid (_ = _) := hn0
        clear hn0
        cases hn1 : nibOk s[2 * k + 1].toNat
        · have HN1 : Hid (_ = _) := hn1
          clear hn1
          go_wp2_with fail
          refine (nib_yes _ _ HN0.out).mono ?_
          rintro e w3 ⟨x, rfl, hx, HX, rfl⟩
          go_wp2_with fail
          refine (nib_no _ _ HN1.out).mono ?_
          rintro e w3 ⟨rfl, rfl⟩
          have HF : Hid (Plain.isID s.data.toList = false) := Plain.isID_not _ s[2 * k + 1] (mem_at s _ hi1) (nib_not_hex _ HN1.out)
          go_wp2_with fail
          refine (isid_any _ _).mono ?_
          rintro e w3 ⟨rfl, rfl⟩
          rw [HI.out]
          go_wp2_with fail
          refine (isid_any _ _).mono ?_
          rintro e w3 ⟨rfl, rfl⟩
          rw [HF.out]
          go_wp2_with fail
          go_ret
          exact ⟨rfl, hb.alloc hb.size _⟩
        · have HN1 : Hid (_ = _) := hn1
          clear hn1
          go_wp2_with fail
          refine (nib_yes _ _ HN0.out).mono ?_
          rintro e w3 ⟨x, rfl, hx, HX, rfl⟩
          go_wp2_with fail
          refine (nib_yes _ _ HN1.out).mono ?_
          rintro e w3 ⟨y, rfl, hy, HY, rfl⟩
          go_wp2_with fail
          go_roundw
          case rel =>
            exact ⟨k + 1, _, by omega, rfl, by go_num, by simp [hC], decTo_step s k C HC.out hi0 hi1 x y hx hy HX.out HY.out, (fun j hj h2 => by
              by_cases a : j < 2 * k
              · exact HN.out j hj a
              · by_cases b : j = 2 * k
                · subst b; exact HN0.out
                · have : j = 2 * k + 1 := by omega
                  subst this; exact HN1.out), rfl⟩
          case measure => simp [intOf]; omega
    · go_wp2_with (refine wpList_load_row_g rfl 24 (.tmp 5) rfl w2.heap.size rfl 24 C (0, 0) (.array 20 5) (heap_alloc_new w2 _) Try.underlying24 rfl (by rw [hC]; exact info24) ?_)
      refine (render_C C _ _ (decTo_len _ _) HC.out).mono ?_
      rintro e w3 ⟨V, rfl, hV, HV, hb3⟩
      have HF : Hid (_ = _) := canon_fin s V k (by omega) HS.out HN.out HV.out
      have hbf : Below w0.heap.size w0 w3 := (hb.alloc hb.size _).trans (hb3.mono (by have := hb.size; simp; omega))
      clear hb3 hV
      go_wp2_with fail
      refine (isid_any _ _).mono ?_
      rintro e w4 ⟨rfl, rfl⟩
      rw [HI.out]
      go_wp2_with fail
      refine (isid_any _ _).mono ?_
      rintro e w4 ⟨rfl, rfl⟩
      rw [HF.out]
      generalize (V.toList == s.toList) = b at *
      cases b
      · go_wp2_with fail
        go_ret
        exact ⟨rfl, hbf⟩
      · go_wp2_with fail
        go_ret
        exact ⟨rfl, hbf⟩

set_option maxHeartbeats 400000 in
theorem canon_short (s : ByteArray) (w : World) (hs : s.size ≠ 40) (hz : s.size ≤ 1048576) :
    Calls Try.prog 3 #[.string s] w fun e w' => e = .returned (.bool true) ∧ Below w.heap.size w w' := by
  have h1 : ¬ (1048576 : Int) < (s.size : Int) := by omega
  have h4 : ((s.size : Int) == 40) = false := by rw [beq_eq_false_iff_ne]; omega
  have HS : Hid (Plain.isID s.data.toList = false) := Plain.isID_len _ (by rw [size_len]; exact hs)
  clear hs
  go_enter Try.func3, Try.ntmps3
  go_wp2_with fail
  refine (zz5_yes s _ (by omega)).mono ?_
  rintro e w0 ⟨rfl, rfl⟩
  go_wp2_with fail
  refine (seed_any s _ (by omega)).mono ?_
  rintro e w1 ⟨rfl, hb1⟩
  go_wp2_with fail
  refine (render_ex _ _ (seedL_len _)).mono ?_
  rintro e w2 ⟨W, rfl, hW, HL, hb2⟩
  have hb : Below w0.heap.size w0 w2 := hb1.trans (hb2.mono hb1.size)
  clear hb1 hb2 hW
  have HI : Hid (Plain.isID W.data.toList = true) := by rw [HL.out]; exact render_id _
  go_wp2_with fail
  refine (isid_any _ _).mono ?_
  rintro e w3 ⟨rfl, rfl⟩
  rw [HI.out]
  go_wp2_with fail
  refine (isid_any _ _).mono ?_
  rintro e w4 ⟨rfl, rfl⟩
  rw [HS.out]
  go_wp2_with fail
  go_ret
  exact ⟨rfl, hb⟩
set_option maxHeartbeats 400000 in
theorem canon_long (s : ByteArray) (w : World) (hz : 1048576 < s.size) :
    Calls Try.prog 3 #[.string s] w fun e w' => e = .returned (.bool true) ∧ Below w.heap.size w w' := by
  go_enter Try.func3, Try.ntmps3
  go_wp2_with fail
  refine (zz5_no s _ (by omega)).mono ?_
  rintro e w0 ⟨rfl, rfl⟩
  go_wp2_with fail
  go_ret
  exact ⟨rfl, Below.refl _ _⟩
theorem canon_any (s : ByteArray) (w : World) :
    Calls Try.prog 3 #[.string s] w fun e w' => e = .returned (.bool true) ∧ Below w.heap.size w w' := by
  by_cases hz : s.size ≤ 1048576
  · by_cases h40 : s.size = 40
    · exact canon40 s w h40
    · exact canon_short s w h40 hz
  · exact canon_long s w (by omega)
end Go.Proofs.Qxb6628471a
