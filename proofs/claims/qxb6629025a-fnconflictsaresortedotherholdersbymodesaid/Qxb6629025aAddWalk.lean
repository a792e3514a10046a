import Derived.Test.Qxb6629025aConf
namespace Go.Proofs.Qxb6629025a
open Go.RowKit Go.Maps

theorem zz14_any (a : Option Addr) (len cap : Nat) (a' : Option Addr) (len' cap' : Nat) (t : Int) (key : ByteArray) (md ex em : Int) (w : World) (h0 : len ≤ maxLen) (h1 : len' ≤ maxLen) (h2 : key.size ≤ maxLen) :
    Calls Try.prog 14 #[.slice a len cap, .slice a' len' cap', .int .i64 t, .string key, .int .i64 md, .int .i64 ex, .int .i64 em] w fun e w' => SomeBool e ∧ w' = w := by
  unfold maxLen at h0 h1 h2
  go_enter Try.func14, Try.ntmps14
  go_wp2
  all_goals (go_ret; first | exact ⟨⟨false, rfl⟩, rfl⟩ | exact ⟨⟨true, rfl⟩, rfl⟩)

theorem asc_filter {l : List Int} (h : Asc l) (p : Int → Bool) : Asc (l.filter p) := List.Pairwise.filter p h
theorem asc_ins (v : Int) : ∀ {l : List Int}, Asc l → v ∉ l → Asc (ins v l)
  | [], _, _ => by simp [ins, Asc]
  | x :: xs, h, hn => by
    have hx := List.pairwise_cons.1 h
    unfold ins
    by_cases hv : v < x
    · rw [if_pos hv]
      refine List.pairwise_cons.2 ⟨fun y hy => ?_, h⟩
      rcases List.mem_cons.1 hy with e | hy
      · rw [e]; exact hv
      · have := hx.1 y hy; omega
    · rw [if_neg hv]
      have hvx : x < v := by
        have : v ≠ x := fun e => hn (by simp [e])
        omega
      refine List.pairwise_cons.2 ⟨fun y hy => ?_, asc_ins v hx.2 (fun hm => hn (by simp [hm]))⟩
      rcases (ins_mem v xs y).1 hy with e | hy
      · rw [e]; exact hvx
      · exact hx.1 y hy
theorem conf_put_other (M : Int → Option Int) (txn mode ex em x : Int) (h : x ≠ ex) : conf (putM M ex em) txn mode x ↔ conf M txn mode x := by
  unfold conf putM; rw [if_neg h]
theorem conf_put_same (M : Int → Option Int) (txn mode ex em : Int) : conf (putM M ex em) txn mode ex ↔ (ex ≠ txn ∧ (mode = 2 ∨ em = 2)) := by
  unfold conf putM; rw [if_pos rfl]
  constructor
  · rintro ⟨c, h1, h2, h3⟩; injection h1 with h1; subst h1; exact ⟨h2, h3⟩
  · rintro ⟨h2, h3⟩; exact ⟨em, rfl, h2, h3⟩
theorem added_yes (M : Int → Option Int) (txn mode ex em : Int) (lB lA : List Int) (hB : Asc lB) (mB : ∀ x, x ∈ lB ↔ conf M txn mode x) (hA : Asc lA) (mA : ∀ x, x ∈ lA ↔ conf (putM M ex em) txn mode x) (h : ex ≠ txn ∧ (mode = 2 ∨ em = 2)) :
    lA = ins ex (lB.filter (fun x => x != ex)) := by
  refine asc_ext hA (asc_ins ex (asc_filter hB _) (by simp)) (fun x => ?_)
  rw [mA, ins_mem, List.mem_filter, mB]
  by_cases e : x = ex
  · subst e; rw [conf_put_same]; simp [h]
  · rw [conf_put_other _ _ _ _ _ _ e]; simp [e]
theorem added_no (M : Int → Option Int) (txn mode ex em : Int) (lB lA : List Int) (hB : Asc lB) (mB : ∀ x, x ∈ lB ↔ conf M txn mode x) (hA : Asc lA) (mA : ∀ x, x ∈ lA ↔ conf (putM M ex em) txn mode x) (h : ¬ (ex ≠ txn ∧ (mode = 2 ∨ em = 2))) :
    lA = lB.filter (fun x => x != ex) := by
  refine asc_ext hA (asc_filter hB _) (fun x => ?_)
  rw [mA, List.mem_filter, mB]
  by_cases e : x = ex
  · subst e; rw [conf_put_same]; simp only [bne_self_eq_false, Bool.false_eq_true, and_false, iff_false]; exact h
  · rw [conf_put_other _ _ _ _ _ _ e]; simp [e]
/-- no more locks conflict than there are -/
theorem IsModes.kept {w w' : World} {b n : Nat} {M : Int → Option Int} {row : Option Nat} (h : IsModes w b n M) (hg : w.grownBy w' row) (hne : some b ≠ row) : IsModes w' b n M := by
  obtain ⟨D, ho, hM⟩ := h
  exact ⟨D, ho.kept hg hne, hM⟩
theorem IsKeys.kept {w w' : World} {K n b : Nat} {key : ByteArray} {row : Option Nat} (h : IsKeys w K n key b) (hg : w.grownBy w' row) (hne : some K ≠ row) : IsKeys w' K n key b := by
  obtain ⟨D, ho, hM⟩ := h
  exact ⟨D, ho.kept hg hne, hM⟩
theorem IsKeys.lt {w : World} {K n b : Nat} {key : ByteArray} (h : IsKeys w K n key b) : K < w.heap.size := by
  obtain ⟨D, ho, _⟩ := h; exact ho.lt
theorem keys_made (w : World) (key : ByteArray) (b : Nat) (hk : key.size ≤ maxLen) :
    ∃ w', (Instr.mapUpdate 28 (.map (some w.heap.size)) (.string key) (.map (some b))).run Try.prog (w.alloc (.map #[] 0)) = .ok () w' ∧ IsKeys w' w.heap.size 1 key b ∧ (w.alloc (.map #[] 0)).grownBy w' (some w.heap.size) :=
  keys_update_same (World.ownsMap_made w _ _ _) (by unfold maxLen; omega) key hk

set_option maxHeartbeats 1600000 in
theorem add_any (a : Option Addr) (len cap : Nat) (hs : List Int) (a' : Option Addr) (len' cap' : Nat) (ms : List Int) (txn : Int) (key : ByteArray) (mode ex em : Int) (w : World)
    (h : IsInts w a len hs) (h' : IsInts w a' len' ms) (hl : len ≤ maxLen) (hl' : len' ≤ maxLen) (hk : key.size ≤ maxLen) (hx : (Lit.int .i64 ex).wf = true) (hm : (Lit.int .i64 em).wf = true) :
    Calls Try.prog 4 #[.slice a len cap, .slice a' len' cap', .int .i64 txn, .string key, .int .i64 mode, .int .i64 ex, .int .i64 em] w fun e w' => e = .returned (.bool true) ∧ Below w.heap.size w w' := by
  have H : Hid (IsInts w a len hs) := h
  have H' : Hid (IsInts w a' len' ms) := h'
  have HX : Hid ((Lit.int .i64 ex).wf = true) := hx
  have HMM : Hid ((Lit.int .i64 em).wf = true) := hm
  have HK : Hid (key.size ≤ maxLen) := hk
  have HZ := zz14_any a len cap a' len' cap' txn key mode ex em w hl hl' hk
  have HZ' : Hid (Calls Try.prog 14 #[.slice a len cap, .slice a' len' cap', .int .i64 txn, .string key, .int .i64 mode, .int .i64 ex, .int .i64 em] w fun e w' => SomeBool e ∧ w' = w) := HZ
  unfold maxLen at hl hl' hk
  clear h h' hx hm HZ
  have hmm := @run_makeMap Try.prog
  go_enter Try.func4, Try.ntmps4
  go_wp2_with fail
  refine HZ'.out.mono ?_
  rintro e w0 ⟨⟨r, rfl⟩, rfl⟩
  clear HZ'
  cases r
  · go_wp2_with fail
    go_ret
    exact ⟨rfl, Below.refl _ _⟩
  by_cases hz : (4096 : Int) < (len : Int)
  · go_wp2_with fail
    go_ret
    exact ⟨rfl, Below.refl _ _⟩
  by_cases hz' : (4096 : Int) < (len' : Int)
  · go_wp2_with fail
    go_ret
    exact ⟨rfl, Below.refl _ _⟩
  by_cases hkz : (4096 : Int) < (key.size : Int)
  · go_wp2_with fail
    go_ret
    exact ⟨rfl, Below.refl _ _⟩
  by_cases hem : em = 1 ∨ em = 2
  case neg =>
    have q1 : (em != 1) = true := by rw [bne_iff_ne]; intro e; exact hem (.inl e)
    have q2 : (em != 2) = true := by rw [bne_iff_ne]; intro e; exact hem (.inr e)
    clear hem
    go_wp2_with fail
    go_ret
    exact ⟨rfl, Below.refl _ _⟩
  have hq : ((em != 1) = false) ∨ ((em != 1) = true ∧ (em != 2) = false) := by rcases hem with h | h <;> simp [h]
  clear hem
  rcases hq with q1 | ⟨q1, q2⟩
  all_goals
    go_wp2_with fail
    refine (pairs_any a a' len cap len' cap' _).mono ?_
    rintro e w1 ⟨n, rfl, hn, hn', rfl⟩
    go_wp2_with fail
    refine (held_any a' len' cap' n ms _ H'.out (by omega) hn').mono ?_
    rintro e w2 ⟨⟨r, rfl⟩, rfl⟩
    cases r
    · go_wp2_with fail
      go_ret
      exact ⟨rfl, Below.refl _ _⟩
    go_wp2_with fail
    refine (lockmap_any a len cap hs a' len' cap' ms n _ H.out H'.out hn hn' (by omega) (by omega)).mono ?_
    rintro e w3 ⟨b1, rfl, hb1, hM1, hB3⟩
    have H3 : Hid (IsModes w3 b1 n (mTo hs ms n)) := hM1
    have hb1lt := hM1.lt
    clear hM1
    go_wp2_with fail
    refine (lockmap_any a len cap hs a' len' cap' ms n _ (H.out.below hB3) (H'.out.below hB3) hn hn' (by omega) (by omega)).mono ?_
    rintro e w4 ⟨b2, rfl, hb2, hM2, hB4⟩
    obtain ⟨w5, hrun5, hM5, hg5⟩ := hM2.update (by unfold maxLen; omega) ex em HX.out HMM.out
    have h5a := (H3.out.below hB4).kept hg5 (by intro e; injection e; omega)
    have hB5 : Below w2.heap.size w2 w5 := (hB3.trans (hB4.mono hB3.size)).grown hg5 (by have := hB3.size; have := hB4.size; omega) (fun j hj => by cases hj; have := hB3.size; omega)
    obtain ⟨w6, hrun6, hK6, hg6⟩ := keys_made w5 key b1 HK.out
    obtain ⟨w7, hrun7, hK7, hg7⟩ := keys_made w6 key b2 HK.out
    have l5a := h5a.lt
    have l5b := hM5.lt
    have h6a := (h5a.kept (World.grownBy_alloc w5 _ none) (by simp)).kept hg6 (by intro e; injection e; omega)
    have h6b := (hM5.kept (World.grownBy_alloc w5 _ none) (by simp)).kept hg6 (by intro e; injection e; omega)
    have l6 := hK6.lt
    have l6a := h6a.lt
    have l6b := h6b.lt
    have h7a := (h6a.kept (World.grownBy_alloc w6 _ none) (by simp)).kept hg7 (by intro e; injection e; omega)
    have h7b := (h6b.kept (World.grownBy_alloc w6 _ none) (by simp)).kept hg7 (by intro e; injection e; omega)
    have h7k := (hK6.kept (World.grownBy_alloc w6 _ none) (by simp)).kept hg7 (by intro e; injection e; omega)
    have hB6 : Below w2.heap.size w2 w6 := (hB5.alloc hB5.size _).grown hg6 (by have := hB5.size; simp; omega) (fun j hj => by cases hj; exact hB5.size)
    have hB7 : Below w2.heap.size w2 w7 := (hB6.alloc hB6.size _).grown hg7 (by have := hB6.size; simp; omega) (fun j hj => by cases hj; exact hB6.size)
    have G7a : Hid (IsModes w7 b1 n (mTo hs ms n)) := h7a
    have G7b : Hid (IsModes w7 b2 (n + 1) (putM (mTo hs ms n) ex em)) := h7b
    have G7k : Hid (IsKeys w7 w5.heap.size 1 key b1) := h7k
    have G7l : Hid (IsKeys w7 w6.heap.size 1 key b2) := hK7
    have B7 : Hid (Below w2.heap.size w2 w7) := hB7
    clear h7a h7b h7k hK7 hB7 hB6 l6 l6a l6b h6a h6b l5a l5b hg7 hg6 hK6 hB5 h5a hM5 hg5 hB4 hM2 hB3 H3 hb1 hb2 hb1lt
    go_wp2_with fail
    clear hrun5 hrun6 hrun7 hmm
    generalize w5.heap.size = K1 at *
    generalize w6.heap.size = K2 at *
    refine (table_any K1 _).mono ?_
    rintro e w8 ⟨T1, rfl, hT1, hc1, hB8⟩
    have B8 : Hid (Below w7.heap.size w7 w8) := hB8
    have C8 : Hid (w8.cell? ⟨T1, 0, none⟩ = some (.map (some K1))) := hc1
    clear hT1 hc1 hB8
    go_wp2_with fail
    refine (conflicts_any T1 K1 b1 1 n key txn mode _ _ C8.out (G7k.out.below B8.out) (G7a.out.below B8.out) HK.out (by omega)).mono ?_
    rintro e w9 ⟨aB, cB, lB, rfl, hIB, hNB, hAB, hmB, hzB, hB9⟩
    have I9 : Hid (IsInts w9 aB lB.length lB) := hIB
    have N9 : Hid (lB.length = 0 ↔ aB = none) := hNB
    have A9 : Hid (Asc lB) := hAB
    have M9 : Hid (∀ x, x ∈ lB ↔ conf (mTo hs ms n) txn mode x) := hmB
    have B9 : Hid (Below w8.heap.size w8 w9) := hB9
    clear hIB hNB hAB hmB hB9
    go_wp2_with fail
    refine (table_any K2 _).mono ?_
    rintro e w10 ⟨T2, rfl, hT2, hc2, hB10⟩
    have B10 : Hid (Below w9.heap.size w9 w10) := hB10
    have C10 : Hid (w10.cell? ⟨T2, 0, none⟩ = some (.map (some K2))) := hc2
    clear hT2 hc2 hB10
    go_wp2_with fail
    refine (conflicts_any T2 K2 b2 1 (n + 1) key txn mode _ _ C10.out (((G7l.out.below B8.out).below B9.out).below B10.out) (((G7b.out.below B8.out).below B9.out).below B10.out) HK.out (by omega)).mono ?_
    rintro e w11 ⟨aA, cA, lA, rfl, hIA, hNA, hAA, hmA, hzA, hB11⟩
    have I11 : Hid (IsInts w11 aA lA.length lA) := hIA
    have N11 : Hid (lA.length = 0 ↔ aA = none) := hNA
    have A11 : Hid (Asc lA) := hAA
    have M11 : Hid (∀ x, x ∈ lA ↔ conf (putM (mTo hs ms n) ex em) txn mode x) := hmA
    have B11 : Hid (Below w10.heap.size w10 w11) := hB11
    have b8 := B7.out.trans (B8.out.mono B7.out.size)
    have b9 := b8.trans (B9.out.mono b8.size)
    have b10 := b9.trans (B10.out.mono b9.size)
    have b11 := b10.trans (B11.out.mono b10.size)
    have X11 : Hid (Below w2.heap.size w2 w11) := b11
    clear hIA hNA hAA hmA hB11 b8 b9 b10 b11
    go_wp2_with fail
    refine (without_any aB lB.length cB lB ex _ ((I9.out.below B10.out).below B11.out) (by omega)).mono ?_
    rintro e w12 ⟨aW, cW, rfl, hIW, hB12⟩
    have I12 : Hid (IsInts w12 aW (lB.filter (fun x => x != ex)).length (lB.filter (fun x => x != ex))) := hIW
    have B12 : Hid (Below w11.heap.size w11 w12) := hB12
    have X12 : Hid (Below w2.heap.size w2 w12) := X11.out.trans (B12.out.mono X11.out.size)
    have hfl : (lB.filter (fun x => x != ex)).length ≤ lB.length := List.length_filter_le _ _
    clear hIW hB12
    by_cases hyes : ex ≠ txn ∧ (mode = 2 ∨ em = 2)
    · have HE : Hid (lA = ins ex (lB.filter (fun x => x != ex))) := added_yes _ _ _ _ _ _ _ A9.out M9.out A11.out M11.out hyes
      have p1 : (ex != txn) = true := by rw [bne_iff_ne]; exact hyes.1
      have p2 : (mode == 2) = true ∨ ((mode == 2) = false ∧ (em == 2) = true) := by
        by_cases hmd : mode = 2
        · exact .inl (by simp [hmd])
        · rcases hyes.2 with h | h
          · exact absurd h hmd
          · exact .inr ⟨by simp [hmd], by simp [h]⟩
      clear hyes
      have hil : (ins ex (lB.filter (fun x => x != ex))).length ≤ lB.length + 1 := by rw [ins_len]; omega
      rcases p2 with p2 | ⟨p2, p3⟩
      all_goals
        go_wp2_with fail
        refine (insert_any aW (lB.filter (fun x => x != ex)).length cW _ ex _ I12.out (by omega) HX.out).mono ?_
        rintro e w13 ⟨aI, cI, rfl, hII, hB13⟩
        have I13 : Hid (IsInts w13 aI (ins ex (lB.filter (fun x => x != ex))).length (ins ex (lB.filter (fun x => x != ex)))) := hII
        have B13 : Hid (Below w12.heap.size w12 w13) := hB13
        have X13 : Hid (Below w2.heap.size w2 w13) := X12.out.trans (B13.out.mono X12.out.size)
        clear hII hB13
        have e := HE.out
        subst e
        go_wp2_with fail
        refine (same_any aA aI _ cA cI _ _ ((I11.out.below B12.out).below B13.out) I13.out (by omega)).mono ?_
        rintro e w14 ⟨rfl, hB14⟩
        have X14 : Hid (Below w2.heap.size w2 w14) := X13.out.trans (hB14.mono X13.out.size)
        clear hB14
        go_wp2_with fail
        refine (nil_any aA _ cA _ N11.out).mono ?_
        rintro e w15 ⟨rfl, rfl⟩
        go_wp2_with fail
        refine (nil_any aB _ cB _ N9.out).mono ?_
        rintro e w16 ⟨rfl, rfl⟩
        go_wp2_with fail
        go_ret
        exact ⟨rfl, X14.out⟩
    · have HE : Hid (lA = lB.filter (fun x => x != ex)) := added_no _ _ _ _ _ _ _ A9.out M9.out A11.out M11.out hyes
      have p2 : (ex != txn) = false ∨ ((ex != txn) = true ∧ (mode == 2) = false ∧ (em == 2) = false) := by
        by_cases hxt : ex = txn
        · exact .inl (by simp [hxt])
        · have h1 : ¬ mode = 2 := fun h => hyes ⟨hxt, .inl h⟩
          have h2 : ¬ em = 2 := fun h => hyes ⟨hxt, .inr h⟩
          exact .inr ⟨by simp [hxt], by simp [h1], by simp [h2]⟩
      clear hyes
      rcases p2 with p1 | ⟨p1, p2, p3⟩
      all_goals
        have e := HE.out
        subst e
        go_wp2_with fail
        refine (same_any aA aW _ cA cW _ _ (I11.out.below B12.out) I12.out (by omega)).mono ?_
        rintro e w14 ⟨rfl, hB14⟩
        have X14 : Hid (Below w2.heap.size w2 w14) := X12.out.trans (hB14.mono X12.out.size)
        clear hB14
        go_wp2_with fail
        refine (nil_any aA _ cA _ N11.out).mono ?_
        rintro e w15 ⟨rfl, rfl⟩
        go_wp2_with fail
        refine (nil_any aB _ cB _ N9.out).mono ?_
        rintro e w16 ⟨rfl, rfl⟩
        go_wp2_with fail
        go_ret
        exact ⟨rfl, X14.out⟩
end Go.Proofs.Qxb6629025a
