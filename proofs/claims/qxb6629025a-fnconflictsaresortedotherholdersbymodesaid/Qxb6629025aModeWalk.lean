import Derived.Test.Qxb6629025aOther
namespace Go.Proofs.Qxb6629025a
open Go.RowKit Go.Maps

set_option maxHeartbeats 800000 in
theorem zz5_any (a : Option Addr) (len cap : Nat) (a' : Option Addr) (len' cap' : Nat) (ok : ByteArray) (b : Option Addr) (ln cp : Nat) (b' : Option Addr) (ln' cp' : Nat) (t : Int) (key : ByteArray) (md : Int) (w : World)
    (h0 : len ≤ maxLen) (h1 : len' ≤ maxLen) (h2 : ok.size ≤ maxLen) (h3 : ln ≤ maxLen) (h4 : ln' ≤ maxLen) (h5 : key.size ≤ maxLen) :
    Calls Try.prog 5 #[.slice a len cap, .slice a' len' cap', .string ok, .slice b ln cp, .slice b' ln' cp', .int .i64 t, .string key, .int .i64 md] w fun e w' => SomeBool e ∧ w' = w := by
  unfold maxLen at h0 h1 h2 h3 h4 h5
  go_enter Try.func5, Try.ntmps5
  go_wp2
  all_goals (go_ret; first | exact ⟨⟨false, rfl⟩, rfl⟩ | exact ⟨⟨true, rfl⟩, rfl⟩)

theorem zero32 (w : World) : (zeroValue 32).run Try.prog w = .ok (.int .i64 0) w := by kernel_rfl
theorem IsModes.lookup {w : World} {b n : Nat} {M : Int → Option Int} (h : IsModes w b n M) (x c : Int) (hx : (Lit.int .i64 x).wf = true) (hc : M x = some c) :
    (Instr.lookup 26 (.map (some b)) (.int .i64 x) false).run Try.prog w = .ok (.int .i64 c) w := by
  obtain ⟨D, ho, hM⟩ := h
  obtain ⟨c', hrun, hat, _⟩ := ho.lookup_int law3 Try.underlying26 Try.underlying32 (zero32 w) (keyOf_int_mk Try.underlying3 hx)
  rw [(hM x).2 c hc] at hat
  injection hat with h2
  injection h2 with _ h3
  rw [hrun, h3]
theorem mTo_some (hs ms : List Int) : ∀ (n : Nat), n ≤ hs.length → ∀ x, (∃ c, mTo hs ms n x = some c) ↔ x ∈ hs.take n
  | 0, _, x => by simp [mTo]
  | n + 1, h, x => by
    rw [mem_take_succ hs n (by omega)]
    have ih := mTo_some hs ms n (by omega) x
    unfold mTo putM
    by_cases e : x = hs.getD n 0
    · rw [if_pos e]
      exact ⟨fun _ => .inr e, fun _ => ⟨_, rfl⟩⟩
    · rw [if_neg e, ih]
      exact ⟨fun h => .inl h, fun h => h.resolve_right e⟩
/-- held in mode Exclusive? -/
def isEx (M : Int → Option Int) (x : Int) : Bool := M x == some 2
theorem isEx_iff (M : Int → Option Int) (x : Int) : isEx M x = true ↔ M x = some 2 := by simp [isEx]
theorem excl_want (hs ms : List Int) (txn : Int) (n : Nat) (lE lO : List Int) (hn : n ≤ hs.length) (hE : Asc lE) (mE : ∀ x, x ∈ lE ↔ conf (mTo hs ms n) txn 2 x) (hO : Oth hs txn n lO) : lO = lE := by
  refine asc_ext hO.asc hE (fun x => ?_)
  rw [hO.mem, mE, ← mTo_some hs ms n hn x]
  unfold conf
  constructor
  · rintro ⟨⟨c, hc⟩, h⟩; exact ⟨c, hc, h, .inl rfl⟩
  · rintro ⟨c, hc, h, _⟩; exact ⟨⟨c, hc⟩, h⟩
theorem shared_want (M : Int → Option Int) (txn mode : Int) (lE lS : List Int) (hm : mode ≠ 2) (hE : Asc lE) (mE : ∀ x, x ∈ lE ↔ conf M txn 2 x) (hS : Asc lS) (mS : ∀ x, x ∈ lS ↔ conf M txn mode x) : lS = lE.filter (isEx M) := by
  refine asc_ext hS (asc_filter hE _) (fun x => ?_)
  rw [mS, List.mem_filter, mE, isEx_iff]
  unfold conf
  constructor
  · rintro ⟨c, hc, h, h2 | h2⟩
    · exact absurd h2 hm
    · subst h2; exact ⟨⟨2, hc, h, .inl rfl⟩, hc⟩
  · rintro ⟨⟨c, hc, h, _⟩, h2⟩; exact ⟨2, h2, h, .inr rfl⟩
theorem excl_got (M : Int → Option Int) (txn : Int) (lE lG : List Int) (hE : Asc lE) (mE : ∀ x, x ∈ lE ↔ conf M txn 2 x) (hG : Asc lG) (mG : ∀ x, x ∈ lG ↔ conf M txn 2 x) : lG = lE :=
  asc_ext hG hE (fun x => by rw [mG, mE])
/-- the loop that keeps the holders in mode Exclusive -/
def exTo (M : Int → Option Int) (l : List Int) (k : Nat) : List Int := (l.take k).filter (isEx M)
theorem exTo_le (M : Int → Option Int) (l : List Int) (k : Nat) : (exTo M l k).length ≤ k := by
  unfold exTo
  exact Nat.le_trans (List.length_filter_le _ _) (List.length_take_le _ _)
theorem exTo_keep (M : Int → Option Int) (l : List Int) (k : Nat) (h : k < l.length) (hv : isEx M (l.getD k 0) = true) : exTo M l (k + 1) = exTo M l k ++ [l.getD k 0] := by
  unfold exTo; rw [take_succ_getD l k h, List.filter_append]; simp only [List.filter_cons, hv]; simp
theorem exTo_drop (M : Int → Option Int) (l : List Int) (k : Nat) (h : k < l.length) (hv : isEx M (l.getD k 0) = false) : exTo M l (k + 1) = exTo M l k := by
  unfold exTo; rw [take_succ_getD l k h, List.filter_append]; simp only [List.filter_cons, hv]; simp
theorem exTo_end (M : Int → Option Int) (l : List Int) (k : Nat) (h : l.length ≤ k) : exTo M l k = l.filter (isEx M) := by
  unfold exTo; rw [List.take_of_length_le h]

set_option maxRecDepth 100000 in
set_option maxHeartbeats 3200000 in
theorem modes_any (a : Option Addr) (len cap : Nat) (hs : List Int) (a' : Option Addr) (len' cap' : Nat) (ms : List Int) (other : ByteArray) (b : Option Addr) (ln cp : Nat) (oh : List Int) (b' : Option Addr) (ln' cp' : Nat) (om : List Int) (txn : Int) (key : ByteArray) (mode : Int) (w : World)
    (h : IsInts w a len hs) (h' : IsInts w a' len' ms) (g : IsInts w b ln oh) (g' : IsInts w b' ln' om) (hl : len ≤ maxLen) (hl' : len' ≤ maxLen) (gl : ln ≤ maxLen) (gl' : ln' ≤ maxLen) (ho : other.size ≤ maxLen) (hk : key.size ≤ maxLen) (_ht : (Lit.int .i64 txn).wf = true) (_hm : (Lit.int .i64 mode).wf = true) :
    Calls Try.prog 3 #[.slice a len cap, .slice a' len' cap', .string other, .slice b ln cp, .slice b' ln' cp', .int .i64 txn, .string key, .int .i64 mode] w fun e w' => e = .returned (.bool true) ∧ Below w.heap.size w w' := by
  have H : Hid (IsInts w a len hs) := h
  have H' : Hid (IsInts w a' len' ms) := h'
  have G : Hid (IsInts w b ln oh) := g
  have G' : Hid (IsInts w b' ln' om) := g'
  have HK : Hid (key.size ≤ maxLen) := hk
  have HO : Hid (other.size ≤ maxLen) := ho
  have HZ := zz5_any a len cap a' len' cap' other b ln cp b' ln' cp' txn key mode w hl hl' ho gl gl' hk
  have HZ' : Hid (Calls Try.prog 5 #[.slice a len cap, .slice a' len' cap', .string other, .slice b ln cp, .slice b' ln' cp', .int .i64 txn, .string key, .int .i64 mode] w fun e w' => SomeBool e ∧ w' = w) := HZ
  unfold maxLen at hl hl' gl gl' hk ho
  clear h h' g g' HZ
  have hmm := @run_makeMap Try.prog
  go_enter Try.func3, Try.ntmps3
  go_wp2_with fail
  refine HZ'.out.mono ?_
  rintro e w0 ⟨⟨r, rfl⟩, rfl⟩
  clear HZ'
  cases r
  · go_wp2_with fail
    go_ret
    exact ⟨rfl, Below.refl _ _⟩
  by_cases hz : (4096 : Int) < (len : Int)
  · go_wp2_with fail
    go_ret
    exact ⟨rfl, Below.refl _ _⟩
  by_cases hz' : (4096 : Int) < (len' : Int)
  · go_wp2_with fail
    go_ret
    exact ⟨rfl, Below.refl _ _⟩
  by_cases gz : (4096 : Int) < (ln : Int)
  · go_wp2_with fail
    go_ret
    exact ⟨rfl, Below.refl _ _⟩
  by_cases gz' : (4096 : Int) < (ln' : Int)
  · go_wp2_with fail
    go_ret
    exact ⟨rfl, Below.refl _ _⟩
  by_cases hkz : (4096 : Int) < (key.size : Int)
  · go_wp2_with fail
    go_ret
    exact ⟨rfl, Below.refl _ _⟩
  by_cases hoz : (4096 : Int) < (other.size : Int)
  · go_wp2_with fail
    go_ret
    exact ⟨rfl, Below.refl _ _⟩
  go_wp2_with fail
  refine (pairs_any a a' len cap len' cap' _).mono ?_
  rintro e w1 ⟨n, rfl, hn, hn', rfl⟩
  go_wp2_with fail
  refine (pairs_any b b' ln cp ln' cp' _).mono ?_
  rintro e w1 ⟨on, rfl, hon, hon', rfl⟩
  go_wp2_with fail
  refine (held_any a' len' cap' n ms _ H'.out (by omega) hn').mono ?_
  rintro e w2 ⟨⟨r, rfl⟩, rfl⟩
  cases r
  · go_wp2_with fail
    go_ret
    exact ⟨rfl, Below.refl _ _⟩
  go_wp2_with fail
  refine (held_any b' ln' cp' on om _ G'.out (by omega) hon').mono ?_
  rintro e w2 ⟨⟨r, rfl⟩, rfl⟩
  cases r
  · go_wp2_with fail
    go_ret
    exact ⟨rfl, Below.refl _ _⟩
  go_wp2_with fail
  refine (lockmap_any a len cap hs a' len' cap' ms n _ H.out H'.out hn hn' (by omega) (by omega)).mono ?_
  rintro e w3 ⟨b1, rfl, hb1, hM1, hB3⟩
  obtain ⟨w4, hrun4, hK4, hg4⟩ := keys_made w3 key b1 HK.out
  have hb1lt := hM1.lt
  have hM4 := (hM1.kept (World.grownBy_alloc w3 (.map #[] 0) none) (by simp)).kept hg4 (by intro e; injection e; omega)
  have hB4 : Below w2.heap.size w2 w4 := (hB3.alloc hB3.size _).grown hg4 (by have := hB3.size; simp; omega) (fun j hj => by cases hj; exact hB3.size)
  have G4 : Hid (IsModes w4 b1 n (mTo hs ms n)) := hM4
  have K4 : Hid (IsKeys w4 w3.heap.size 1 key b1) := hK4
  have B4 : Hid (Below w2.heap.size w2 w4) := hB4
  have hK1 := hB3.size
  clear hM4 hK4 hB4 hg4 hb1 hM1 hB3
  cases hst : (other.toList == key.toList)
  case' false =>
    have HNE : Hid (key.data.toList ≠ other.data.toList) := fun e => by
      have e2 : other.toList = key.toList := by rw [ByteArray.toList_eq, ByteArray.toList_eq]; exact e.symm
      rw [e2] at hst; simp at hst
    go_wp2_with fail
    clear hrun4 hmm hst
    refine (lockmap_any b ln cp oh b' ln' cp' om on _ (G.out.below B4.out) (G'.out.below B4.out) hon hon' (by omega) (by omega)).mono ?_
    rintro e w5 ⟨b2, rfl, hb2, hM2, hB5⟩
    obtain ⟨w6, hrun6, hK6, hg6⟩ := (K4.out.below hB5).update_other (b' := b2) (by unfold maxLen; omega) HO.out HNE.out
    have hM6 := (G4.out.below hB5).kept hg6 (by intro e; injection e; omega)
    have hB5' := B4.out.trans (hB5.mono B4.out.size)
    have hB6 : Below w2.heap.size w2 w6 := hB5'.grown hg6 hB5'.size (fun j hj => by cases hj; exact hK1)
    have G7 : Hid (IsModes w6 b1 n (mTo hs ms n)) := hM6
    have K7 : Hid (∃ nk, IsKeys w6 w3.heap.size nk key b1) := ⟨_, hK6⟩
    have B7 : Hid (Below w2.heap.size w2 w6) := hB6
    clear hM6 hK6 hB6 hB5' hg6 hM2 hB5 hb2 G4 K4 B4 HNE
    go_wp2_with fail
    clear hrun6
  case' true =>
    go_wp2_with fail
    clear hrun4 hmm hst
    obtain ⟨w6, e6⟩ : ∃ w6, w6 = w4 := ⟨_, rfl⟩
    subst e6
    have G7 : Hid (IsModes w6 b1 n (mTo hs ms n)) := G4
    have K7 : Hid (∃ nk, IsKeys w6 w3.heap.size nk key b1) := ⟨_, K4.out⟩
    have B7 : Hid (Below w2.heap.size w2 w6) := B4
    clear G4 K4 B4
  all_goals
    clear hb1lt hK1
    generalize w3.heap.size = K1 at *
    obtain ⟨nk, hKK⟩ := K7.out
    have K8 : Hid (IsKeys w6 K1 nk key b1) := hKK
    clear hKK K7
    refine (table_any K1 _).mono ?_
    rintro e w7 ⟨T, rfl, hT, hcT, hB7⟩
    have B8 : Hid (Below w6.heap.size w6 w7) := hB7
    have C7 : Hid (w7.cell? ⟨T, 0, none⟩ = some (.map (some K1))) := hcT
    clear hcT hB7
    go_wp2_with fail
    refine (conflicts_any T K1 b1 nk n key txn 2 _ _ C7.out (K8.out.below B8.out) (G7.out.below B8.out) HK.out (by omega)).mono ?_
    rintro e w8 ⟨aE, cE, lE, rfl, hI, hN, hA, hM, hzE, hB⟩
    have IE : Hid (IsInts w8 aE lE.length lE) := hI
    have NE : Hid (lE.length = 0 ↔ aE = none) := hN
    have AE : Hid (Asc lE) := hA
    have ME : Hid (∀ x, x ∈ lE ↔ conf (mTo hs ms n) txn 2 x) := hM
    have B9 : Hid (Below w7.heap.size w7 w8) := hB
    have C8 : Hid (w8.cell? ⟨T, 0, none⟩ = some (.map (some K1))) := (hB.cell (by exact hT)).trans C7.out
    have hT8 : T < w8.heap.size := Nat.lt_of_lt_of_le hT hB.size
    clear hI hN hA hM hB hT C7
    go_wp2_with fail
    refine (conflicts_any T K1 b1 nk n key txn 1 _ _ C8.out ((K8.out.below B8.out).below B9.out) ((G7.out.below B8.out).below B9.out) HK.out (by omega)).mono ?_
    rintro e w9 ⟨aS, cS, lS, rfl, hI, hN, hA, hM, hzS, hB⟩
    have IS : Hid (IsInts w9 aS lS.length lS) := hI
    have NS : Hid (lS.length = 0 ↔ aS = none) := hN
    have AS : Hid (Asc lS) := hA
    have MS : Hid (∀ x, x ∈ lS ↔ conf (mTo hs ms n) txn 1 x) := hM
    have B10 : Hid (Below w8.heap.size w8 w9) := hB
    have C9 : Hid (w9.cell? ⟨T, 0, none⟩ = some (.map (some K1))) := (hB.cell (by exact hT8)).trans C8.out
    clear hI hN hA hM hB hT8 C8
    go_wp2_with fail
    refine (conflicts_any T K1 b1 nk n key txn mode _ _ C9.out (((K8.out.below B8.out).below B9.out).below B10.out) (((G7.out.below B8.out).below B9.out).below B10.out) HK.out (by omega)).mono ?_
    rintro e w10 ⟨aG, cG, lG, rfl, hI, hN, hA, hM, hzG, hB⟩
    have IG : Hid (IsInts w10 aG lG.length lG) := hI
    have NG : Hid (lG.length = 0 ↔ aG = none) := hN
    have AG : Hid (Asc lG) := hA
    have MG : Hid (∀ x, x ∈ lG ↔ conf (mTo hs ms n) txn mode x) := hM
    have B11 : Hid (Below w9.heap.size w9 w10) := hB
    have x7 := B7.out.trans (B8.out.mono B7.out.size)
    have x8 := x7.trans (B9.out.mono x7.size)
    have x9 := x8.trans (B10.out.mono x8.size)
    have x10 := x9.trans (B11.out.mono x9.size)
    have X10 : Hid (Below w2.heap.size w2 w10) := x10
    have GA : Hid (IsModes w10 b1 n (mTo hs ms n)) := ((((G7.out.below B8.out).below B9.out).below B10.out).below B11.out)
    clear hI hN hA hM hB C9 x7 x8 x9 x10 K8 G7
    go_wp2_with fail
    refine (other_any a len cap n hs txn _ (H.out.below X10.out) (by omega) hn).mono ?_
    rintro e w11 ⟨aO, cO, lO, rfl, hI, hO, hB⟩
    have eO := excl_want hs ms txn n lE lO (by rw [H.out.1]; exact hn) AE.out ME.out hO
    subst eO
    have IntO : Hid (IsInts w11 aO lO.length lO) := hI
    have B12 : Hid (Below w10.heap.size w10 w11) := hB
    have X11 : Hid (Below w2.heap.size w2 w11) := X10.out.trans (B12.out.mono X10.out.size)
    have IE2 : Hid (IsInts w11 aE lO.length lO) := ((IE.out.below B10.out).below B11.out).below B12.out
    have GL : Hid (IsModes w11 b1 n (mTo hs ms n)) := GA.out.below B12.out
    clear hI hO hB GA IE
    go_wp2_with fail
    go_loopw [26, 27] (fun s i wr => ∃ k : Nat, k ≤ lO.length ∧ i = .int .i64 k ∧ Hid (wr.ownsRow w11.heap.size 3 1 s (exTo (mTo hs ms n) lO k).length ((exTo (mTo hs ms n) lO k).map (Value.int .i64))) ∧ Hid (Below w11.heap.size w11 wr)) (fun _ i _ => lO.length - (intOf i).toNat)
    case atStart => exact ⟨0, by omega, rfl, World.ownsRow_nil _ _ _ _, Below.refl _ _⟩
    case round =>
      obtain ⟨k, hk, rfl, hown, hbel⟩ := hrel
      have hle := exTo_le (mTo hs ms n) lO k
      have hsz := hbel.out.size
      by_cases hlt : k < lO.length
      · obtain ⟨eb, eo, rfl, heb, hec⟩ := IE2.out.2.2 (by omega)
        have hck : wr.cell? ⟨eb, eo + k, none⟩ = some (.int .i64 (lO.getD k 0)) := (hbel.out.cell (by exact heb)).trans (hec k hlt)
        have hmem : lO.getD k 0 ∈ lO := by
          rw [List.getD_eq_getElem?_getD, List.getElem?_eq_getElem hlt]; exact List.getElem_mem hlt
        obtain ⟨c, hc, _⟩ := (ME.out _).1 hmem
        have hlk := (GL.out.below hbel.out).lookup (lO.getD k 0) c (IE2.out.2.1 _ hmem) hc
        by_cases hc2 : c = 2
        · have HD : Hid (exTo (mTo hs ms n) lO (k + 1) = exTo (mTo hs ms n) lO k ++ [lO.getD k 0]) := exTo_keep _ lO k hlt (by rw [isEx_iff, hc, hc2])
          have q : (c == 2) = true := by simp [hc2]
          clear hec hmem hc hc2
          generalize lO.getD k 0 = y at *
          go_wp2_with (at_builtin; refine append_int wr rfl (.tmp 128) (.tmp 133) rfl w11.heap.size u26 (exTo (mTo hs ms n) lO k) rfl hown.out y rfl (by omega) w11 hbel.out hsz ?_; intro v1 wa R1 R2 _ _)
          go_roundw
          case rel => exact ⟨k + 1, by omega, by go_num, by rw [HD.out]; exact R1, R2⟩
          case measure => simp [intOf]; omega
        · have HD : Hid (exTo (mTo hs ms n) lO (k + 1) = exTo (mTo hs ms n) lO k) := exTo_drop _ lO k hlt (by
            cases he : isEx (mTo hs ms n) (lO.getD k 0)
            · rfl
            · rw [isEx_iff, hc] at he; injection he with he; exact absurd he hc2)
          have q : (c == 2) = false := by simp [hc2]
          clear hec hmem hc hc2
          generalize lO.getD k 0 = y at *
          go_wp2
          go_roundw
          case rel => exact ⟨k + 1, by omega, by go_num, by rw [HD.out]; exact hown, hbel⟩
          case measure => simp [intOf]; omega
      · have HE := exTo_end (mTo hs ms n) lO k (by omega)
        rw [HE] at hown
        clear HE hle
        obtain ⟨aW, cW, eW, hIW⟩ := own_ints hown.out (fun x hx => IE2.out.2.1 x (List.mem_filter.1 hx).1)
        subst eW
        have eS := shared_want (mTo hs ms n) txn 1 lO lS (by decide) AE.out ME.out AS.out MS.out
        subst eS
        have IW : Hid (IsInts wr aW (lO.filter (isEx (mTo hs ms n))).length (lO.filter (isEx (mTo hs ms n)))) := hIW
        have BL : Hid (Below w11.heap.size w11 wr) := hbel
        have X12 : Hid (Below w2.heap.size w2 wr) := X11.out.trans (BL.out.mono X11.out.size)
        clear hIW hown
        by_cases hmd : mode = 2
        · have eG := excl_got (mTo hs ms n) txn lO lG AE.out ME.out AG.out (by rw [hmd] at MG; exact MG.out)
          subst eG
          have q : (mode == 2) = true := by simp [hmd]
          clear hmd
          go_wp2_with fail
          refine (same_any aE aO _ cE cO _ _ (IE2.out.below BL.out) (IntO.out.below BL.out) (by omega)).mono ?_
          rintro e w13 ⟨rfl, hB13⟩
          have B13 : Hid (Below wr.heap.size wr w13) := hB13
          clear hB13
          go_wp2_with fail
          refine (nil_any aE _ cE _ NE.out).mono ?_
          rintro e wx ⟨rfl, rfl⟩
          go_wp2_with fail
          refine (same_any aS aW _ cS cW _ _ ((((IS.out.below B11.out).below B12.out).below BL.out).below B13.out) (IW.out.below B13.out) (by omega)).mono ?_
          rintro e w14 ⟨rfl, hB14⟩
          have B14 : Hid (Below wx.heap.size wx w14) := hB14
          clear hB14
          go_wp2_with fail
          refine (nil_any aS _ cS _ NS.out).mono ?_
          rintro e wy ⟨rfl, rfl⟩
          go_wp2_with fail
          refine (same_any aG aO _ cG cO _ _ ((((IG.out.below B12.out).below BL.out).below B13.out).below B14.out) (((IntO.out.below BL.out).below B13.out).below B14.out) (by omega)).mono ?_
          rintro e w15 ⟨rfl, hB15⟩
          have B15 : Hid (Below wy.heap.size wy w15) := hB15
          clear hB15
          go_wp2_with fail
          refine (nil_any aG _ cG _ NG.out).mono ?_
          rintro e wz ⟨rfl, rfl⟩
          go_wp2_with fail
          go_ret
          have y1 := X12.out.trans (B13.out.mono X12.out.size)
          have y2 := y1.trans (B14.out.mono y1.size)
          exact ⟨rfl, y2.trans (B15.out.mono y2.size)⟩
        · have eG := shared_want (mTo hs ms n) txn mode lO lG hmd AE.out ME.out AG.out MG.out
          subst eG
          have q : (mode == 2) = false := by simp [hmd]
          clear hmd
          go_wp2_with fail
          refine (same_any aE aO _ cE cO _ _ (IE2.out.below BL.out) (IntO.out.below BL.out) (by omega)).mono ?_
          rintro e w13 ⟨rfl, hB13⟩
          have B13 : Hid (Below wr.heap.size wr w13) := hB13
          clear hB13
          go_wp2_with fail
          refine (nil_any aE _ cE _ NE.out).mono ?_
          rintro e wx ⟨rfl, rfl⟩
          go_wp2_with fail
          refine (same_any aS aW _ cS cW _ _ ((((IS.out.below B11.out).below B12.out).below BL.out).below B13.out) (IW.out.below B13.out) (by omega)).mono ?_
          rintro e w14 ⟨rfl, hB14⟩
          have B14 : Hid (Below wx.heap.size wx w14) := hB14
          clear hB14
          go_wp2_with fail
          refine (nil_any aS _ cS _ NS.out).mono ?_
          rintro e wy ⟨rfl, rfl⟩
          go_wp2_with fail
          refine (same_any aG aW _ cG cW _ _ ((((IG.out.below B12.out).below BL.out).below B13.out).below B14.out) ((IW.out.below B13.out).below B14.out) (by omega)).mono ?_
          rintro e w15 ⟨rfl, hB15⟩
          have B15 : Hid (Below wy.heap.size wy w15) := hB15
          clear hB15
          go_wp2_with fail
          refine (nil_any aG _ cG _ NG.out).mono ?_
          rintro e wz ⟨rfl, rfl⟩
          go_wp2_with fail
          go_ret
          have y1 := X12.out.trans (B13.out.mono X12.out.size)
          have y2 := y1.trans (B14.out.mono y1.size)
          exact ⟨rfl, y2.trans (B15.out.mono y2.size)⟩
end Go.Proofs.Qxb6629025a
