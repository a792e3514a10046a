import Derived.Test.Qxb6629025aModes
import Derived.Test.Qxb6629025aPlain
import Derived.Test.Qxb6629025aShelf
import Derived.Sort.OwnSortedInts
import Derived.Shelf.Slices.In.SortNone
namespace Go.Proofs.Qxb6629025a
open Go.RowKit Go.Maps Go.Sort

/-- x's lock conflicts -/
def conf (M : Int → Option Int) (txn mode x : Int) : Prop := ∃ c, M x = some c ∧ x ≠ txn ∧ (mode = 2 ∨ c = 2)
/-- what the range has gathered: ss -/
structure Got (M : Int → Option Int) (txn mode : Int) (left : Lit → Bool) (ss : List Int) : Prop where
  mem : ∀ x, x ∈ ss ↔ conf M txn mode x ∧ left (.int .i64 x) = false
  nodup : ss.Nodup
  wf : ∀ x ∈ ss, (Lit.int .i64 x).wf = true
theorem Got.start {M : Int → Option Int} {txn mode : Int} {D : DataW Unit} (h : ∀ x : Int, Maps.has D (.int .i64 x) = (M x).isSome) : Got M txn mode (Maps.has D) [] where
  mem := fun x => by
    constructor
    · intro h; cases h
    · rintro ⟨⟨c, hc, _⟩, hl⟩
      rw [h x, hc] at hl; cases hl
  nodup := List.Pairwise.nil
  wf := fun x hx => by cases hx
theorem sameKey_int (y x : Int) : (Lit.int .i64 y).sameKey (.int .i64 x) = decide (y = x) := by
  by_cases e : y = x
  · subst e; simp [Lit.sameKey]
  · rw [sameKey_ne (fun h => e (by injection h))]; simp [e]
theorem left_step (left : Lit → Bool) (x y : Int) : (left (.int .i64 y) && !(Lit.int .i64 y).sameKey (.int .i64 x)) = false ↔ (y = x ∨ left (.int .i64 y) = false) := by
  rw [sameKey_int]
  by_cases e : y = x
  · simp [e]
  · simp [e]
theorem Got.keep {M : Int → Option Int} {txn mode : Int} {left : Lit → Bool} {ss : List Int} (h : Got M txn mode left ss) (x : Int) (hl : left (.int .i64 x) = true) (hc : conf M txn mode x) (hw : (Lit.int .i64 x).wf = true) :
    Got M txn mode (fun z => left z && !z.sameKey (.int .i64 x)) (ss ++ [x]) where
  mem := fun y => by
    rw [left_step, List.mem_append, h.mem y]
    constructor
    · rintro (⟨a, b⟩ | e)
      · exact ⟨a, .inr b⟩
      · simp at e; subst e; exact ⟨hc, .inl rfl⟩
    · rintro ⟨a, e | b⟩
      · exact .inr (by simp [e])
      · exact .inl ⟨a, b⟩
  nodup := by
    rw [List.nodup_append]
    refine ⟨h.nodup, by simp, fun a ha b hb => ?_⟩
    simp at hb; subst hb
    intro e; subst e
    have := ((h.mem a).1 ha).2
    rw [hl] at this; cases this
  wf := fun y hy => by
    rcases List.mem_append.1 hy with hy | hy
    · exact h.wf y hy
    · simp at hy; rw [hy]; exact hw
theorem Got.drop {M : Int → Option Int} {txn mode : Int} {left : Lit → Bool} {ss : List Int} (h : Got M txn mode left ss) (x : Int) (hc : ¬ conf M txn mode x) :
    Got M txn mode (fun z => left z && !z.sameKey (.int .i64 x)) ss where
  mem := fun y => by
    rw [left_step, h.mem y]
    constructor
    · rintro ⟨a, b⟩; exact ⟨a, .inr b⟩
    · rintro ⟨a, e | b⟩
      · subst e; exact absurd a hc
      · exact ⟨a, b⟩
  nodup := h.nodup
  wf := h.wf

/-- M at a key that the range has met -/
theorem met {M : Int → Option Int} {D : DataW Unit} {x c : Int} (hM : ∀ x : Int, Maps.has D (.int .i64 x) = (M x).isSome ∧ ∀ v, M x = some v → ∀ z, D.atKey (.int .i64 x) z = .lit (.int .i64 v)) (hat : ∀ zd, D.atKey (.int .i64 x) zd = .lit (.int .i64 c)) : M x = some c := by
  have h1 := has_true_of_atKey hat
  rw [(hM x).1] at h1
  obtain ⟨v, hv⟩ := Option.isSome_iff_exists.1 h1
  have := (hM x).2 v hv .nil
  rw [hat] at this
  injection this with h2
  injection h2 with _ h3
  rw [hv, h3]

theorem sort_none (cap : Nat) (w : World) : Calls Try.prog 18 #[.slice none 0 cap] w fun e w' => e = .returned (.tuple #[]) ∧ w' = w :=
  Any.slices_Sort_int_none Try.lays189 none cap w
theorem sort_some (g cap : Nat) (zs : List Int) (w : World) (hH : Holds (Value.int .i64) w g 0 zs.toArray) (hblk : g < w.heap.size) (hsz : zs.length ≤ 100000) :
    Calls Try.prog 18 #[.slice (some ⟨g, 0, none⟩) zs.length cap] w fun e w' =>
      e = .returned (.tuple #[]) ∧ ∃ n os, w' = grow (putRow (Value.int .i64) (Sort.ahead w n) g 0 (zs.mergeSort fun x y => decide (x ≤ y)).toArray) os :=
  Any.slices_Sort_int Try.lays189 g 0 cap zs w hH hblk (by omega)
/-- the sort of a slice of the call's own, in this text's words -/
theorem sort_own (g cap base : Nat) (zs : List Int) (w W : World) (cur : Array Value) (hbase : base ≤ g) (hb : w.heap[g]? = some (.cells cur 3 (0, 0))) (h1 : zs.length ≤ cap) (h2 : cap ≤ maxLen) (h3 : cur.size = cap * 1) (h4 : cur.toList.take (zs.length * 1) = zs.map (Value.int .i64))
    (hsz : zs.length ≤ 100000) (hbel : RowKit.Below base W w) (hB : base ≤ w.heap.size) :
    Calls Try.prog 18 #[.slice (some ⟨g, 0, none⟩) zs.length cap] w fun e w' =>
      e = .returned (.tuple #[]) ∧ w'.ownsRow base 3 1 (.slice (some ⟨g, 0, none⟩) zs.length cap) zs.length ((zs.mergeSort fun x y => decide (x ≤ y)).map (Value.int .i64)) ∧ RowKit.Below base W w' := by
  refine (sort_some g cap zs w (holds_of_blockI hb (by simpa using h4)) (Array.getElem?_eq_some_iff.1 hb).1 hsz).mono fun e w' h => ?_
  obtain ⟨he, n, os, hw⟩ := h
  subst hw
  exact ⟨he, ownsRow_sortedI (by simp) hbase hb h1 h2 h3, hbel.grown (grownBy_sortedI _) hB (fun j hj => by cases hj; exact hbase)⟩

set_option maxHeartbeats 1600000 in
theorem conflicts_any (T K b n m : Nat) (key : ByteArray) (txn mode : Int) (M : Int → Option Int) (w : World) (hT : w.cell? ⟨T, 0, none⟩ = some (.map (some K))) (hK : IsKeys w K n key b) (hB : IsModes w b m M) (hk : key.size ≤ maxLen) (hm : m ≤ 65536) :
    Calls Try.prog 10 #[.pointer (some ⟨T, 0, none⟩), .int .i64 txn, .string key, .int .i64 mode] w fun e w' =>
      ∃ a cap l, e = .returned (.slice a l.length cap) ∧ IsInts w' a l.length l ∧ (l.length = 0 ↔ a = none) ∧ Asc l ∧ (∀ x, x ∈ l ↔ conf M txn mode x) ∧ l.length ≤ m ∧ Below w.heap.size w w' := by
  have hlk := hK.lookup hk
  obtain ⟨D, hown, hM⟩ := hB
  have HM : Hid (∀ x : Int, Maps.has D (.int .i64 x) = (M x).isSome ∧ ∀ v, M x = some v → ∀ z, D.atKey (.int .i64 x) z = .lit (.int .i64 v)) := hM
  have HO : Hid (w.ownsMap Try.prog 3 (plainElem Try.prog 32) b m D) := hown
  have hle : Maps.size D ≤ m := hown.size_le
  have hbl : b < w.heap.size := hown.lt
  clear hK hk hM hown
  go_enter Try.func10, Try.ntmps10
  go_wp2_with (at_range; refine wpList_range_own _ rfl _ 26 rfl 3 32 law3 Try.underlying26 _ b m D rfl HO.out ?_; intro w0 hrg0 hg0 hs0)
  go_frame
  have HG0 : Hid (w0.ranges Try.prog 3 (plainElem Try.prog 32) b w.heap.size m D (Maps.has D) (Maps.size D)) := hrg0
  have HB0 : Hid (Below w.heap.size w w0) := (Below.refl _ _).grown hg0 (Nat.le_refl _) (fun k hk => by cases hk)
  clear hrg0 hg0 hs0 hlk hT
  go_loopw [9] (fun s wr => ∃ (left : Lit → Bool) (cnt : Nat) (ss : List Int), Hid (wr.ranges Try.prog 3 (plainElem Try.prog 32) b w.heap.size m D left cnt) ∧ ss.length + cnt ≤ m ∧ Hid (Got M txn mode left ss) ∧ Hid (wr.ownsRow w.heap.size 3 1 s ss.length (ss.map (Value.int .i64))) ∧ Hid (ss = [] → s = .slice none 0 0) ∧ Hid (Below w.heap.size w wr))
    (fun _ wr => wr.rangeLeft b w.heap.size)
  case atStart => exact ⟨_, _, [], HG0, by simp; exact hle, Got.start (fun x => (HM.out x).1), World.ownsRow_nil _ _ _ _, fun _ => rfl, HB0⟩
  case round =>
    clear HG0 HB0
    obtain ⟨left, cnt, ss, hrg, hsc, hG, hrow, hnil, hbel⟩ := hrel
    go_wp2_with (at_next; refine wpList_next_ranges_ii _ rfl _ rfl 3 32 .i64 .i64 law3 Try.underlying3 Try.underlying32 b w.heap.size m _ _ _ rfl hrg.out ?_ ?_)
    · intro _ hl0
      have HL : Hid (∀ x, x ∈ ss ↔ conf M txn mode x) := fun x => by
        rw [hG.out.mem x]
        exact ⟨fun h => h.1, fun h => ⟨h, hl0 _⟩⟩
      clear hl0 hrg
      cases hss : ss with
      | nil =>
        have e := hnil.out hss
        subst hss
        subst e
        go_wp2_with fail
        refine (sort_none _ _).mono ?_
        rintro e w2 ⟨rfl, rfl⟩
        go_wp2_with fail
        go_ret
        exact ⟨none, 0, [], rfl, ⟨rfl, by simp, fun h => absurd h (by simp)⟩, by simp, List.Pairwise.nil, HL.out, by simp, hbel.out⟩
      | cons y ys =>
        have hpos : 0 < ss.length := by rw [hss]; simp
        have HP : Hid (0 < ss.length) := hpos
        clear hpos hss
        rcases hrow.out.2 with ⟨_, h0⟩ | ⟨g, cap, cur, rfl, hbase, hb, h1, h2, h3, h4⟩
        · have := HP.out; omega
        have HC := sort_own g cap w.heap.size ss wr w cur hbase hb h1 h2 h3 h4 (by omega) hbel.out hbel.out.size
        have HC' : Hid (Calls Try.prog 18 #[.slice (some ⟨g, 0, none⟩) ss.length cap] wr fun e w' => e = .returned (.tuple #[]) ∧ w'.ownsRow w.heap.size 3 1 (.slice (some ⟨g, 0, none⟩) ss.length cap) ss.length ((ss.mergeSort fun x y => decide (x ≤ y)).map (Value.int .i64)) ∧ RowKit.Below w.heap.size w w') := HC
        have HS : Hid (_ ∧ _) := asc_sort ss hG.out.nodup
        have HWF := hG.out.wf
        have HW : Hid (∀ x ∈ ss, (Lit.int .i64 x).wf = true) := HWF
        clear HC h1 h2 h3 h4 hb hrow HWF
        go_wp2_with fail
        refine HC'.out.mono ?_
        rintro e w2 ⟨rfl, hrow2, hbel2⟩
        have HR : Hid (w2.ownsRow w.heap.size 3 1 (.slice (some ⟨g, 0, none⟩) ss.length cap) ss.length ((ss.mergeSort fun x y => decide (x ≤ y)).map (Value.int .i64))) := hrow2
        clear hrow2
        go_wp2_with fail
        go_ret
        have hl := HS.out.2.2
        have hr := HR.out
        rw [← hl] at hr
        obtain ⟨a', cap', e1, hI⟩ := own_ints hr (fun x hx => HW.out x ((HS.out.2.1 x).1 hx))
        refine ⟨a', cap', ss.mergeSort fun x y => decide (x ≤ y), ?_, hI, ?_, HS.out.1, fun x => (HS.out.2.1 x).trans (HL.out x), by rw [hl]; omega, hbel2⟩
        · rw [← e1, hl]; rfl
        · have : a' = some ⟨g, 0, none⟩ := by injection e1 with e2; exact e2.symm
          rw [this]
          have := HP.out
          constructor
          · intro h; omega
          · intro h; cases h
    · intro x c w1 cnt1 hwx hwc hlx hat hrg1 hlt hg1 hs1 hen
      have hMx : M x = some c := met HM.out hat
      have hb1 := hbel.out.grown hg1 hbel.out.size (fun j hj => by cases hj; exact Nat.le_refl _)
      have hr1 := hrow.out.kept hg1 (.inr (fun e => (row_ne_iter hrow.out hrg.out) e.symm))
      have HX : Hid (M x = some c) := hMx
      have HB1 : Hid (RowKit.Below w.heap.size w w1) := hb1
      have HR1 : Hid (w1.ownsRow w.heap.size 3 1 u9 ss.length (ss.map (Value.int .i64))) := hr1
      have HG1 : Hid (w1.ranges Try.prog 3 (plainElem Try.prog 32) b w.heap.size m D (fun z => left z && !z.sameKey (.int .i64 x)) cnt1) := hrg1
      have HLX : Hid (left (.int .i64 x) = true) := hlx
      have HWX : Hid ((Lit.int .i64 x).wf = true) := hwx
      have hsz1 := hb1.size
      clear hMx hb1 hr1 hrg1 hlx hwx hwc hat hg1 hs1 hrow hbel
      by_cases hxt : x = txn
      · have hq : (x != txn) = false := by simp [hxt]
        have HN : Hid (¬ conf M txn mode x) := fun ⟨_, _, h, _⟩ => h hxt
        clear hxt
        go_wp2_with fail
        go_roundw
        case rel => exact ⟨_, cnt1, ss, HG1, by omega, hG.out.drop x HN.out, HR1, hnil, HB1⟩
        case measure => rw [HG1.out.left_eq, hrg.out.left_eq]; exact hlt
      · have hq : (x != txn) = true := by simp [hxt]
        have HXT : Hid (x ≠ txn) := hxt
        clear hxt
        go_wp2_with fail
        refine (compat_any mode c _).mono ?_
        rintro e w2 ⟨rfl, rfl⟩
        by_cases hc : mode = 2 ∨ c = 2
        · have hq2 : (!(mode == 2) && !(c == 2)) = false := by rcases hc with h | h <;> simp [h]
          have HCF : Hid (conf M txn mode x) := ⟨c, HX.out, HXT.out, hc⟩
          clear hc
          rw [hq2]
          clear hq2
          go_wp2_with (at_builtin; refine append_int w2 rfl (.tmp 33) (.tmp 35) rfl w.heap.size u9 ss rfl HR1.out x rfl (by omega) w HB1.out hsz1 ?_; intro v3 w3 R1 R2 hnn hg3)
          have HG3 := HG1.out.kept hg3 (row_ne_low HR1.out hbl) (row_ne_iter HR1.out HG1.out)
          go_roundw
          case rel => exact ⟨_, cnt1, ss ++ [x], HG3, by simp; omega, hG.out.keep x HLX.out HCF.out HWX.out, R1, (fun h => absurd h (by simp)), R2⟩
          case measure => rw [HG3.left_eq, hrg.out.left_eq]; exact hlt
        · have hq2 : (!(mode == 2) && !(c == 2)) = true := by
            have h1 : ¬ mode = 2 := fun h => hc (.inl h)
            have h2 : ¬ c = 2 := fun h => hc (.inr h)
            simp [h1, h2]
          have HN : Hid (¬ conf M txn mode x) := fun ⟨c', h1, _, h2⟩ => hc (by
            rw [HX.out] at h1; injection h1 with h1; subst h1; exact h2)
          clear hc
          rw [hq2]
          clear hq2
          go_wp2_with fail
          go_roundw
          case rel => exact ⟨_, cnt1, ss, HG1, by omega, hG.out.drop x HN.out, HR1, hnil, HB1⟩
          case measure => rw [HG1.out.left_eq, hrg.out.left_eq]; exact hlt
end Go.Proofs.Qxb6629025a
