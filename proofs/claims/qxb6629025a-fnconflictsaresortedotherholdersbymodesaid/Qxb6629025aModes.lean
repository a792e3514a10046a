import Derived.Test.Qxb6629025aLists
import Derived.Maps.Own
import Derived.Maps.OwnOps
import Derived.Maps.OwnSet
import Derived.Maps.RangeWalk
import Derived.RegionTactic
import Derived.BigRegion
namespace Go.Proofs.Qxb6629025a
open Go.RowKit Go.Maps

theorem law3 : Keyed Try.prog 3 := int_keyed Try.underlying3
theorem key3 (x : Int) : WideAt.IsKeyLit (.int .i64 x) := trivial

/-- Block b is a map[int]Mode of at most n entries that holds M. -/
def IsModes (w : World) (b n : Nat) (M : Int → Option Int) : Prop :=
  ∃ D : DataW Unit, w.ownsMap Try.prog 3 (plainElem Try.prog 32) b n D ∧ ∀ x : Int, Maps.has D (.int .i64 x) = (M x).isSome ∧ ∀ v, M x = some v → ∀ z, D.atKey (.int .i64 x) z = .lit (.int .i64 v)
/-- M with v at x -/
def putM (M : Int → Option Int) (x v : Int) : Int → Option Int := fun y => if y = x then some v else M y

theorem modes_put {D : DataW Unit} {M : Int → Option Int} (hD : IsMap D) (x v : Int)
    (h : ∀ x : Int, Maps.has D (.int .i64 x) = (M x).isSome ∧ ∀ v, M x = some v → ∀ z, D.atKey (.int .i64 x) z = .lit (.int .i64 v)) :
    ∀ y : Int, Maps.has (D.put (.int .i64 x) (.lit (.int .i64 v))) (.int .i64 y) = (putM M x v y).isSome ∧ ∀ u, putM M x v y = some u → ∀ z, (D.put (.int .i64 x) (.lit (.int .i64 v))).atKey (.int .i64 y) z = .lit (.int .i64 u) := by
  intro y
  by_cases e : y = x
  · subst e
    unfold putM
    rw [if_pos rfl]
    exact ⟨by rw [has_put_same hD (key3 y)]; rfl, fun u hu z => by rw [atKey_put_same hD (key3 y)]; cases hu; rfl⟩
  · unfold putM
    rw [if_neg e]
    have hne : (Lit.int .i64 y) ≠ .int .i64 x := fun h => e (by injection h)
    exact ⟨by rw [has_put_other hne]; exact (h y).1, fun u hu z => by rw [atKey_put_other hne]; exact (h y).2 u hu z⟩

theorem IsModes.below {w w' : World} {b n : Nat} {M : Int → Option Int} (h : IsModes w b n M) (hb : Below w.heap.size w w') : IsModes w' b n M := by
  obtain ⟨D, ho, hM⟩ := h
  exact ⟨D, ho.kept (row := none) ⟨hb.os, hb.tape, hb.output, hb.size, fun i hi _ => hb.block i hi⟩ (by simp), hM⟩
theorem IsModes.lt {w : World} {b n : Nat} {M : Int → Option Int} (h : IsModes w b n M) : b < w.heap.size := by
  obtain ⟨D, ho, _⟩ := h; exact ho.lt

/-- m[x] = v at such a map, as a run -/
theorem IsModes.update {w : World} {b n : Nat} {M : Int → Option Int} (h : IsModes w b n M) (hn : n < maxLen) (x v : Int) (hx : (Lit.int .i64 x).wf = true) (hv : (Lit.int .i64 v).wf = true) :
    ∃ w', (Instr.mapUpdate 26 (.map (some b)) (.int .i64 x) (.int .i64 v)).run Try.prog w = .ok () w' ∧ IsModes w' b (n + 1) (putM M x v) ∧ w.grownBy w' (some b) := by
  obtain ⟨D, ho, hM⟩ := h
  obtain ⟨w', h1, h2, h3⟩ := ho.update law3 Try.underlying26 hn (keyOf_int_mk Try.underlying3 hx) (plainElem_int Try.underlying32 hv)
  exact ⟨w', h1, ⟨_, h2, modes_put ho.isMap x v hM⟩, h3⟩
theorem IsModes.drew {w : World} {b n : Nat} {M : Int → Option Int} (h : IsModes w b n M) : IsModes w.drew b n M := h

/-- what zzLockMap has laid behind k rounds -/
def mTo (hs ms : List Int) : Nat → Int → Option Int
  | 0 => fun _ => none
  | k + 1 => putM (mTo hs ms k) (hs.getD k 0) (ms.getD k 0)
theorem modes_made (w : World) (hs ms : List Int) : IsModes (w.alloc (.map #[] 0)) w.heap.size 0 (mTo hs ms 0) :=
  ⟨.map [], World.ownsMap_made w _ _ _, fun x => ⟨rfl, fun v hv => by cases hv⟩⟩

set_option maxHeartbeats 800000 in
theorem lockmap_any (a : Option Addr) (len cap : Nat) (hs : List Int) (a' : Option Addr) (len' cap' : Nat) (ms : List Int) (n : Nat) (w : World) (h : IsInts w a len hs) (h' : IsInts w a' len' ms) (hn : n ≤ len) (hn' : n ≤ len') (h1 : len ≤ 65536) (h1' : len' ≤ 65536) :
    Calls Try.prog 8 #[.slice a len cap, .slice a' len' cap', .int .i64 (n : Int)] w fun e w' => ∃ b, e = .returned (.map (some b)) ∧ w.heap.size ≤ b ∧ IsModes w' b n (mTo hs ms n) ∧ Below w.heap.size w w' := by
  have H : Hid (IsInts w a len hs) := h
  have H' : Hid (IsInts w a' len' ms) := h'
  clear h h'
  have hmm := @run_makeMap Try.prog
  go_enter Try.func8, Try.ntmps8
  go_wp2
  clear hmm
  go_loopw [8] (fun i wr => ∃ k : Nat, k ≤ n ∧ i = .int .i64 k ∧ Hid (IsModes wr w.heap.size k (mTo hs ms k)) ∧ Hid (Below w.heap.size w wr)) (fun i _ => n - (intOf i).toNat)
  case atStart => exact ⟨0, by omega, rfl, modes_made w hs ms, (Below.refl _ _).alloc (Nat.le_refl _) _⟩
  case round =>
    obtain ⟨k, hk, rfl, hM, hbel⟩ := hrel
    by_cases hlt : k < n
    · obtain ⟨b, off, rfl, hb, hc⟩ := H.out.2.2 (by omega)
      obtain ⟨b', off', rfl, hb', hc'⟩ := H'.out.2.2 (by omega)
      have hck : wr.cell? ⟨b, off + k, none⟩ = some (.int .i64 (hs.getD k 0)) := (hbel.out.cell (by exact hb)).trans (hc k (by omega))
      have hck' : wr.cell? ⟨b', off' + k, none⟩ = some (.int .i64 (ms.getD k 0)) := (hbel.out.cell (by exact hb')).trans (hc' k (by omega))
      have hwx : (Lit.int .i64 (hs.getD k 0)).wf = true := by
        have hkl : k < hs.length := by rw [H.out.1]; omega
        refine H.out.2.1 _ ?_
        rw [List.getD_eq_getElem?_getD, List.getElem?_eq_getElem hkl]; exact List.getElem_mem hkl
      have hwv : (Lit.int .i64 (ms.getD k 0)).wf = true := by
        have hkl : k < ms.length := by rw [H'.out.1]; omega
        refine H'.out.2.1 _ ?_
        rw [List.getD_eq_getElem?_getD, List.getElem?_eq_getElem hkl]; exact List.getElem_mem hkl
      obtain ⟨w1, hrun, hM1, hg1⟩ := (hM.out.drew).update (by unfold maxLen; omega) _ _ hwx hwv
      have HM1 : Hid (IsModes w1 w.heap.size (k + 1) (mTo hs ms (k + 1))) := hM1
      have HG1 : Hid (wr.drew.grownBy w1 (some w.heap.size)) := hg1
      clear hc hc' hwx hwv hM1 hg1
      generalize hs.getD k 0 = x at *
      generalize ms.getD k 0 = v at *
      have hk1 : k < len := by omega
      have hk2 : k < len' := by omega
      go_wp2
      go_region
      clear hrun
      go_wp2
      go_roundw
      case rel => exact ⟨k + 1, by omega, by go_num, HM1, (hbel.out.drew).grown HG1.out hbel.out.size (fun j hj => by cases hj; exact Nat.le_refl _)⟩
      case measure => simp [intOf]; omega
    · go_wp2
      go_ret
      have e : k = n := by omega
      subst e
      exact ⟨w.heap.size, rfl, Nat.le_refl _, hM.out, hbel.out⟩

/-! ### the outer map: a map value reads as its block's number -/
def R2 : Value → Option (DataW Unit × List MemPlace)
  | .map (some b) => some (.lit (.int .i64 b), [])
  | .map none => some (.nil, [])
  | _ => none
theorem law9 : Keyed Try.prog 9 := string_keyed Try.underlying9
theorem zero26 (w : World) : (zeroValue 26).run Try.prog w = .ok (.map none) w := by kernel_rfl
/-- Block K is a map[string]map[int]Mode of at most n entries that leads from 'key' to block b. -/
def IsKeys (w : World) (K n : Nat) (key : ByteArray) (b : Nat) : Prop :=
  ∃ D : DataW Unit, w.ownsMap Try.prog 9 R2 K n D ∧ ∀ z, D.atKey (.string key.data.toList) z = .lit (.int .i64 b)
theorem IsKeys.below {w w' : World} {K n b : Nat} {key : ByteArray} (h : IsKeys w K n key b) (hb : Below w.heap.size w w') : IsKeys w' K n key b := by
  obtain ⟨D, ho, hM⟩ := h
  exact ⟨D, ho.kept (row := none) ⟨hb.os, hb.tape, hb.output, hb.size, fun i hi _ => hb.block i hi⟩ (by simp), hM⟩
theorem R2_inv {v : Value} {b : Nat} {ps : List MemPlace} (h : R2 v = some (.lit (.int .i64 b), ps)) : v = .map (some b) := by
  unfold R2 at h
  split at h
  · rename_i b'
    simp at h
    have e : b' = b := by omega
    rw [e]
  · cases h
  · cases h
theorem IsKeys.lookup {w : World} {K n b : Nat} {key : ByteArray} (h : IsKeys w K n key b) (hk : key.size ≤ maxLen) :
    (Instr.lookup 28 (.map (some K)) (.string key) false).run Try.prog w = .ok (.map (some b)) w := by
  obtain ⟨D, ho, hM⟩ := h
  obtain ⟨v, ps, hrun, hv⟩ := ho.lookup law9 Try.underlying28 (zero26 w) (zd := .nil) (zp := []) rfl (WideMaps.keyOf_string_mk Try.underlying9 hk)
  rw [hM] at hv
  rw [hrun, R2_inv hv]
theorem keys_update_same {w : World} {K n b : Nat} {D : DataW Unit} (ho : w.ownsMap Try.prog 9 R2 K n D) (hn : n < maxLen) (key : ByteArray) (hk : key.size ≤ maxLen) :
    ∃ w', (Instr.mapUpdate 28 (.map (some K)) (.string key) (.map (some b))).run Try.prog w = .ok () w' ∧ IsKeys w' K (n + 1) key b ∧ w.grownBy w' (some K) := by
  obtain ⟨w', h1, h2, h3⟩ := ho.update law9 Try.underlying28 hn (WideMaps.keyOf_string_mk Try.underlying9 hk) (val := .map (some b)) (d := .lit (.int .i64 b)) (ps := []) rfl
  exact ⟨w', h1, ⟨_, h2, fun z => atKey_put_same ho.isMap (show WideAt.IsKeyLit (.string key.data.toList) from trivial) _ _⟩, h3⟩
theorem IsKeys.update_other {w : World} {K n b b' : Nat} {key other : ByteArray} (h : IsKeys w K n key b) (hn : n < maxLen) (hk : other.size ≤ maxLen) (hne : key.data.toList ≠ other.data.toList) :
    ∃ w', (Instr.mapUpdate 28 (.map (some K)) (.string other) (.map (some b'))).run Try.prog w = .ok () w' ∧ IsKeys w' K (n + 1) key b ∧ w.grownBy w' (some K) := by
  obtain ⟨D, ho, hM⟩ := h
  obtain ⟨w', h1, h2, h3⟩ := ho.update law9 Try.underlying28 hn (WideMaps.keyOf_string_mk Try.underlying9 hk) (val := .map (some b')) (d := .lit (.int .i64 b')) (ps := []) rfl
  exact ⟨w', h1, ⟨_, h2, fun z => by rw [atKey_put_other (fun e => hne (by injection e))]; exact hM z⟩, h3⟩

theorem table_any (K : Nat) (w : World) : Calls Try.prog 9 #[.map (some K)] w fun e w' => ∃ T, e = .returned (.pointer (some ⟨T, 0, none⟩)) ∧ T < w'.heap.size ∧ w'.cell? ⟨T, 0, none⟩ = some (.map (some K)) ∧ Below w.heap.size w w' := by
  go_enter Try.func9, Try.ntmps9
  go_wp2
  go_ret
  exact ⟨w.heap.size, rfl, by simp, by rw [World.cell?_alloc_at _ _ _ _ rfl]; rfl, (Below.refl _ _).alloc (Nat.le_refl _) _⟩
end Go.Proofs.Qxb6629025a
