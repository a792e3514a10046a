import Derived.Test.Qxb6629025aAddWalk
namespace Go.Proofs.Qxb6629025a
open Go.RowKit Go.Maps

/-- what zzOtherHoldersSorted has gathered behind k rounds: l -/
structure Oth (hs : List Int) (txn : Int) (k : Nat) (l : List Int) : Prop where
  asc : Asc l
  mem : ∀ x, x ∈ l ↔ x ∈ hs.take k ∧ x ≠ txn
  len : l.length ≤ k
theorem Oth.start (hs : List Int) (txn : Int) : Oth hs txn 0 [] where
  asc := List.Pairwise.nil
  mem := fun x => by simp
  len := by simp
theorem mem_take_succ (hs : List Int) (k : Nat) (h : k < hs.length) (x : Int) : x ∈ hs.take (k + 1) ↔ x ∈ hs.take k ∨ x = hs.getD k 0 := by
  rw [take_succ_getD hs k h, List.mem_append]; simp
theorem Oth.skip {hs : List Int} {txn : Int} {k : Nat} {l : List Int} (h : Oth hs txn k l) (hk : k < hs.length) (hc : hs.getD k 0 = txn ∨ hs.getD k 0 ∈ hs.take k) : Oth hs txn (k + 1) l where
  asc := h.asc
  mem := fun x => by
    rw [h.mem, mem_take_succ hs k hk]
    constructor
    · rintro ⟨a, b⟩; exact ⟨.inl a, b⟩
    · rintro ⟨a | a, b⟩
      · exact ⟨a, b⟩
      · rcases hc with hc | hc
        · rw [hc] at a; exact absurd a b
        · rw [a]; rw [a] at b; exact ⟨hc, b⟩
  len := by have := h.len; omega
theorem Oth.put {hs : List Int} {txn : Int} {k : Nat} {l : List Int} (h : Oth hs txn k l) (hk : k < hs.length) (h1 : hs.getD k 0 ≠ txn) (h2 : hs.getD k 0 ∉ hs.take k) : Oth hs txn (k + 1) (ins (hs.getD k 0) l) where
  asc := asc_ins _ h.asc (fun hm => h2 ((h.mem _).1 hm).1)
  mem := fun x => by
    rw [ins_mem, h.mem, mem_take_succ hs k hk]
    constructor
    · rintro (e | ⟨a, b⟩)
      · rw [e]; exact ⟨.inr rfl, h1⟩
      · exact ⟨.inl a, b⟩
    · rintro ⟨a | a, b⟩
      · exact .inr ⟨a, b⟩
      · exact .inl a
  len := by rw [ins_len]; have := h.len; omega
theorem mem_take_of (hs : List Int) (j k : Nat) (hj : j < k) (hk : k ≤ hs.length) : hs.getD j 0 ∈ hs.take k := by
  have h1 : j < (hs.take k).length := by rw [List.length_take]; omega
  have h2 : (hs.take k)[j] = hs.getD j 0 := by
    rw [List.getElem_take, List.getD_eq_getElem?_getD, List.getElem?_eq_getElem (by omega)]; rfl
  rw [← h2]; exact List.getElem_mem h1
theorem not_mem_take (hs : List Int) (k : Nat) (y : Int) (hk : k ≤ hs.length) (h : ∀ j, j < k → hs.getD j 0 ≠ y) : y ∉ hs.take k := by
  intro hm
  obtain ⟨j, hj, e⟩ := List.getElem_of_mem hm
  rw [List.length_take] at hj
  refine h j (by omega) ?_
  rw [← e, List.getElem_take, List.getD_eq_getElem?_getD, List.getElem?_eq_getElem (by omega)]; rfl

set_option maxHeartbeats 1600000 in
theorem other_any (a : Option Addr) (len cap n : Nat) (hs : List Int) (txn : Int) (w : World) (h : IsInts w a len hs) (h1 : len ≤ 4096) (hn : n ≤ len) :
    Calls Try.prog 11 #[.slice a len cap, .int .i64 (n : Int), .int .i64 txn] w fun e w' =>
      ∃ a' cap' l, e = .returned (.slice a' l.length cap') ∧ IsInts w' a' l.length l ∧ Oth hs txn n l ∧ Below w.heap.size w w' := by
  have H : Hid (IsInts w a len hs) := h
  have HL : Hid (hs.length = len) := h.1
  clear h
  go_enter Try.func11, Try.ntmps11
  go_wp2
  go_loopw [7, 8] (fun s i wr => ∃ (k : Nat) (aR : Option Addr) (cR : Nat) (l : List Int), k ≤ n ∧ i = .int .i64 k ∧ s = .slice aR l.length cR ∧ Hid (IsInts wr aR l.length l) ∧ l.length ≤ k ∧ Hid (Oth hs txn k l) ∧ Hid (Below w.heap.size w wr)) (fun _ i _ => n - (intOf i).toNat)
  case atStart => exact ⟨0, none, 0, [], by omega, rfl, rfl, ⟨rfl, by simp, fun h => absurd h (by simp)⟩, by simp, Oth.start hs txn, Below.refl _ _⟩
  case round =>
    obtain ⟨k, aR, cR, l, hk, rfl, rfl, hI, hll, hO, hbel⟩ := hrel
    by_cases hlt : k < n
    · obtain ⟨b, off, rfl, hb, hc⟩ := H.out.2.2 (by omega)
      have hcw : ∀ j, j < len → wr.cell? ⟨b, off + j, none⟩ = some (.int .i64 (hs.getD j 0)) := fun j hj => (hbel.out.cell (by exact hb)).trans (hc j hj)
      have HC : Hid (∀ j, j < len → wr.cell? ⟨b, off + j, none⟩ = some (.int .i64 (hs.getD j 0))) := hcw
      have hck := hcw k (by omega)
      have HWF : Hid ((Lit.int .i64 (hs.getD k 0)).wf = true) := by
        have hkl : k < hs.length := by rw [HL.out]; omega
        refine H.out.2.1 _ ?_
        rw [List.getD_eq_getElem?_getD, List.getElem?_eq_getElem hkl]; exact List.getElem_mem hkl
      have hkl : k < hs.length := by rw [HL.out]; omega
      clear hc hcw
      by_cases hxt : hs.getD k 0 = txn
      · have HS : Hid (Oth hs txn (k + 1) l) := hO.out.skip hkl (.inl hxt)
        have q : (hs.getD k 0 == txn) = true := by simp only [hxt, beq_self_eq_true]
        clear hxt
        generalize hs.getD k 0 = y at *
        go_wp2
        go_roundw
        case rel => exact ⟨k + 1, aR, cR, l, by omega, by go_num, rfl, hI, by omega, HS, hbel⟩
        case measure => simp [intOf]; omega
      · have q : (hs.getD k 0 == txn) = false := by simp only [beq_eq_false_iff_ne]; exact hxt
        have HXT : Hid (hs.getD k 0 ≠ txn) := hxt
        have HSK : Hid (hs.getD k 0 ∈ hs.take k → Oth hs txn (k + 1) l) := fun hm => hO.out.skip hkl (.inr hm)
        have HPU : Hid (hs.getD k 0 ∉ hs.take k → Oth hs txn (k + 1) (ins (hs.getD k 0) l)) := fun hm => hO.out.put hkl HXT.out hm
        clear hxt
        generalize hs.getD k 0 = y at *
        go_wp2
        go_loop [10, 11] (fun sn j => ∃ (i : Nat), i ≤ k ∧ j = .int .i64 i ∧ sn = .bool false ∧ Hid (∀ j, j < i → hs.getD j 0 ≠ y)) (fun _ j => k - (intOf j).toNat)
        case atStart => exact ⟨0, by omega, rfl, rfl, fun j hj => absurd hj (by omega)⟩
        case round =>
          obtain ⟨i, hi, rfl, rfl, hN⟩ := hrel
          by_cases hli : i < k
          · have hci := HC.out i (by omega)
            by_cases hey : hs.getD i 0 = y
            · have HM : Hid (y ∈ hs.take k) := by rw [← hey]; exact mem_take_of hs i k hli (by omega)
              have qq : (hs.getD i 0 == y) = true := by simp only [hey, beq_self_eq_true]
              clear hey
              generalize hs.getD i 0 = z at *
              go_wp2
              go_roundw
              case rel => exact ⟨k + 1, aR, cR, l, by omega, by go_num, rfl, hI, by omega, HSK.out HM.out, hbel⟩
              case measure => simp [intOf]; omega
            · have qq : (hs.getD i 0 == y) = false := by simp only [beq_eq_false_iff_ne]; exact hey
              have HEY : Hid (hs.getD i 0 ≠ y) := hey
              clear hey
              have HN2 : Hid (∀ j, j < i + 1 → hs.getD j 0 ≠ y) := fun j hj => by
                by_cases e : j = i
                · rw [e]; exact HEY.out
                · exact hN.out j (by omega)
              generalize hs.getD i 0 = z at *
              go_wp2
              go_round
              case rel => exact ⟨i + 1, by omega, by go_num, rfl, HN2⟩
              case measure => simp [intOf]; omega
          · have HP : Hid (Oth hs txn (k + 1) (ins y l)) := HPU.out (not_mem_take hs k y (by omega) (fun j hj => hN.out j (by omega)))
            go_wp2_with fail
            refine (insert_any aR l.length cR l y _ hI.out (by omega) HWF.out).mono ?_
            rintro e w1 ⟨aI, cI, rfl, hII, hB1⟩
            have I1 : Hid (IsInts w1 aI (ins y l).length (ins y l)) := hII
            have B1 : Hid (Below w.heap.size w w1) := hbel.out.trans (hB1.mono hbel.out.size)
            have hil : (ins y l).length ≤ k + 1 := by rw [ins_len]; omega
            clear hII hB1
            go_wp2_with fail
            go_roundw
            case rel => exact ⟨k + 1, aI, cI, ins y l, by omega, by go_num, rfl, I1, hil, HP, B1⟩
            case measure => simp [intOf]; omega
    · go_wp2
      go_ret
      have e : k = n := by omega
      subst e
      exact ⟨aR, cR, l, rfl, hI.out, hO.out, hbel.out⟩
end Go.Proofs.Qxb6629025a
