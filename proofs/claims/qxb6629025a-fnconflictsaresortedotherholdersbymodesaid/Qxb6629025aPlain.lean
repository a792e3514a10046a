/- Plain facts on ascending lists of ints. No Go. -/
namespace Go.Proofs.Qxb6629025a

theorem pw_mono {R S : Int → Int → Prop} (h : ∀ a b, R a b → S a b) : ∀ l : List Int, l.Pairwise R → l.Pairwise S
  | [], _ => List.Pairwise.nil
  | a :: l, hp => List.pairwise_cons.2 ⟨fun b hb => h a b ((List.pairwise_cons.1 hp).1 b hb), pw_mono h l (List.pairwise_cons.1 hp).2⟩
def Asc (l : List Int) : Prop := l.Pairwise (fun x y => x < y)
theorem asc_ext : ∀ {l l' : List Int}, Asc l → Asc l' → (∀ x, x ∈ l ↔ x ∈ l') → l = l'
  | [], [], _, _, _ => rfl
  | [], b :: bs, _, _, h => by have := (h b).2 (by simp); simp at this
  | a :: cs, [], _, _, h => by have := (h a).1 (by simp); simp at this
  | a :: cs, b :: bs, h1, h2, h => by
    have ha := List.pairwise_cons.1 h1
    have hb := List.pairwise_cons.1 h2
    have e : a = b := by
      rcases List.mem_cons.1 ((h a).1 (by simp)) with e | m
      · exact e
      · rcases List.mem_cons.1 ((h b).2 (by simp)) with e' | m'
        · exact e'.symm
        · have x1 := hb.1 a m
          have x2 := ha.1 b m'
          omega
    subst e
    rw [asc_ext ha.2 hb.2 (fun x => ?_)]
    constructor
    · intro m
      rcases List.mem_cons.1 ((h x).1 (by simp [m])) with e | m'
      · have := ha.1 x m; omega
      · exact m'
    · intro m
      rcases List.mem_cons.1 ((h x).2 (by simp [m])) with e | m'
      · have := hb.1 x m; omega
      · exact m'
theorem asc_sort (ss : List Int) (hn : ss.Nodup) : Asc (ss.mergeSort fun x y => decide (x ≤ y)) ∧ (∀ x, x ∈ (ss.mergeSort fun x y => decide (x ≤ y)) ↔ x ∈ ss) ∧ (ss.mergeSort fun x y => decide (x ≤ y)).length = ss.length := by
  have hp := List.mergeSort_perm ss (fun x y => decide (x ≤ y))
  have hs := List.pairwise_mergeSort (le := fun x y : Int => decide (x ≤ y)) (fun a b c h1 h2 => by simp only [decide_eq_true_eq] at *; omega) (fun a b => by simp only [Bool.or_eq_true, decide_eq_true_eq]; omega) ss
  have hd : (ss.mergeSort fun x y => decide (x ≤ y)).Nodup := hp.nodup_iff.2 hn
  refine ⟨?_, fun x => hp.mem_iff, hp.length_eq⟩
  unfold Asc
  refine pw_mono ?_ _ (List.pairwise_and_iff.2 ⟨hs, hd⟩)
  intro a b h
  have h1 : a ≤ b := by simpa using h.1
  have h2 : a ≠ b := h.2
  omega
theorem asc_nodup {l : List Int} (h : Asc l) : l.Nodup := by
  refine pw_mono ?_ _ h
  intro a b h e; omega
end Go.Proofs.Qxb6629025a
