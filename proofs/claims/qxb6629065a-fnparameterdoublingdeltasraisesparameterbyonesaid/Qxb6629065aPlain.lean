/- The plain side of this seat: no Go. -/
namespace Go.Proofs.Qxb6629065a

/-- the delta at i, with uint32 wrap-around -/
def dl (z : Nat → Int) (i : Nat) : Nat := ((z i - z (i - 1)) % 4294967296).toNat
/-- the quotients at places 1 .. j-1, added up -/
def S (z : Nat → Int) (k : Nat) : Nat → Nat
  | 0 => 0
  | j + 1 => S z k j + (if j = 0 then 0 else dl z j / 2 ^ k)
/-- what one bit more saves at places 1 .. j-1 -/
def M (z : Nat → Int) (k : Nat) : Nat → Nat
  | 0 => 0
  | j + 1 => M z k j + (if j = 0 then 0 else (dl z j / 2 ^ k + 1) / 2)
theorem dl_lt (z : Nat → Int) (i : Nat) : dl z i < 4294967296 := by unfold dl; omega
theorem div_le (z : Nat → Int) (i k : Nat) : dl z i / 2 ^ k ≤ 4294967295 := by
  have := dl_lt z i
  have := Nat.div_le_self (dl z i) (2 ^ k)
  omega
theorem S_le' (z : Nat → Int) (k C : Nat) (hC : ∀ i, dl z i / 2 ^ k ≤ C) : ∀ j, S z k j ≤ j * C
  | 0 => by simp [S]
  | j + 1 => by
    have h := S_le' z k C hC j
    have h2 := hC j
    rw [Nat.succ_mul]
    unfold S
    split
    · omega
    · omega
theorem M_le' (z : Nat → Int) (k C : Nat) (hC : ∀ i, dl z i / 2 ^ k + 1 ≤ C) : ∀ j, M z k j ≤ j * C
  | 0 => by simp [M]
  | j + 1 => by
    have h := M_le' z k C hC j
    have h2 := hC j
    rw [Nat.succ_mul]
    unfold M
    generalize dl z j / 2 ^ k = q at *
    split
    · omega
    · omega
theorem S_le (z : Nat → Int) (k j n : Nat) (hj : j ≤ n) (hn : n ≤ 262144) : S z k j ≤ 1125899906580480 := by
  have h := S_le' z k 4294967295 (fun i => div_le z i k) j
  have h2 : j * 4294967295 ≤ 262144 * 4294967295 := Nat.mul_le_mul_right _ (by omega)
  exact Nat.le_trans h (Nat.le_trans h2 (by decide))
theorem M_le (z : Nat → Int) (k j n : Nat) (hj : j ≤ n) (hn : n ≤ 262144) : M z k j ≤ 1125899906842624 := by
  have h := M_le' z k 4294967296 (fun i => by have := div_le z i k; omega) j
  have h2 : j * 4294967296 ≤ 262144 * 4294967296 := Nat.mul_le_mul_right _ (by omega)
  exact Nat.le_trans h (Nat.le_trans h2 (by decide))
theorem halves (q : Nat) : q = q / 2 + (q + 1) / 2 := by omega
/-- S (k+1) + M k = S k -/
theorem S_step (z : Nat → Int) (k : Nat) : ∀ j, S z (k + 1) j + M z k j = S z k j
  | 0 => by simp [S, M]
  | j + 1 => by
    have h := S_step z k j
    have e : dl z j / 2 ^ (k + 1) = dl z j / 2 ^ k / 2 := by rw [Nat.div_div_eq_div_mul, Nat.pow_succ]
    have h2 := halves (dl z j / 2 ^ k)
    unfold S M
    rw [e]
    generalize dl z j / 2 ^ k = q at *
    split
    · omega
    · omega
/-- M falls with k -/
theorem M_mono (z : Nat → Int) (k : Nat) : ∀ j, M z (k + 1) j ≤ M z k j
  | 0 => by simp [M]
  | j + 1 => by
    have h := M_mono z k j
    have e : dl z j / 2 ^ (k + 1) = dl z j / 2 ^ k / 2 := by rw [Nat.div_div_eq_div_mul, Nat.pow_succ]
    unfold M
    rw [e]
    generalize dl z j / 2 ^ k = q at *
    split
    · omega
    · omega
theorem M_mono' (z : Nat → Int) (n k : Nat) : ∀ d, M z (k + d) n ≤ M z k n
  | 0 => Nat.le_refl _
  | d + 1 => Nat.le_trans (M_mono z (k + d) n) (M_mono' z n k d)
/-- p is the first k of 3 .. 29 at which M k is at most b, 30 if there is none -/
structure IsFirst (m : Nat → Nat) (b p : Nat) : Prop where
  lo : 3 ≤ p
  hi : p ≤ 30
  before : ∀ k, 3 ≤ k → k < p → b < m k
  at_p : p < 30 → m p ≤ b
theorem first_unique {m : Nat → Nat} {b p q : Nat} (h : IsFirst m b p) (g : IsFirst m b q) : p = q := by
  rcases Nat.lt_trichotomy p q with e | e | e
  · have h1 := h.at_p (by have := g.hi; omega)
    have h2 := g.before p h.lo e
    omega
  · exact e
  · have h1 := g.at_p (by have := h.hi; omega)
    have h2 := h.before q g.lo e
    omega
/-- the length of the code under parameter k, n values -/
def bits (z : Nat → Int) (n k : Nat) : Nat := (n - 1) * (k + 1) + S z k n
theorem bits_step (z : Nat → Int) (n k : Nat) : bits z n (k + 1) + M z k n = bits z n k + (n - 1) := by
  have h := S_step z k n
  unfold bits
  rw [Nat.mul_add (n - 1) (k + 1) 1]
  omega
theorem bits_lt (z : Nat → Int) (n k : Nat) (hn : n ≤ 262144) (hk : k ≤ 30) : bits z n k < 18446744073709551615 := by
  have h := S_le z k n n (Nat.le_refl _) hn
  have h2 : (n - 1) * (k + 1) ≤ 262144 * 31 := Nat.mul_le_mul (by omega) (by omega)
  unfold bits
  omega
/-- what the scan holds when it has looked at 3 .. k-1: the best so far -/
structure Scan (z : Nat → Int) (n k p m : Nat) : Prop where
  start : k = 3 → p = 3 ∧ m = 18446744073709551615
  lo : 3 ≤ p
  held : 3 < k → m = bits z n p ∧ p < k
  before : ∀ j, 3 ≤ j → j < p → n - 1 < M z j n
  at_p : 3 < k → p + 1 < k → M z p n ≤ n - 1
theorem Scan.init (z : Nat → Int) (n : Nat) : Scan z n 3 3 18446744073709551615 where
  start := fun _ => ⟨rfl, rfl⟩
  lo := Nat.le_refl _
  held := fun h => absurd h (by omega)
  before := fun j h1 h2 => absurd h2 (by omega)
  at_p := fun h => absurd h (by omega)
/-- past the first stop the length never falls -/
theorem bits_rise (z : Nat → Int) (n p : Nat) (h : M z p n ≤ n - 1) : ∀ d, bits z n p ≤ bits z n (p + d)
  | 0 => Nat.le_refl _
  | d + 1 => by
    have h1 := bits_rise z n p h d
    have h2 := bits_step z n (p + d)
    have h3 := M_mono' z n p d
    show bits z n p ≤ bits z n (p + d + 1)
    omega
theorem Scan.better {z : Nat → Int} {n k p m : Nat} (s : Scan z n k p m) (hk : 3 ≤ k) (h : bits z n k < m) : Scan z n (k + 1) k (bits z n k) where
  start := fun e => absurd e (by omega)
  lo := hk
  held := fun _ => ⟨rfl, by omega⟩
  before := fun j h1 h2 => by
    by_cases e : k = 3
    · omega
    · have hh := s.held (by omega)
      have hp : ¬ p + 1 < k := fun hlt => by
        have h3 := s.at_p (by omega) hlt
        have h4 := bits_rise z n p h3 (k - p)
        rw [show p + (k - p) = k from by omega] at h4
        omega
      have hpk : p + 1 = k := by omega
      by_cases ej : j < p
      · exact s.before j h1 ej
      · have e2 : j = p := by omega
        subst e2
        have h5 := bits_step z n j
        rw [hpk] at h5
        omega
  at_p := fun _ h2 => absurd h2 (by omega)
theorem Scan.worse {z : Nat → Int} {n k p m : Nat} (s : Scan z n k p m) (hk : 3 < k) (h : ¬ bits z n k < m) : Scan z n (k + 1) p m where
  start := fun e => absurd e (by omega)
  lo := s.lo
  held := fun _ => ⟨(s.held hk).1, by have := (s.held hk).2; omega⟩
  before := s.before
  at_p := fun _ h2 => by
    by_cases e : p + 1 < k
    · exact s.at_p hk e
    · have hpk : p + 1 = k := by omega
      have h5 := bits_step z n p
      rw [hpk] at h5
      have := (s.held hk).1
      omega
theorem Scan.done {z : Nat → Int} {n p m : Nat} (s : Scan z n 31 p m) : IsFirst (fun k => M z k n) (n - 1) p where
  lo := s.lo
  hi := by have := (s.held (by omega)).2; omega
  before := s.before
  at_p := fun h => s.at_p (by omega) (by omega)
end Go.Proofs.Qxb6629065a
