import Derived.Test.YoecmwPlain
namespace Go.Proofs.Yoecmw.Pl

/-! ### the decimal digits of a number, most significant first -/
def digs : Nat → Nat → List UInt8
  | 0, _ => []
  | D + 1, n => digs D (n / 10) ++ [UInt8.ofNat (48 + n % 10)]

theorem digs_length (D : Nat) : ∀ n, (digs D n).length = D := by
  induction D with
  | zero => intro n; rfl
  | succ D ih => intro n; simp [digs, ih]

theorem ofNat_dig (n : Nat) : (UInt8.ofNat (48 + n % 10)).toNat = 48 + n % 10 := by
  simp [UInt8.toNat_ofNat']; omega

theorem digs_dig (D : Nat) : ∀ n, ∀ c ∈ digs D n, dig c = true := by
  induction D with
  | zero => intro n c hc; simp [digs] at hc
  | succ D ih =>
    intro n c hc
    simp only [digs, List.mem_append, List.mem_singleton] at hc
    rcases hc with hc | rfl
    · exact ih _ c hc
    · have := ofNat_dig n
      simp only [dig, this]
      simp; omega

theorem digs_val (D : Nat) : ∀ n, n < 10 ^ D → val (digs D n) 0 = n := by
  induction D with
  | zero => intro n h; simp at h; simp [digs, val, h]
  | succ D ih =>
    intro n h
    rw [Nat.pow_succ] at h
    rw [digs, val_snoc, ih (n / 10) (by omega), ofNat_dig]
    omega

theorem digs_numOf (D n : Nat) (h : n < 10 ^ (D + 1)) : numOf (digs (D + 1) n) = if 10000009 < n then none else some n := by
  have hne : digs (D + 1) n ≠ [] := by simp [digs]
  have hdl : (digs (D + 1) n).dropLast = digs D (n / 10) := by simp [digs]
  rw [Nat.pow_succ] at h
  have hv := digs_val D (n / 10) (by omega)
  rw [numOf, if_neg hne, pnv_digits _ _ (digs_dig _ _), hdl, hv, digs_val (D + 1) n (by rw [Nat.pow_succ]; omega)]
  by_cases h9 : 10000009 < n
  · rw [if_pos h9, if_pos ⟨hne, by omega⟩]
  · rw [if_neg h9, if_neg (by omega)]

theorem div_pow_succ (n m : Nat) : n / 10 ^ (m + 1) = n / 10 ^ m / 10 := by
  rw [Nat.pow_succ, Nat.div_div_eq_div_mul]

theorem digs_get (D : Nat) : ∀ n j, (h : j < (digs D n).length) → (digs D n)[j].toNat = 48 + n / 10 ^ (D - 1 - j) % 10 := by
  induction D with
  | zero => intro n j h; simp [digs] at h
  | succ D ih =>
    intro n j h
    rw [digs_length] at h
    by_cases hj : j < D
    · have e : (digs (D + 1) n)[j]'(by rw [digs_length]; exact h) = (digs D (n / 10))[j]'(by rw [digs_length]; exact hj) := by
        simp only [digs]
        rw [List.getElem_append_left]
      rw [e, ih]
      have e2 : D + 1 - 1 - j = (D - 1 - j) + 1 := by omega
      rw [e2, Nat.pow_succ, Nat.mul_comm, Nat.div_div_eq_div_mul]
    · obtain rfl : j = D := by omega
      have e : (digs (j + 1) n)[j]'(by rw [digs_length]; exact h) = UInt8.ofNat (48 + n % 10) := by
        simp only [digs]
        rw [List.getElem_append_right (by rw [digs_length]; omega)]
        simp
      rw [e, ofNat_dig]
      simp

/-- How many digits it has. -/
structure NDig (N D : Nat) : Prop where
  one : 1 ≤ D
  hi : N < 10 ^ D
  lo : ∀ m, m + 1 < D → 0 < N / 10 ^ (m + 1)

theorem ndig_ex (B : Nat) : ∀ N, N < 10 ^ (B + 1) → ∃ D, NDig N D ∧ D ≤ B + 1 := by
  induction B with
  | zero => intro N h; exact ⟨1, ⟨by omega, h, fun m hm => by omega⟩, by omega⟩
  | succ B ih =>
    intro N h
    by_cases h2 : N < 10 ^ (B + 1)
    · obtain ⟨D, hD, hle⟩ := ih N h2
      exact ⟨D, hD, by omega⟩
    · refine ⟨B + 2, ⟨by omega, h, fun m hm => ?_⟩, by omega⟩
      have : 10 ^ (m + 1) ≤ 10 ^ (B + 1) := Nat.pow_le_pow_right (by omega) (by omega)
      exact Nat.div_pos (by omega) (Nat.pow_pos (by omega))

theorem ndig_u64 (N : Nat) (h : N < 18446744073709551616) : ∃ D, NDig N D ∧ D ≤ 20 :=
  ndig_ex 19 N (by omega)

/-- The first loop's state: u is what is left behind m digits. -/
structure Lp (N D m u : Nat) : Prop where
  lt : m < D
  out : u = N / 10 ^ m

theorem Lp.more {N D m u : Nat} (hD : NDig N D) (h : Lp N D m u) (hm : m + 1 < D) : Lp N D (m + 1) (u / 10) ∧ 0 < u / 10 := by
  have h1 := hD.lo m hm
  rw [div_pow_succ, ← h.out] at h1
  exact ⟨⟨hm, by rw [h.out, div_pow_succ]⟩, h1⟩

theorem Lp.last {N D m u : Nat} (hD : NDig N D) (h : Lp N D m u) (hm : ¬ m + 1 < D) : u / 10 = 0 ∧ m + 1 = D := by
  have hlt := h.lt
  have e : D = m + 1 := by omega
  have := hD.hi
  rw [e] at this
  refine ⟨?_, e.symm⟩
  rw [h.out, ← div_pow_succ]
  exact Nat.div_eq_of_lt this

end Go.Proofs.Yoecmw.Pl
