namespace Go.Proofs.Yoecmw.Pl

/-- A decimal digit. -/
def dig (c : UInt8) : Bool := decide (48 ≤ c.toNat ∧ c.toNat ≤ 57)

/-- The decimal value of a row of digits, from n on. -/
def val : List UInt8 → Nat → Nat
  | [], n => n
  | c :: cs, n => val cs (n * 10 + (c.toNat - 48))

/-- 'parsenum' where it goes through: every byte a digit, what is read so far never too large. -/
def pnv : List UInt8 → Nat → Option Nat
  | [], n => some n
  | c :: cs, n => if dig c = true then (if 1000000 < n then none else pnv cs (n * 10 + (c.toNat - 48))) else none

/-- 'parsenum' whole: the number, 'is it one', the place. -/
def pn (e : Nat) : List UInt8 → Nat → Bool → Nat → Nat × Bool × Nat
  | [], n, b, i => (n, b, i)
  | c :: cs, n, b, i => if dig c = true then (if 1000000 < n then (0, false, e) else pn e cs (n * 10 + (c.toNat - 48)) true (i + 1)) else (n, b, i)

def numOf (l : List UInt8) : Option Nat := if l = [] then none else pnv l 0

theorem pn_some (e : Nat) (l : List UInt8) : ∀ (n : Nat) (b : Bool) (i v : Nat), i + l.length = e → (l = [] → b = true) → pnv l n = some v → pn e l n b i = (v, true, e) := by
  induction l with
  | nil => intro n b i v hi hb h; simp [pnv] at h; simp at hi; simp [pn, h, hb, hi]
  | cons c cs ih =>
    intro n b i v hi _ h
    simp only [pnv] at h
    simp only [pn]
    split at h
    · rename_i hd
      split at h
      · simp at h
      · rename_i hn
        rw [if_pos hd, if_neg hn]
        exact ih _ _ _ _ (by simp at hi; omega) (fun _ => rfl) h
    · simp at h

theorem pn_none (e : Nat) (l : List UInt8) : ∀ (n : Nat) (b : Bool) (i : Nat), i + l.length = e → pnv l n = none → (pn e l n b i).2.1 = false ∨ (pn e l n b i).2.2 < e := by
  induction l with
  | nil => intro n b i hi h; simp [pnv] at h
  | cons c cs ih =>
    intro n b i hi h
    simp only [pnv] at h
    simp only [pn]
    split at h
    · rename_i hd
      split at h
      · rename_i hn
        rw [if_pos hd, if_pos hn]; exact .inl rfl
      · rename_i hn
        rw [if_pos hd, if_neg hn]
        exact ih _ _ _ (by simp at hi; omega) h
    · rename_i hd
      rw [if_neg hd]
      right; simp at hi; simp; omega

theorem val_ge (l : List UInt8) : ∀ n, n ≤ val l n := by
  induction l with
  | nil => intro n; exact Nat.le_refl _
  | cons c cs ih => intro n; simp only [val]; have := ih (n * 10 + (c.toNat - 48)); omega

theorem val_snoc (l : List UInt8) (c : UInt8) : ∀ n, val (l ++ [c]) n = val l n * 10 + (c.toNat - 48) := by
  induction l with
  | nil => intro n; rfl
  | cons d ds ih => intro n; simp only [List.cons_append, val]; exact ih _

theorem val_hi (l : List UInt8) (hd : ∀ c ∈ l, dig c = true) : ∀ n, val l n + 1 ≤ (n + 1) * 10 ^ l.length := by
  induction l with
  | nil => intro n; simp [val]
  | cons c cs ih =>
    intro n
    have h := ih (fun x hx => hd x (List.mem_cons_of_mem _ hx)) (n * 10 + (c.toNat - 48))
    have h2 : dig c = true := hd c List.mem_cons_self
    simp [dig] at h2
    simp only [val, List.length_cons, Nat.pow_succ]
    refine Nat.le_trans h ?_
    have : (n * 10 + (c.toNat - 48) + 1) ≤ (n + 1) * 10 := by omega
    calc _ ≤ (n + 1) * 10 * 10 ^ cs.length := Nat.mul_le_mul_right _ this
      _ = _ := by rw [Nat.mul_assoc, Nat.mul_comm 10]

theorem val_lo (l : List UInt8) : ∀ n, n * 10 ^ l.length ≤ val l n := by
  induction l with
  | nil => intro n; simp [val]
  | cons c cs ih =>
    intro n
    have h := ih (n * 10 + (c.toNat - 48))
    simp only [val, List.length_cons, Nat.pow_succ]
    refine Nat.le_trans ?_ h
    have : n * 10 ≤ (n * 10 + (c.toNat - 48)) := by omega
    calc _ = n * 10 * 10 ^ cs.length := by rw [Nat.mul_assoc, Nat.mul_comm 10]
      _ ≤ _ := Nat.mul_le_mul_right _ this

/-- Over digits alone: it goes through iff all but the last digit stay within the bound. -/
theorem pnv_digits (l : List UInt8) : ∀ n, (∀ c ∈ l, dig c = true) → pnv l n = if l ≠ [] ∧ 1000000 < val l.dropLast n then none else some (val l n) := by
  induction l with
  | nil => intro n _; simp [pnv, val]
  | cons c cs ih =>
    intro n hd
    have hc : dig c = true := hd c List.mem_cons_self
    have hcs : ∀ x ∈ cs, dig x = true := fun x hx => hd x (List.mem_cons_of_mem _ hx)
    simp only [pnv, hc, if_true]
    by_cases hn : 1000000 < n
    · rw [if_pos hn, if_pos ⟨by simp, by have := val_ge (c :: cs).dropLast n; omega⟩]
    · rw [if_neg hn, ih _ hcs]
      match cs with
      | [] => simp [val, hn]
      | d :: ds => simp [val, List.dropLast]

theorem pnv_bad (l : List UInt8) : ∀ n, (∃ c ∈ l, dig c = false) → pnv l n = none := by
  induction l with
  | nil => intro n h; obtain ⟨c, hc, _⟩ := h; simp at hc
  | cons c cs ih =>
    intro n h
    simp only [pnv]
    by_cases hc : dig c = true
    · rw [if_pos hc]
      split
      · rfl
      · refine ih _ ?_
        obtain ⟨x, hx, hx2⟩ := h
        rcases List.mem_cons.1 hx with rfl | hx
        · rw [hc] at hx2; cases hx2
        · exact ⟨x, hx, hx2⟩
    · rw [if_neg hc]

theorem val_zeros (z r : List UInt8) (hz : ∀ c ∈ z, c.toNat = 48) : val (z ++ r) 0 = val r 0 := by
  induction z with
  | nil => rfl
  | cons c cs ih =>
    have hc := hz c List.mem_cons_self
    simp only [List.cons_append, val, hc]
    exact ih (fun x hx => hz x (List.mem_cons_of_mem _ hx))

theorem val_head (c : UInt8) (cs : List UInt8) : val (c :: cs) 0 = val cs (c.toNat - 48) := by simp [val]

/-- The model's law: z zeros, then r, whose head is no zero: it goes through iff r is short enough. -/
theorem pnv_model (z r : List UInt8) (hz : ∀ c ∈ z, c.toNat = 48) (hr : ∀ c ∈ r, dig c = true) (hh : ∀ c cs, r = c :: cs → c.toNat ≠ 48) (h : r.length ≤ 7 ∨ (r.length = 8 ∧ r.take 7 = [49, 48, 48, 48, 48, 48, 48])) :
    pnv (z ++ r) 0 = some (val r 0) ∧ val r 0 ≤ 10000009 := by
  have hd : ∀ c ∈ z ++ r, dig c = true := by
    intro c hc
    rcases List.mem_append.1 hc with h | h
    · simp [dig, hz c h]
    · exact hr c h
  have key : val (z ++ r).dropLast 0 ≤ 1000000 := by
    match hrr : r with
    | [] =>
      rw [List.append_nil]
      have : val z.dropLast 0 = val [] 0 := by rw [← List.append_nil z.dropLast]; exact val_zeros _ _ (fun c hc => hz c (List.dropLast_subset _ hc))
      rw [this]; simp [val]
    | a :: as =>
      rw [List.dropLast_append_of_ne_nil (by simp), val_zeros _ _ hz]
      rcases h with h | ⟨h, ht⟩
      · have hv := val_hi (a :: as).dropLast (fun c hc => hr c (List.dropLast_subset _ hc)) 0
        have hl : (a :: as).dropLast.length ≤ 6 := by simp at h ⊢; omega
        have hp : 10 ^ (a :: as).dropLast.length ≤ 10 ^ 6 := Nat.pow_le_pow_right (by omega) hl
        omega
      · have : (a :: as).dropLast = (a :: as).take 7 := by rw [List.dropLast_eq_take]; simp at h; simp [h]
        rw [this, ht]; decide
  refine ⟨?_, ?_⟩
  · rw [pnv_digits _ _ hd, if_neg (by omega), val_zeros _ _ hz]
  · match hrr : r with
    | [] => simp [val]
    | a :: as =>
      rcases h with h | ⟨h, ht⟩
      · have hv := val_hi (a :: as) hr 0
        have hp : 10 ^ (a :: as).length ≤ 10 ^ 7 := Nat.pow_le_pow_right (by omega) h
        omega
      · have e : a :: as = (a :: as).take 7 ++ (a :: as).drop 7 := (List.take_append_drop _ _).symm
        have hl : ((a :: as).drop 7).length = 1 := by simp at h ⊢; omega
        match hx : (a :: as).drop 7, hl with
        | [x], _ =>
          have hxd : dig x = true := hr x (List.mem_of_mem_drop (i := 7) (by rw [hx]; simp))
          simp [dig] at hxd
          rw [e, ht, hx, val_snoc]
          have : val [49, 48, 48, 48, 48, 48, 48] 0 = 1000000 := by decide
          rw [this]; omega

theorem take7 (r : List UInt8) (hl : 7 ≤ r.length) (hr : ∀ c ∈ r, dig c = true) (hh : ∀ c cs, r = c :: cs → c.toNat ≠ 48) (h : val (r.take 7) 0 ≤ 1000000) : r.take 7 = [49, 48, 48, 48, 48, 48, 48] := by
  match r, hl, hr, hh, h with
  | a :: b :: c :: d :: e :: f :: g :: rest, _, hr, hh, h =>
    have ha : dig a = true := hr a (by simp)
    have hb : dig b = true := hr b (by simp)
    have hc : dig c = true := hr c (by simp)
    have hd : dig d = true := hr d (by simp)
    have he : dig e = true := hr e (by simp)
    have hf : dig f = true := hr f (by simp)
    have hg : dig g = true := hr g (by simp)
    have h0 := hh a _ rfl
    simp [dig] at ha hb hc hd he hf hg
    simp [val] at h
    have k : ∀ (x : UInt8) (n : Nat), n < 256 → x.toNat = n → x = UInt8.ofNat n := fun x n hn hx => by rw [← hx]; simp
    have ea := k a 49 (by omega) (by omega)
    have eb := k b 48 (by omega) (by omega)
    have ec := k c 48 (by omega) (by omega)
    have ed := k d 48 (by omega) (by omega)
    have ee := k e 48 (by omega) (by omega)
    have ef := k f 48 (by omega) (by omega)
    have eg := k g 48 (by omega) (by omega)
    subst ea eb ec ed ee ef eg
    rfl

theorem pnv_model_none (z r : List UInt8) (hz : ∀ c ∈ z, c.toNat = 48) (hr : ∀ c ∈ r, dig c = true) (hh : ∀ c cs, r = c :: cs → c.toNat ≠ 48) (h : 8 < r.length ∨ (r.length = 8 ∧ r.take 7 ≠ [49, 48, 48, 48, 48, 48, 48])) :
    pnv (z ++ r) 0 = none := by
  have hd : ∀ c ∈ z ++ r, dig c = true := by
    intro c hc
    rcases List.mem_append.1 hc with h | h
    · simp [dig, hz c h]
    · exact hr c h
  have hne : r ≠ [] := by intro e; subst e; simp at h
  have key : 1000000 < val (z ++ r).dropLast 0 := by
    rw [List.dropLast_append_of_ne_nil hne, val_zeros _ _ hz]
    rcases h with h | ⟨h, ht⟩
    · match r, hr, hh, h with
      | a :: b :: as, hr, hh, h =>
        have ha : dig a = true := hr a (by simp)
        simp [dig] at ha
        have h0 := hh a _ rfl
        have hlo := val_lo (b :: as).dropLast (a.toNat - 48)
        rw [List.dropLast_cons_of_ne_nil (by simp), val_head]
        have hp : 10 ^ 7 ≤ 10 ^ (b :: as).dropLast.length := Nat.pow_le_pow_right (by omega) (by simp at h ⊢; omega)
        have : 1 * 10 ^ (b :: as).dropLast.length ≤ (a.toNat - 48) * 10 ^ (b :: as).dropLast.length := Nat.mul_le_mul_right _ (by omega)
        omega
    · have e : r.dropLast = r.take 7 := by rw [List.dropLast_eq_take]; simp [h]
      rw [e]
      exact Nat.lt_of_not_le fun hle => ht (take7 r (by omega) hr hh hle)
  rw [pnv_digits _ _ hd, if_pos ⟨by simp [hne], key⟩]

/-! ### a string's bytes between two places -/
def mid (s : ByteArray) (k e : Nat) : List UInt8 := (s.data.toList.take e).drop k

theorem mid_length (s : ByteArray) (k e : Nat) (he : e ≤ s.size) : (mid s k e).length = e - k := by
  have : s.data.toList.length = s.size := rfl
  simp [mid]; omega

theorem mid_cons (s : ByteArray) (k e : Nat) (h : k < e) (he : e ≤ s.size) (hk : k < s.size) : mid s k e = s[k] :: mid s (k + 1) e := by
  have hl : k < (s.data.toList.take e).length := by
    have : s.data.toList.length = s.size := rfl
    simp; omega
  unfold mid
  rw [List.drop_eq_getElem_cons hl]
  congr 1
  simp
  rfl

theorem mid_nil (s : ByteArray) (k e : Nat) (h : e ≤ k) : mid s k e = [] := by
  unfold mid
  apply List.drop_eq_nil_of_le
  simp; omega

theorem mid_mem (s : ByteArray) (e : Nat) (he : e ≤ s.size) (c : UInt8) : ∀ (d k : Nat), e - k = d → c ∈ mid s k e → ∃ i, ∃ hi : i < s.size, k ≤ i ∧ i < e ∧ s[i] = c := by
  intro d
  induction d with
  | zero => intro k hd hc; rw [mid_nil s k e (by omega)] at hc; simp at hc
  | succ d ih =>
    intro k hd hc
    rw [mid_cons s k e (by omega) he (by omega)] at hc
    rcases List.mem_cons.1 hc with rfl | hc
    · exact ⟨k, by omega, by omega, by omega, rfl⟩
    · obtain ⟨i, hi, h1, h2, h3⟩ := ih (k + 1) (by omega) hc
      exact ⟨i, hi, by omega, h2, h3⟩

theorem mem_mid (s : ByteArray) (e : Nat) (he : e ≤ s.size) (i : Nat) (hi : i < e) (hs : i < s.size) : ∀ (d k : Nat), i - k = d → k ≤ i → s[i] ∈ mid s k e := by
  intro d
  induction d with
  | zero =>
    intro k hd hk
    obtain rfl : i = k := by omega
    rw [mid_cons s i e hi he hs]; exact List.mem_cons_self
  | succ d ih =>
    intro k hd hk
    rw [mid_cons s k e (by omega) he (by omega)]
    exact List.mem_cons_of_mem _ (ih (k + 1) (by omega) (by omega))

theorem dig_of {c : UInt8} (h1 : 48 ≤ (c.toNat : Int)) (h2 : (c.toNat : Int) ≤ 57) : dig c = true := by simp [dig]; omega
theorem dig_lo {c : UInt8} (h1 : (c.toNat : Int) < 48) : dig c = false := by simp [dig]; omega
theorem dig_hi {c : UInt8} (h2 : 57 < (c.toNat : Int)) : dig c = false := by simp [dig]; omega

/-! ### 'parsenum', a round at a time -/
structure Pn (s : ByteArray) (e k n : Nat) (b : Bool) (p1 : Nat) (p2 : Bool) (p3 : Nat) : Prop where
  out : pn e (mid s k e) n b k = (p1, p2, p3)

theorem Pn.big {s : ByteArray} {e k n p1 p3 : Nat} {b p2 : Bool} (h : Pn s e k n b p1 p2 p3) (hk : k < e) (he : e ≤ s.size) (hs : k < s.size) (hd : dig s[k] = true) (hn : 1000000 < n) : 0 = p1 ∧ false = p2 ∧ e = p3 := by
  have := h.out
  rw [mid_cons s k e hk he hs] at this
  simp only [pn, hd, hn, if_true] at this
  simpa using this

theorem Pn.step {s : ByteArray} {e k n p1 p3 : Nat} {b p2 : Bool} (h : Pn s e k n b p1 p2 p3) (hk : k < e) (he : e ≤ s.size) (hs : k < s.size) (hd : dig s[k] = true) (hn : ¬ 1000000 < n) : Pn s e (k + 1) (n * 10 + (s[k].toNat - 48)) true p1 p2 p3 := by
  have := h.out
  rw [mid_cons s k e hk he hs] at this
  simp only [pn, hd, hn, if_true, if_false] at this
  exact ⟨this⟩

theorem Pn.stop {s : ByteArray} {e k n p1 p3 : Nat} {b p2 : Bool} (h : Pn s e k n b p1 p2 p3) (hk : k < e) (he : e ≤ s.size) (hs : k < s.size) (hd : dig s[k] = false) : n = p1 ∧ b = p2 ∧ k = p3 := by
  have := h.out
  rw [mid_cons s k e hk he hs] at this
  simp [pn, hd] at this
  exact this

theorem Pn.fin {s : ByteArray} {e k n p1 p3 : Nat} {b p2 : Bool} (h : Pn s e k n b p1 p2 p3) (hk : e ≤ k) : n = p1 ∧ b = p2 ∧ k = p3 := by
  have := h.out
  rw [mid_nil s k e hk] at this
  simpa [pn] using this

/-! ### the first closing bracket -/
structure Close (s : ByteArray) (c : Nat) : Prop where
  one : 1 ≤ c
  lt : c < s.size
  at93 : s[c].toNat = 93
  before : ∀ i, (hi : i < s.size) → 1 ≤ i → i < c → s[i].toNat ≠ 93

structure NoClose (s : ByteArray) : Prop where
  no93 : ∀ i, (hi : i < s.size) → 1 ≤ i → s[i].toNat ≠ 93

theorem close_or (s : ByteArray) : NoClose s ∨ ∃ c, Close s c := by
  have key : ∀ n, n ≤ s.size → (∀ i, (hi : i < s.size) → 1 ≤ i → i < n → s[i].toNat ≠ 93) ∨ ∃ c, Close s c := by
    intro n
    induction n with
    | zero => intro _; exact .inl fun i _ _ h => by omega
    | succ n ih =>
      intro hn
      rcases ih (by omega) with h | h
      · by_cases h1 : 1 ≤ n
        · by_cases h93 : (s[n]'(by omega)).toNat = 93
          · exact .inr ⟨n, h1, by omega, h93, h⟩
          · refine .inl fun i hi h1 h2 => ?_
            by_cases e : i = n
            · subst e; exact h93
            · exact h i hi h1 (by omega)
        · exact .inl fun i hi h1 h2 => by omega
      · exact .inr h
  rcases key s.size (Nat.le_refl _) with h | h
  · exact .inl ⟨fun i hi h1 => h i hi h1 hi⟩
  · exact .inr h

theorem Close.uniq {s : ByteArray} {c d : Nat} (h : Close s c) (h' : Close s d) : c = d := by
  rcases Nat.lt_trichotomy c d with hlt | rfl | hlt
  · exact (h'.before c h.lt h.one hlt h.at93).elim
  · rfl
  · exact (h.before d h'.lt h'.one hlt h'.at93).elim

/-! ### the answer: the number, the width, 'ok' -/
structure Ans (s : ByteArray) (i w : Int) (ok : Bool) : Prop where
  short : s.size < 3 → i = 0 ∧ w = 1 ∧ ok = false
  opn : NoClose s → i = 0 ∧ w = 1 ∧ ok = false
  bad : ∀ c, 3 ≤ s.size → Close s c → numOf (mid s 1 c) = none → i = 0 ∧ w = c + 1 ∧ ok = false
  good : ∀ c v, 3 ≤ s.size → Close s c → numOf (mid s 1 c) = some v → i = v - 1 ∧ w = c + 1 ∧ ok = true

theorem pnv_le (l : List UInt8) : ∀ n v, n ≤ 10000009 → pnv l n = some v → v ≤ 10000009 := by
  induction l with
  | nil => intro n v hn h; simp [pnv] at h; omega
  | cons c cs ih =>
    intro n v hn h
    simp only [pnv] at h
    split at h
    · rename_i hd
      split at h
      · simp at h
      · simp [dig] at hd
        exact ih _ _ (by omega) h
    · simp at h

theorem numOf_le {l : List UInt8} {v : Nat} (h : numOf l = some v) : v ≤ 10000009 := by
  unfold numOf at h
  split at h
  · simp at h
  · exact pnv_le l 0 v (by omega) h

theorem ans_all (s : ByteArray) : ∃ i w ok, Ans s i w ok ∧ -1 ≤ i ∧ i ≤ 10000009 ∧ 1 ≤ w ∧ w ≤ s.size + 1 := by
  rcases close_or s with h | ⟨c, h⟩
  · exact ⟨0, 1, false, ⟨fun _ => ⟨rfl, rfl, rfl⟩, fun _ => ⟨rfl, rfl, rfl⟩, fun c _ hc => (h.no93 c hc.lt hc.one hc.at93).elim, fun c _ _ hc => (h.no93 c hc.lt hc.one hc.at93).elim⟩, by omega, by omega, by omega, by omega⟩
  · by_cases h3 : s.size < 3
    · exact ⟨0, 1, false, ⟨fun _ => ⟨rfl, rfl, rfl⟩, fun _ => ⟨rfl, rfl, rfl⟩, fun c h => by omega, fun c _ h => by omega⟩, by omega, by omega, by omega, by omega⟩
    · have hlt := h.lt
      match hn : numOf (mid s 1 c) with
      | none =>
        refine ⟨0, c + 1, false, ⟨fun h => (h3 h).elim, fun ho => (ho.no93 c h.lt h.one h.at93).elim, fun d _ hd _ => ?_, fun d v _ hd hv => ?_⟩, by omega, by omega, by omega, by omega⟩
        · rw [h.uniq hd]; exact ⟨rfl, rfl, rfl⟩
        · rw [← h.uniq hd, hn] at hv; cases hv
      | some v =>
        have hv := numOf_le hn
        refine ⟨v - 1, c + 1, true, ⟨fun h => (h3 h).elim, fun ho => (ho.no93 c h.lt h.one h.at93).elim, fun d _ hd hv => ?_, fun d u _ hd hv => ?_⟩, by omega, by omega, by omega, by omega⟩
        · rw [← h.uniq hd, hn] at hv; cases hv
        · rw [← h.uniq hd, hn] at hv; cases hv; rw [h.uniq hd]; exact ⟨rfl, rfl, rfl⟩

end Go.Proofs.Yoecmw.Pl
