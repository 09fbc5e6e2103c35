import Derived.Test.YoecmwDig
namespace Go.Proofs.Yoecmw.Pl

/-! ### a bracketed number -/
theorem getElem_list (s : ByteArray) (i : Nat) (_h : i < s.size) (hl : i < s.data.toList.length) : s[i] = s.data.toList[i] := by
  simp; rfl

theorem close_of (t : ByteArray) (D N : Nat) (tl : List UInt8) (h : t.data.toList = 91 :: (digs D N ++ 93 :: tl)) : Close t (D + 1) := by
  have hlen : t.size = D + 2 + tl.length := by
    have := congrArg List.length h
    simp [digs_length] at this
    have e : t.data.size = t.size := rfl
    omega
  have hl : t.data.toList.length = t.size := rfl
  refine ⟨by omega, by omega, ?_, fun i hi h1 h2 => ?_⟩
  · rw [getElem_list t (D + 1) (by omega) (by omega)]
    have : t.data.toList[D + 1]? = some 93 := by
      rw [h, List.getElem?_cons_succ, List.getElem?_append_right (by rw [digs_length]; omega), digs_length]
      simp
    rw [List.getElem?_eq_getElem (by omega)] at this
    rw [Option.some.inj this]
    rfl
  · rw [getElem_list t i hi (by omega)]
    obtain ⟨j, rfl⟩ : ∃ j, i = j + 1 := ⟨i - 1, by omega⟩
    have hj : j < (digs D N).length := by rw [digs_length]; omega
    have : t.data.toList[j + 1]? = some (digs D N)[j] := by
      rw [h, List.getElem?_cons_succ, List.getElem?_append_left hj]
      simp
    rw [List.getElem?_eq_getElem (by omega)] at this
    rw [Option.some.inj this]
    have hd := digs_dig D N _ (List.getElem_mem hj)
    simp [dig] at hd
    omega

theorem mid_of (t : ByteArray) (D N : Nat) (tl : List UInt8) (h : t.data.toList = 91 :: (digs D N ++ 93 :: tl)) : mid t 1 (D + 1) = digs D N := by
  unfold mid
  rw [h]
  simp only [List.take_succ_cons, List.drop_succ_cons, List.drop_zero]
  rw [List.take_append_of_le_length (by rw [digs_length]; omega), List.take_of_length_le (by rw [digs_length]; omega)]

theorem size_of (t : ByteArray) (D N : Nat) (tl : List UInt8) (h : t.data.toList = 91 :: (digs D N ++ 93 :: tl)) : t.size = D + 2 + tl.length := by
  have := congrArg List.length h
  simp [digs_length] at this
  have e : t.data.size = t.size := rfl
  omega

theorem ans_big (t : ByteArray) (D N : Nat) (tl : List UInt8) (h : t.data.toList = 91 :: (digs D N ++ 93 :: tl)) (hD : NDig N D) (hN : 10000009 < N) : Ans t 0 (D + 2) false := by
  have hc := close_of t D N tl h
  have h1 := hD.one
  obtain ⟨E, rfl⟩ : ∃ E, D = E + 1 := ⟨D - 1, by omega⟩
  have hn := digs_numOf E N hD.hi
  rw [if_pos hN, ← mid_of t (E + 1) N tl h] at hn
  have hs := size_of t (E + 1) N tl h
  refine ⟨fun h => by omega, fun ho => (ho.no93 _ hc.lt hc.one hc.at93).elim, fun c _ hc' _ => ?_, fun c v _ hc' hv => ?_⟩
  · rw [← hc.uniq hc']
    exact ⟨rfl, by omega, rfl⟩
  · rw [← hc.uniq hc', hn] at hv
    cases hv

theorem ans_small (t : ByteArray) (D N : Nat) (tl : List UInt8) (h : t.data.toList = 91 :: (digs D N ++ 93 :: tl)) (hD : NDig N D) (hN : ¬ 10000009 < N) : Ans t (N - 1) (D + 2) true := by
  have hc := close_of t D N tl h
  have h1 := hD.one
  obtain ⟨E, rfl⟩ : ∃ E, D = E + 1 := ⟨D - 1, by omega⟩
  have hn := digs_numOf E N hD.hi
  rw [if_neg hN, ← mid_of t (E + 1) N tl h] at hn
  have hs := size_of t (E + 1) N tl h
  refine ⟨fun h => by omega, fun ho => (ho.no93 _ hc.lt hc.one hc.at93).elim, fun c _ hc' hv => ?_, fun c v _ hc' hv => ?_⟩
  · rw [← hc.uniq hc', hn] at hv
    cases hv
  · rw [← hc.uniq hc', hn] at hv
    cases hv
    rw [← hc.uniq hc']
    exact ⟨rfl, by omega, rfl⟩

/-- The format: what stands ahead, the bracket, the digits, the bracket, the tail. -/
structure Fmt (F p t : ByteArray) (D N : Nat) (tl : List UInt8) : Prop where
  lt : p.size < F.size
  at91 : F[p.size].toNat = 91
  size : F.size = p.size + D + 2 + tl.length
  rest : t.data.toList = 91 :: (digs D N ++ 93 :: tl)

theorem fmt_of (F p t : ByteArray) (D N : Nat) (tl : List UInt8) (hF : F.data.toList = p.data.toList ++ 91 :: (digs D N ++ 93 :: tl)) (ht : t.data.toList = F.data.toList.drop p.size) : Fmt F p t D N tl := by
  have hp : p.data.toList.length = p.size := rfl
  have hl : F.data.toList.length = F.size := rfl
  have hs : F.size = p.size + D + 2 + tl.length := by
    have := congrArg List.length hF
    simp [digs_length] at this
    have e : F.data.size = F.size := rfl
    have e' : p.data.size = p.size := rfl
    omega
  have h91 : F.data.toList[p.size]? = some 91 := by
    rw [hF, List.getElem?_append_right (by omega), hp, Nat.sub_self]
    rfl
  refine ⟨by omega, ?_, hs, ?_⟩
  · rw [getElem_list F p.size (by omega) (by omega)]
    rw [List.getElem?_eq_getElem (by omega)] at h91
    rw [Option.some.inj h91]
    rfl
  · rw [ht, hF, ← hp, List.drop_left]

end Go.Proofs.Yoecmw.Pl
