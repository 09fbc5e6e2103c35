/-
  THE WALKS OF tooLarge, parsenum, parseArgNumber, ZZParseArgNumber, zzIsDigit.
-/
import Derived.Test.YoecmwRows
import Derived.Test.YoecmwPlain
import Derived.WalkKit
namespace Go.Proofs.Yoecmw
open Go.RowKit
open Pl

theorem ret3 {a a' c c' : Int} {b b' : Bool} (h1 : a = a') (h2 : b = b') (h3 : c = c') :
    Ending.returned (.tuple #[.int .i64 a, .bool b, .int .i64 c]) = .returned (.tuple #[.int .i64 a', .bool b', .int .i64 c']) := by rw [h1, h2, h3]
theorem ret3b {a a' c c' : Int} {b b' : Bool} (h1 : a = a') (h2 : c = c') (h3 : b = b') :
    Ending.returned (.tuple #[.int .i64 a, .int .i64 c, .bool b]) = .returned (.tuple #[.int .i64 a', .int .i64 c', .bool b']) := by rw [h1, h2, h3]

set_option maxHeartbeats 400000 in
theorem tooLarge_yes (n : Nat) (h : 1000000 < n) (w : World) : Calls Ecmg.prog 17 #[.int .i64 n] w fun e w' => e = .returned (.bool true) ∧ w' = w := by
  have h' : (1000000 : Int) < (n : Int) := by omega
  go_enter Ecmg.func17, Ecmg.ntmps17
  go_wp2
  go_ret
  exact ⟨rfl, rfl⟩

set_option maxHeartbeats 400000 in
theorem tooLarge_no (n : Nat) (h : ¬ 1000000 < n) (w : World) : Calls Ecmg.prog 17 #[.int .i64 n] w fun e w' => e = .returned (.bool false) ∧ w' = w := by
  have h' : ¬ (1000000 : Int) < (n : Int) := by omega
  have h2 : ¬ (n : Int) < -1000000 := by omega
  go_enter Ecmg.func17, Ecmg.ntmps17
  go_wp2
  go_ret
  exact ⟨rfl, rfl⟩

set_option maxHeartbeats 800000 in
theorem parsenum_core (s : ByteArray) (st e : Nat) (hse : st < e) (he : e ≤ s.size) (hs : s.size ≤ maxLen) (p1 p3 : Nat) (p2 : Bool) (hp : Pn s e st 0 false p1 p2 p3) (w : World) :
    Calls Ecmg.prog 16 #[.string s, .int .i64 st, .int .i64 e] w fun r w' => r = .returned (.tuple #[.int .i64 p1, .bool p2, .int .i64 p3]) ∧ w' = w := by
  unfold maxLen at hs
  have hst : ¬ e ≤ st := by omega
  go_enter Ecmg.func16, Ecmg.ntmps16
  go_wp2
  go_loop [6, 7, 8] (fun n b i => ∃ k nn : Nat, ∃ bb : Bool, k ≤ e ∧ nn ≤ 10000009 ∧ i = .int .i64 k ∧ n = .int .i64 nn ∧ b = .bool bb ∧ Pn s e k nn bb p1 p2 p3) (fun _ _ i => e - (intOf i).toNat)
  case atStart => exact ⟨st, 0, false, by omega, by omega, rfl, rfl, rfl, hp⟩
  case round =>
    obtain ⟨k, nn, bb, hk, hn, rfl, rfl, rfl, hpn⟩ := hrel
    by_cases hlt : k < e
    · have hks : k < s.size := by omega
      by_cases hbig : 1000000 < nn
      · go_wp2_with (go_at_call 17; refine (tooLarge_yes _ hbig _).mono ?_; rintro e w' ⟨rfl, rfl⟩)
        · go_ret3
          have hd := dig_of (c := s[k]) (by assumption) (by assumption)
          obtain ⟨h1, h2, h3⟩ := hpn.big hlt he hks hd hbig
          exact ⟨ret3 (by omega) h2 (by omega), rfl⟩
        · go_ret3
          have hd := dig_hi (c := s[k]) (by assumption)
          obtain ⟨h1, h2, h3⟩ := hpn.stop hlt he hks hd
          exact ⟨ret3 (by omega) h2 (by omega), rfl⟩
        · go_ret3
          have hd := dig_lo (c := s[k]) (by assumption)
          obtain ⟨h1, h2, h3⟩ := hpn.stop hlt he hks hd
          exact ⟨ret3 (by omega) h2 (by omega), rfl⟩
      · go_wp2_with (go_at_call 17; refine (tooLarge_no _ hbig _).mono ?_; rintro e w' ⟨rfl, rfl⟩)
        · have h48 : 48 ≤ (s[k].toNat : Int) := by assumption
          have h57 : (s[k].toNat : Int) ≤ 57 := by assumption
          have hd := dig_of h48 h57
          go_round
          case rel => exact ⟨k + 1, nn * 10 + (s[k].toNat - 48), true, by omega, by omega, by go_num, by go_num, rfl, hpn.step hlt he hks hd hbig⟩
          case measure => simp [intOf]; omega
        · go_ret3
          have hd := dig_hi (c := s[k]) (by assumption)
          obtain ⟨h1, h2, h3⟩ := hpn.stop hlt he hks hd
          exact ⟨ret3 (by omega) h2 (by omega), rfl⟩
        · go_ret3
          have hd := dig_lo (c := s[k]) (by assumption)
          obtain ⟨h1, h2, h3⟩ := hpn.stop hlt he hks hd
          exact ⟨ret3 (by omega) h2 (by omega), rfl⟩
    · go_wp2
      go_ret3
      obtain ⟨h1, h2, h3⟩ := hpn.fin (by omega)
      exact ⟨ret3 (by omega) h2 (by omega), rfl⟩
/-! ### parsenum by what it is asked for -/
theorem pn_of_some {s : ByteArray} {c v : Nat} (hc : 1 < c) (he : c ≤ s.size) (h : numOf (mid s 1 c) = some v) : Pn s c 1 0 false v true c := by
  have hl := mid_length s 1 c he
  have hne : mid s 1 c ≠ [] := by intro e; rw [e] at hl; simp at hl; omega
  rw [numOf, if_neg hne] at h
  exact ⟨pn_some c _ 0 false 1 v (by omega) (fun e => (hne e).elim) h⟩

theorem pn_of_none {s : ByteArray} {c : Nat} (hc : 1 < c) (he : c ≤ s.size) (h : numOf (mid s 1 c) = none) : ∃ p1 p2 p3, Pn s c 1 0 false p1 p2 p3 ∧ (p2 = false ∨ p3 < c) := by
  have hl := mid_length s 1 c he
  have hne : mid s 1 c ≠ [] := by intro e; rw [e] at hl; simp at hl; omega
  rw [numOf, if_neg hne] at h
  exact ⟨_, _, _, ⟨rfl⟩, pn_none c _ 0 false 1 (by omega) h⟩

set_option maxHeartbeats 400000 in
theorem parsenum_one (s : ByteArray) (w : World) :
    Calls Ecmg.prog 16 #[.string s, .int .i64 1, .int .i64 1] w fun r w' => r = .returned (.tuple #[.int .i64 0, .bool false, .int .i64 1]) ∧ w' = w := by
  go_enter Ecmg.func16, Ecmg.ntmps16
  go_wp2
  go_ret3
  exact ⟨rfl, rfl⟩

theorem parsenum_at (s : ByteArray) (e : Nat) (hse : 1 < e) (he : e ≤ s.size) (hs : s.size ≤ maxLen) (p1 p3 : Nat) (p2 : Bool) (hp : Pn s e 1 0 false p1 p2 p3) (w : World) :
    Calls Ecmg.prog 16 #[.string s, .int .i64 1, .int .i64 e] w fun r w' => r = .returned (.tuple #[.int .i64 p1, .bool p2, .int .i64 p3]) ∧ w' = w :=
  parsenum_core s 1 e hse he hs p1 p3 p2 hp w

/-! ### parseArgNumber -/
set_option maxHeartbeats 400000 in
theorem pan_short (s : ByteArray) (h : s.size < 3) (w : World) :
    Calls Ecmg.prog 13 #[.string s] w fun r w' => r = .returned (.tuple #[.int .i64 0, .int .i64 1, .bool false]) ∧ w' = w := by
  have h' : (s.size : Int) < 3 := by omega
  go_enter Ecmg.func13, Ecmg.ntmps13
  go_wp2
  go_ret3
  exact ⟨rfl, rfl⟩

set_option maxHeartbeats 400000 in
theorem pan_open (s : ByteArray) (h : ¬ s.size < 3) (hs : s.size ≤ maxLen) (ho : NoClose s) (w : World) :
    Calls Ecmg.prog 13 #[.string s] w fun r w' => r = .returned (.tuple #[.int .i64 0, .int .i64 1, .bool false]) ∧ w' = w := by
  unfold maxLen at hs
  have h' : ¬ (s.size : Int) < 3 := by omega
  go_enter Ecmg.func13, Ecmg.ntmps13
  go_wp2
  go_loop [5] (fun i => ∃ k : Nat, 1 ≤ k ∧ k ≤ s.size ∧ i = .int .i64 k) (fun i => s.size - (intOf i).toNat)
  case atStart => exact ⟨1, by omega, by omega, rfl⟩
  case round =>
    obtain ⟨k, hk1, hk, rfl⟩ := hrel
    by_cases hlt : k < s.size
    · have hno := ho.no93 k hlt hk1
      have hb : ((s[k].toNat : Int) == 93) = false := by simp; omega
      go_wp2_with fail
      go_round
      case rel => exact ⟨k + 1, by omega, by omega, by go_num⟩
      case measure => simp [intOf]; omega
    · go_wp2_with fail
      go_ret3
      exact ⟨rfl, rfl⟩

set_option maxHeartbeats 400000 in
theorem pan_one (s : ByteArray) (h : ¬ s.size < 3) (hs : s.size ≤ maxLen) (hc : Close s 1) (w : World) :
    Calls Ecmg.prog 13 #[.string s] w fun r w' => r = .returned (.tuple #[.int .i64 0, .int .i64 2, .bool false]) ∧ w' = w := by
  unfold maxLen at hs
  have h' : ¬ (s.size : Int) < 3 := by omega
  have hlt : 1 < s.size := hc.lt
  have hb : ((s[1].toNat : Int) == 93) = true := by have := hc.at93; simp; omega
  go_enter Ecmg.func13, Ecmg.ntmps13
  go_wp2
  go_loop [5] (fun i => i = .int .i64 1) (fun i => s.size - (intOf i).toNat)
  case atStart => rfl
  case round =>
    subst hrel
    go_wp2_with (go_at_call 16; refine (parsenum_one _ _).mono ?_; rintro e w' ⟨rfl, rfl⟩)
    go_ret3
    exact ⟨rfl, rfl⟩

set_option maxHeartbeats 400000 in
theorem pan_good (s : ByteArray) (h : ¬ s.size < 3) (hs : s.size ≤ maxLen) (c v : Nat) (hc1 : 1 < c) (hc : Close s c) (hv : v ≤ 10000009) (hp : Pn s c 1 0 false v true c) (w : World) :
    Calls Ecmg.prog 13 #[.string s] w fun r w' => r = .returned (.tuple #[.int .i64 (v - 1), .int .i64 (c + 1), .bool true]) ∧ w' = w := by
  have hs' := hs
  unfold maxLen at hs
  have h' : ¬ (s.size : Int) < 3 := by omega
  have hclt : c < s.size := hc.lt
  go_enter Ecmg.func13, Ecmg.ntmps13
  go_wp2
  go_loop [5] (fun i => ∃ k : Nat, 1 ≤ k ∧ k ≤ c ∧ i = .int .i64 k) (fun i => s.size - (intOf i).toNat)
  case atStart => exact ⟨1, by omega, by omega, rfl⟩
  case round =>
    obtain ⟨k, hk1, hk, rfl⟩ := hrel
    by_cases hlt : k < c
    · have hno := hc.before k (by omega) hk1 hlt
      have hks : k < s.size := by omega
      have hb : ((s[k].toNat : Int) == 93) = false := by simp; omega
      go_wp2_with fail
      go_round
      case rel => exact ⟨k + 1, by omega, by omega, by go_num⟩
      case measure => simp [intOf]; omega
    · obtain rfl : k = c := by omega
      have hb : ((s[k].toNat : Int) == 93) = true := by have := hc.at93; simp; omega
      go_wp2_with (go_at_call 16; refine (parsenum_at s k hc1 (Nat.le_of_lt hclt) hs' v k true hp _).mono ?_; rintro e w' ⟨rfl, rfl⟩)
      go_ret3
      exact ⟨rfl, rfl⟩

set_option maxHeartbeats 400000 in
theorem pan_bad (s : ByteArray) (h : ¬ s.size < 3) (hs : s.size ≤ maxLen) (c p1 p3 : Nat) (p2 : Bool) (hc1 : 1 < c) (hc : Close s c) (hp : Pn s c 1 0 false p1 p2 p3) (hb : p2 = false ∨ p3 < c) (w : World) :
    Calls Ecmg.prog 13 #[.string s] w fun r w' => r = .returned (.tuple #[.int .i64 0, .int .i64 (c + 1), .bool false]) ∧ w' = w := by
  have hs' := hs
  unfold maxLen at hs
  have h' : ¬ (s.size : Int) < 3 := by omega
  have hclt : c < s.size := hc.lt
  have HB : Hid (p2 = false ∨ p3 < c) := hb
  clear hb
  go_enter Ecmg.func13, Ecmg.ntmps13
  go_wp2
  go_loop [5] (fun i => ∃ k : Nat, 1 ≤ k ∧ k ≤ c ∧ i = .int .i64 k) (fun i => s.size - (intOf i).toNat)
  case atStart => exact ⟨1, by omega, by omega, rfl⟩
  case round =>
    obtain ⟨k, hk1, hk, rfl⟩ := hrel
    by_cases hlt : k < c
    · have hno := hc.before k (by omega) hk1 hlt
      have hks : k < s.size := by omega
      have hb : ((s[k].toNat : Int) == 93) = false := by simp; omega
      go_wp2_with fail
      go_round
      case rel => exact ⟨k + 1, by omega, by omega, by go_num⟩
      case measure => simp [intOf]; omega
    · obtain rfl : k = c := by omega
      have hb : ((s[k].toNat : Int) == 93) = true := by have := hc.at93; simp; omega
      cases p2 with
      | false =>
        go_wp2_with (go_at_call 16; refine (parsenum_at s k hc1 (Nat.le_of_lt hclt) hs' p1 p3 false hp _).mono ?_; rintro e w' ⟨rfl, rfl⟩)
        go_ret3
        exact ⟨rfl, rfl⟩
      | true =>
        have hne : ((p3 : Int) == (k : Int)) = false := by
          rcases HB.out with h | h
          · cases h
          · simp; omega
        go_wp2_with (go_at_call 16; refine (parsenum_at s k hc1 (Nat.le_of_lt hclt) hs' p1 p3 true hp _).mono ?_; rintro e w' ⟨rfl, rfl⟩)
        go_ret3
        exact ⟨rfl, rfl⟩

/-- parseArgNumber answers as 'Ans' says. -/
theorem pan_any (s : ByteArray) (hs : s.size ≤ maxLen) (i wd : Int) (ok : Bool) (ha : Ans s i wd ok) (w : World) :
    Calls Ecmg.prog 13 #[.string s] w fun r w' => r = .returned (.tuple #[.int .i64 i, .int .i64 wd, .bool ok]) ∧ w' = w := by
  by_cases h3 : s.size < 3
  · obtain ⟨rfl, rfl, rfl⟩ := ha.short h3
    exact pan_short s h3 w
  · rcases close_or s with ho | ⟨c, hc⟩
    · obtain ⟨rfl, rfl, rfl⟩ := ha.opn ho
      exact pan_open s h3 hs ho w
    · have hc1 := hc.one
      have hlt := hc.lt
      by_cases h1 : c = 1
      · subst h1
        obtain ⟨rfl, rfl, rfl⟩ := ha.bad 1 (by omega) hc (by rw [mid_nil s 1 1 (by omega)]; rfl)
        exact pan_one s h3 hs hc w
      · match hn : numOf (mid s 1 c) with
        | none =>
          obtain ⟨rfl, rfl, rfl⟩ := ha.bad c (by omega) hc hn
          obtain ⟨p1, p2, p3, hp, hb⟩ := pn_of_none (by omega) (by omega) hn
          exact pan_bad s h3 hs c p1 p3 p2 (by omega) hc hp hb w
        | some v =>
          obtain ⟨rfl, rfl, rfl⟩ := ha.good c v (by omega) hc hn
          exact pan_good s h3 hs c v (by omega) hc (numOf_le hn) (pn_of_some (by omega) (by omega) hn) w

set_option maxHeartbeats 400000 in
theorem zzpan_any (s : ByteArray) (hs : s.size ≤ maxLen) (i wd : Int) (ok : Bool) (ha : Ans s i wd ok) (w : World) :
    Calls Ecmg.prog 7 #[.string s] w fun r w' => r = .returned (.tuple #[.int .i64 i, .int .i64 wd, .bool ok]) ∧ w' = w := by
  go_enter Ecmg.func7, Ecmg.ntmps7
  go_wp2_with (go_at_call 13; refine (pan_any s hs i wd ok ha _).mono ?_; rintro e w' ⟨rfl, rfl⟩)
  go_ret3
  exact ⟨rfl, rfl⟩

set_option maxHeartbeats 400000 in
theorem isDigit_yes (n : Int) (h1 : 48 ≤ n) (h2 : n ≤ 57) (w : World) :
    Calls Ecmg.prog 14 #[.int .u8 n] w fun r w' => r = .returned (.bool true) ∧ w' = w := by
  go_enter Ecmg.func14, Ecmg.ntmps14
  go_wp2
  go_ret
  exact ⟨rfl, rfl⟩

set_option maxHeartbeats 400000 in
theorem isDigit_lo (n : Int) (h1 : n < 48) (w : World) :
    Calls Ecmg.prog 14 #[.int .u8 n] w fun r w' => r = .returned (.bool false) ∧ w' = w := by
  have h : ¬ 48 ≤ n := by omega
  go_enter Ecmg.func14, Ecmg.ntmps14
  go_wp2
  go_ret
  exact ⟨rfl, rfl⟩

set_option maxHeartbeats 400000 in
theorem isDigit_hi (n : Int) (h1 : 57 < n) (w : World) :
    Calls Ecmg.prog 14 #[.int .u8 n] w fun r w' => r = .returned (.bool false) ∧ w' = w := by
  have h : ¬ n ≤ 57 := by omega
  have h' : 48 ≤ n := by omega
  go_enter Ecmg.func14, Ecmg.ntmps14
  go_wp2
  go_ret
  exact ⟨rfl, rfl⟩

end Go.Proofs.Yoecmw
