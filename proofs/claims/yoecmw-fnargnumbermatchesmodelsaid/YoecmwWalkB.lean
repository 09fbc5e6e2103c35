/-
  THE WALK OF zzModelParse.
-/
import Derived.Test.YoecmwWalkA
namespace Go.Proofs.Yoecmw
open Go.RowKit
open Pl

set_option maxHeartbeats 400000 in
theorem mp_short (s : ByteArray) (h : s.size < 3) (w : World) :
    Calls Ecmg.prog 8 #[.string s] w fun r w' => r = .returned (.tuple #[.int .i64 0, .int .i64 1, .bool false]) ∧ w' = w := by
  have h' : (s.size : Int) < 3 := by omega
  go_enter Ecmg.func8, Ecmg.ntmps8
  go_wp2
  go_ret3
  exact ⟨rfl, rfl⟩

set_option maxHeartbeats 400000 in
theorem mp_open (s : ByteArray) (h : ¬ s.size < 3) (hs : s.size ≤ maxLen) (ho : NoClose s) (w : World) :
    Calls Ecmg.prog 8 #[.string s] w fun r w' => r = .returned (.tuple #[.int .i64 0, .int .i64 1, .bool false]) ∧ w' = w := by
  unfold maxLen at hs
  have h' : ¬ (s.size : Int) < 3 := by omega
  go_enter Ecmg.func8, Ecmg.ntmps8
  go_wp2
  go_loop [5, 6] (fun c i => c = .int .i64 (-1) ∧ ∃ k : Nat, 1 ≤ k ∧ k ≤ s.size ∧ i = .int .i64 k) (fun _ i => s.size - (intOf i).toNat)
  case atStart => exact ⟨rfl, 1, by omega, by omega, rfl⟩
  case round =>
    obtain ⟨rfl, k, hk1, hk, rfl⟩ := hrel
    by_cases hlt : k < s.size
    · have hno := ho.no93 k hlt hk1
      have hb : ((s[k].toNat : Int) == 93) = false := by simp; omega
      go_wp2_with fail
      go_round
      case rel => exact ⟨rfl, k + 1, by omega, by omega, by go_num⟩
      case measure => simp [intOf]; omega
    · go_wp2_with fail
      go_ret3
      exact ⟨rfl, rfl⟩

set_option maxHeartbeats 400000 in
theorem mp_one (s : ByteArray) (h : ¬ s.size < 3) (hs : s.size ≤ maxLen) (hc : Close s 1) (w : World) :
    Calls Ecmg.prog 8 #[.string s] w fun r w' => r = .returned (.tuple #[.int .i64 0, .int .i64 2, .bool false]) ∧ w' = w := by
  unfold maxLen at hs
  have h' : ¬ (s.size : Int) < 3 := by omega
  have hlt : 1 < s.size := hc.lt
  have hb : ((s[1].toNat : Int) == 93) = true := by have := hc.at93; simp; omega
  go_enter Ecmg.func8, Ecmg.ntmps8
  go_wp2
  go_loop [5, 6] (fun c i => c = .int .i64 (-1) ∧ i = .int .i64 1) (fun _ i => s.size - (intOf i).toNat)
  case atStart => exact ⟨rfl, rfl⟩
  case round =>
    obtain ⟨rfl, rfl⟩ := hrel
    go_wp2_with fail
    go_ret3
    exact ⟨rfl, rfl⟩

/-! ### what stands before the bracket -/
structure Digs (s : ByteArray) (m : Nat) : Prop where
  out : ∀ i, (hi : i < s.size) → 1 ≤ i → i < m → 48 ≤ (s[i].toNat : Int) ∧ (s[i].toNat : Int) ≤ 57
structure Zeros (s : ByteArray) (m : Nat) : Prop where
  out : ∀ i, (hi : i < s.size) → 1 ≤ i → i < m → (s[i].toNat : Int) = 48
structure NoDig (s : ByteArray) (m : Nat) : Prop where
  lt : m < s.size
  out : (s[m].toNat : Int) < 48 ∨ 57 < (s[m].toNat : Int)
structure NoZero (s : ByteArray) (c m : Nat) : Prop where
  out : ∀ h : m < s.size, m < c → ((s[m].toNat : Int) == 48) = false

set_option maxHeartbeats 800000 in
/-- A byte that is no digit stands before the bracket: the first such is at m. -/
theorem mp_bad (s : ByteArray) (h : ¬ s.size < 3) (hs : s.size ≤ maxLen) (c m : Nat) (hc1 : 1 < c) (hc : Close s c) (hm1 : 1 ≤ m) (hmc : m < c) (hd : Digs s m) (hm : NoDig s m) (w : World) :
    Calls Ecmg.prog 8 #[.string s] w fun r w' => r = .returned (.tuple #[.int .i64 0, .int .i64 (c + 1), .bool false]) ∧ w' = w := by
  unfold maxLen at hs
  have h' : ¬ (s.size : Int) < 3 := by omega
  have hclt : c < s.size := hc.lt
  go_enter Ecmg.func8, Ecmg.ntmps8
  go_wp2
  go_loop [5, 6] (fun cc i => cc = .int .i64 (-1) ∧ ∃ k : Nat, 1 ≤ k ∧ k ≤ c ∧ i = .int .i64 k) (fun _ i => s.size - (intOf i).toNat)
  case atStart => exact ⟨rfl, 1, by omega, by omega, rfl⟩
  case round =>
    obtain ⟨rfl, k, hk1, hk, rfl⟩ := hrel
    by_cases hlt : k < c
    · have hno := hc.before k (by omega) hk1 hlt
      have hks : k < s.size := by omega
      have hb : ((s[k].toNat : Int) == 93) = false := by simp; omega
      go_wp2_with fail
      go_round
      case rel => exact ⟨rfl, k + 1, by omega, by omega, by go_num⟩
      case measure => simp [intOf]; omega
    · obtain rfl : k = c := by omega
      have hb : ((s[k].toNat : Int) == 93) = true := by have := hc.at93; simp; omega
      have hk0 : ¬ (k : Int) < 0 := by omega
      have hk1 : ((k : Int) == 1) = false := by simp; omega
      go_wp2_with fail
      clear hb
      go_loop [7] (fun i => ∃ j : Nat, 1 ≤ j ∧ j ≤ m ∧ i = .int .i64 j) (fun i => s.size - (intOf i).toNat)
      case atStart => exact ⟨1, by omega, by omega, rfl⟩
      case round =>
        obtain ⟨j, hj1, hj, rfl⟩ := hrel
        have hjc : j < k := by omega
        have hjs : j < s.size := by omega
        by_cases hjm : j < m
        · obtain ⟨d1, d2⟩ := hd.out j hjs hj1 hjm
          go_wp2_with (go_at_call 14; refine (isDigit_yes _ d1 d2 _).mono ?_; rintro e w' ⟨rfl, rfl⟩)
          go_round
          case rel => exact ⟨j + 1, by omega, by omega, by go_num⟩
          case measure => simp [intOf]; omega
        · obtain rfl : j = m := by omega
          rcases hm.out with d | d
          · go_wp2_with (go_at_call 14; refine (isDigit_lo _ d _).mono ?_; rintro e w' ⟨rfl, rfl⟩)
            go_ret3
            exact ⟨rfl, rfl⟩
          · go_wp2_with (go_at_call 14; refine (isDigit_hi _ d _).mono ?_; rintro e w' ⟨rfl, rfl⟩)
            go_ret3
            exact ⟨rfl, rfl⟩

set_option maxHeartbeats 800000 in
/-- Digits alone before the bracket; the zeros end at z. -/
theorem mp_long (s : ByteArray) (h : ¬ s.size < 3) (hs : s.size ≤ maxLen) (c z : Nat) (hc1 : 1 < c) (hc : Close s c) (hd : Digs s c) (hz1 : 1 ≤ z) (hzc : z ≤ c) (hz : Zeros s z) (hnz : NoZero s c z) (hsig : 8 < c - z) (w : World) :
    Calls Ecmg.prog 8 #[.string s] w fun r w' => r = .returned (.tuple #[.int .i64 0, .int .i64 (c + 1), .bool false]) ∧ w' = w := by
  unfold maxLen at hs
  have h' : ¬ (s.size : Int) < 3 := by omega
  have hclt : c < s.size := hc.lt
  go_enter Ecmg.func8, Ecmg.ntmps8
  go_wp2
  go_loop [5, 6] (fun cc i => cc = .int .i64 (-1) ∧ ∃ k : Nat, 1 ≤ k ∧ k ≤ c ∧ i = .int .i64 k) (fun _ i => s.size - (intOf i).toNat)
  case atStart => exact ⟨rfl, 1, by omega, by omega, rfl⟩
  case round =>
    obtain ⟨rfl, k, hk1, hk, rfl⟩ := hrel
    by_cases hlt : k < c
    · have hno := hc.before k (by omega) hk1 hlt
      have hks : k < s.size := by omega
      have hb : ((s[k].toNat : Int) == 93) = false := by simp; omega
      go_wp2_with fail
      go_round
      case rel => exact ⟨rfl, k + 1, by omega, by omega, by go_num⟩
      case measure => simp [intOf]; omega
    · obtain rfl : k = c := by omega
      have hb : ((s[k].toNat : Int) == 93) = true := by have := hc.at93; simp; omega
      have hk0 : ¬ (k : Int) < 0 := by omega
      have hk1 : ((k : Int) == 1) = false := by simp; omega
      go_wp2_with fail
      clear hb
      go_loop [7] (fun i => ∃ j : Nat, 1 ≤ j ∧ j ≤ k ∧ i = .int .i64 j) (fun i => s.size - (intOf i).toNat)
      case atStart => exact ⟨1, by omega, by omega, rfl⟩
      case round =>
        obtain ⟨j, hj1, hj, rfl⟩ := hrel
        have hjs : j < s.size := by omega
        by_cases hjc : j < k
        · obtain ⟨d1, d2⟩ := hd.out j hjs hj1 hjc
          go_wp2_with (go_at_call 14; refine (isDigit_yes _ d1 d2 _).mono ?_; rintro e w' ⟨rfl, rfl⟩)
          go_round
          case rel => exact ⟨j + 1, by omega, by omega, by go_num⟩
          case measure => simp [intOf]; omega
        · go_wp2_with fail
          go_loop [8] (fun i => ∃ j : Nat, 1 ≤ j ∧ j ≤ z ∧ i = .int .i64 j) (fun i => s.size - (intOf i).toNat)
          case atStart => exact ⟨1, by omega, by omega, rfl⟩
          case round =>
            obtain ⟨q, hq1, hq, rfl⟩ := hrel
            by_cases hqz : q < z
            · have hqs : q < s.size := by omega
              have hb : ((s[q].toNat : Int) == 48) = true := by rw [hz.out q hqs hq1 hqz]; rfl
              have hqk : q < k := by omega
              go_wp2_with fail
              go_round
              case rel => exact ⟨q + 1, by omega, by omega, by go_num⟩
              case measure => simp [intOf]; omega
            · obtain rfl : q = z := by omega
              have hqs : q < s.size := by omega
              have hqk : q < k := by omega
              have hb := hnz.out hqs hqk
              have hg : (8 : Int) < (k : Int) - (q : Int) := by omega
              go_wp2_with fail
              go_ret3
              exact ⟨rfl, rfl⟩
theorem slice7 (s : ByteArray) (q : Nat) (b : Bool) (hq : q + 7 ≤ s.size) (h : ((s.extract q (q + 7)).toList == [49, 48, 48, 48, 48, 48, 48]) = b) :
    ∃ t : ByteArray, (t.toList == [49, 48, 48, 48, 48, 48, 48]) = b ∧
      ∀ wx : World, (Instr.slice 9 (.string s) (some (.int .i64 (q : Int))) (some (.int .i64 ((q : Int) + 7))) none).run Ecmg.prog wx = .ok (.string t) wx := by
  refine ⟨s.extract q (q + 7), h, fun wx => ?_⟩
  have e := run_slice_string (P := Ecmg.prog) wx 9 s .i64 .i64 (q : Int) ((q : Int) + 7) Ecmg.underlying9 (by omega) (by omega) (by omega)
  rw [e]
  have e2 : ((q : Int) + 7).toNat = q + 7 := by omega
  rw [e2, Int.toNat_natCast]

/-- The value of the digits between a and c, n gathered so far. -/
structure Val (s : ByteArray) (c a n V : Nat) : Prop where
  one : 1 ≤ a
  out : val (mid s a c) n = V
theorem Val.le {s : ByteArray} {c a n V : Nat} (h : Val s c a n V) : n ≤ V := h.out ▸ val_ge _ _
theorem Val.step {s : ByteArray} {c a n V : Nat} (h : Val s c a n V) (ha : a < c) (hc : c ≤ s.size) (hs : a < s.size) : Val s c (a + 1) (n * 10 + (s[a].toNat - 48)) V := by
  refine ⟨by omega, ?_⟩
  have := h.out
  rw [mid_cons s a c ha hc hs] at this
  exact this
theorem Val.fin {s : ByteArray} {c a n V : Nat} (h : Val s c a n V) (ha : c ≤ a) : n = V := by
  have := h.out
  rwa [mid_nil s a c ha] at this

set_option maxHeartbeats 800000 in
/-- Digits alone before the bracket; the zeros end at z. -/
theorem mp_eight (s : ByteArray) (h : ¬ s.size < 3) (hs : s.size ≤ maxLen) (c z : Nat) (hc1 : 1 < c) (hc : Close s c) (hd : Digs s c) (hz1 : 1 ≤ z) (hzc : z ≤ c) (hz : Zeros s z) (hnz : NoZero s c z) (hsig : c - z = 8) (hno : ((s.extract z (z + 7)).toList == [49, 48, 48, 48, 48, 48, 48]) = false) (w : World) :
    Calls Ecmg.prog 8 #[.string s] w fun r w' => r = .returned (.tuple #[.int .i64 0, .int .i64 (c + 1), .bool false]) ∧ w' = w := by
  unfold maxLen at hs
  have h' : ¬ (s.size : Int) < 3 := by omega
  have hclt : c < s.size := hc.lt
  go_enter Ecmg.func8, Ecmg.ntmps8
  go_wp2
  go_loop [5, 6] (fun cc i => cc = .int .i64 (-1) ∧ ∃ k : Nat, 1 ≤ k ∧ k ≤ c ∧ i = .int .i64 k) (fun _ i => s.size - (intOf i).toNat)
  case atStart => exact ⟨rfl, 1, by omega, by omega, rfl⟩
  case round =>
    obtain ⟨rfl, k, hk1, hk, rfl⟩ := hrel
    by_cases hlt : k < c
    · have hnb := hc.before k (by omega) hk1 hlt
      have hks : k < s.size := by omega
      have hb : ((s[k].toNat : Int) == 93) = false := by simp; omega
      go_wp2_with fail
      go_round
      case rel => exact ⟨rfl, k + 1, by omega, by omega, by go_num⟩
      case measure => simp [intOf]; omega
    · obtain rfl : k = c := by omega
      have hb : ((s[k].toNat : Int) == 93) = true := by have := hc.at93; simp; omega
      have hk0 : ¬ (k : Int) < 0 := by omega
      have hk1 : ((k : Int) == 1) = false := by simp; omega
      go_wp2_with fail
      clear hb
      go_loop [7] (fun i => ∃ j : Nat, 1 ≤ j ∧ j ≤ k ∧ i = .int .i64 j) (fun i => s.size - (intOf i).toNat)
      case atStart => exact ⟨1, by omega, by omega, rfl⟩
      case round =>
        obtain ⟨j, hj1, hj, rfl⟩ := hrel
        have hjs : j < s.size := by omega
        by_cases hjc : j < k
        · obtain ⟨d1, d2⟩ := hd.out j hjs hj1 hjc
          go_wp2_with (go_at_call 14; refine (isDigit_yes _ d1 d2 _).mono ?_; rintro e w' ⟨rfl, rfl⟩)
          go_round
          case rel => exact ⟨j + 1, by omega, by omega, by go_num⟩
          case measure => simp [intOf]; omega
        · go_wp2_with fail
          go_loop [8] (fun i => ∃ j : Nat, 1 ≤ j ∧ j ≤ z ∧ i = .int .i64 j) (fun i => s.size - (intOf i).toNat)
          case atStart => exact ⟨1, by omega, by omega, rfl⟩
          case round =>
            obtain ⟨q, hq1, hq, rfl⟩ := hrel
            by_cases hqz : q < z
            · have hqs : q < s.size := by omega
              have hb : ((s[q].toNat : Int) == 48) = true := by rw [hz.out q hqs hq1 hqz]; rfl
              have hqk : q < k := by omega
              go_wp2_with fail
              go_round
              case rel => exact ⟨q + 1, by omega, by omega, by go_num⟩
              case measure => simp [intOf]; omega
            · obtain rfl : q = z := by omega
              have hqs : q < s.size := by omega
              have hqk : q < k := by omega
              have hb := hnz.out hqs hqk
              have hg : ¬ (8 : Int) < (k : Int) - (q : Int) := by omega
              have hg8 : (((k : Int) - (q : Int)) == 8) = true := by simp; omega
              obtain ⟨t, ht, hsl⟩ := slice7 s q _ (by omega) hno
              clear hno
              go_wp2_with fail
              go_ret3
              exact ⟨rfl, rfl⟩
set_option maxHeartbeats 800000 in
/-- Digits alone before the bracket; the zeros end at z. -/
theorem mp_good7 (s : ByteArray) (h : ¬ s.size < 3) (hs : s.size ≤ maxLen) (c z : Nat) (hc1 : 1 < c) (hc : Close s c) (hd : Digs s c) (hz1 : 1 ≤ z) (hzc : z ≤ c) (hz : Zeros s z) (hnz : NoZero s c z) (hsig : c - z < 8) (V : Nat) (hVle : V ≤ 10000009) (hV : Val s c z 0 V) (w : World) :
    Calls Ecmg.prog 8 #[.string s] w fun r w' => r = .returned (.tuple #[.int .i64 (V - 1), .int .i64 (c + 1), .bool true]) ∧ w' = w := by
  unfold maxLen at hs
  have h' : ¬ (s.size : Int) < 3 := by omega
  have hclt : c < s.size := hc.lt
  go_enter Ecmg.func8, Ecmg.ntmps8
  go_wp2
  go_loop [5, 6] (fun cc i => cc = .int .i64 (-1) ∧ ∃ k : Nat, 1 ≤ k ∧ k ≤ c ∧ i = .int .i64 k) (fun _ i => s.size - (intOf i).toNat)
  case atStart => exact ⟨rfl, 1, by omega, by omega, rfl⟩
  case round =>
    obtain ⟨rfl, k, hk1, hk, rfl⟩ := hrel
    by_cases hlt : k < c
    · have hno := hc.before k (by omega) hk1 hlt
      have hks : k < s.size := by omega
      have hb : ((s[k].toNat : Int) == 93) = false := by simp; omega
      go_wp2_with fail
      go_round
      case rel => exact ⟨rfl, k + 1, by omega, by omega, by go_num⟩
      case measure => simp [intOf]; omega
    · obtain rfl : k = c := by omega
      have hb : ((s[k].toNat : Int) == 93) = true := by have := hc.at93; simp; omega
      have hk0 : ¬ (k : Int) < 0 := by omega
      have hk1 : ((k : Int) == 1) = false := by simp; omega
      go_wp2_with fail
      clear hb
      go_loop [7] (fun i => ∃ j : Nat, 1 ≤ j ∧ j ≤ k ∧ i = .int .i64 j) (fun i => s.size - (intOf i).toNat)
      case atStart => exact ⟨1, by omega, by omega, rfl⟩
      case round =>
        obtain ⟨j, hj1, hj, rfl⟩ := hrel
        have hjs : j < s.size := by omega
        by_cases hjc : j < k
        · obtain ⟨d1, d2⟩ := hd.out j hjs hj1 hjc
          go_wp2_with (go_at_call 14; refine (isDigit_yes _ d1 d2 _).mono ?_; rintro e w' ⟨rfl, rfl⟩)
          go_round
          case rel => exact ⟨j + 1, by omega, by omega, by go_num⟩
          case measure => simp [intOf]; omega
        · go_wp2_with fail
          go_loop [8] (fun i => ∃ j : Nat, 1 ≤ j ∧ j ≤ z ∧ i = .int .i64 j) (fun i => s.size - (intOf i).toNat)
          case atStart => exact ⟨1, by omega, by omega, rfl⟩
          case round =>
            obtain ⟨q, hq1, hq, rfl⟩ := hrel
            by_cases hqz : q < z
            · have hqs : q < s.size := by omega
              have hb : ((s[q].toNat : Int) == 48) = true := by rw [hz.out q hqs hq1 hqz]; rfl
              have hqk : q < k := by omega
              go_wp2_with fail
              go_round
              case rel => exact ⟨q + 1, by omega, by omega, by go_num⟩
              case measure => simp [intOf]; omega
            · obtain rfl : q = z := by omega
              have hqs : q < s.size := by omega
              have hg : ¬ (8 : Int) < (k : Int) - (q : Int) := by omega
              have hg8 : (((k : Int) - (q : Int)) == 8) = false := by simp; omega
              by_cases hqk : q < k
              · have hb := hnz.out hqs hqk
                go_wp2_with fail
                clear hb
                go_loop [10, 11] (fun v i => ∃ a n : Nat, a ≤ k ∧ i = .int .i64 a ∧ v = .int .i64 n ∧ Val s k a n V) (fun _ i => s.size - (intOf i).toNat)
                case atStart => exact ⟨q, 0, by omega, rfl, rfl, hV⟩
                case round =>
                  obtain ⟨a, n, ha, rfl, rfl, hval⟩ := hrel
                  have hnV := hval.le
                  by_cases hak : a < k
                  · have has : a < s.size := by omega
                    obtain ⟨d1, d2⟩ := hd.out a has (hval.one) hak
                    go_wp2_with fail
                    go_round
                    case rel => exact ⟨a + 1, n * 10 + (s[a].toNat - 48), by omega, by go_num, by go_num, hval.step hak (by omega) has⟩
                    case measure => simp [intOf]; omega
                  · go_wp2_with fail
                    go_ret3
                    exact ⟨ret3b (by have := hval.fin (by omega); omega) (by omega) rfl, rfl⟩
              · go_wp2_with fail
                go_loop [10, 11] (fun v i => ∃ a n : Nat, a ≤ k ∧ i = .int .i64 a ∧ v = .int .i64 n ∧ Val s k a n V) (fun _ i => s.size - (intOf i).toNat)
                case atStart => exact ⟨q, 0, by omega, rfl, rfl, hV⟩
                case round =>
                  obtain ⟨a, n, ha, rfl, rfl, hval⟩ := hrel
                  have hnV := hval.le
                  by_cases hak : a < k
                  · have has : a < s.size := by omega
                    obtain ⟨d1, d2⟩ := hd.out a has (hval.one) hak
                    go_wp2_with fail
                    go_round
                    case rel => exact ⟨a + 1, n * 10 + (s[a].toNat - 48), by omega, by go_num, by go_num, hval.step hak (by omega) has⟩
                    case measure => simp [intOf]; omega
                  · go_wp2_with fail
                    go_ret3
                    exact ⟨ret3b (by have := hval.fin (by omega); omega) (by omega) rfl, rfl⟩
set_option maxHeartbeats 800000 in
/-- Digits alone before the bracket; the zeros end at z. -/
theorem mp_good8 (s : ByteArray) (h : ¬ s.size < 3) (hs : s.size ≤ maxLen) (c z : Nat) (hc1 : 1 < c) (hc : Close s c) (hd : Digs s c) (hz1 : 1 ≤ z) (hzc : z ≤ c) (hz : Zeros s z) (hnz : NoZero s c z) (hsig : c - z = 8) (hyes : ((s.extract z (z + 7)).toList == [49, 48, 48, 48, 48, 48, 48]) = true) (V : Nat) (hVle : V ≤ 10000009) (hV : Val s c z 0 V) (w : World) :
    Calls Ecmg.prog 8 #[.string s] w fun r w' => r = .returned (.tuple #[.int .i64 (V - 1), .int .i64 (c + 1), .bool true]) ∧ w' = w := by
  unfold maxLen at hs
  have h' : ¬ (s.size : Int) < 3 := by omega
  have hclt : c < s.size := hc.lt
  go_enter Ecmg.func8, Ecmg.ntmps8
  go_wp2
  go_loop [5, 6] (fun cc i => cc = .int .i64 (-1) ∧ ∃ k : Nat, 1 ≤ k ∧ k ≤ c ∧ i = .int .i64 k) (fun _ i => s.size - (intOf i).toNat)
  case atStart => exact ⟨rfl, 1, by omega, by omega, rfl⟩
  case round =>
    obtain ⟨rfl, k, hk1, hk, rfl⟩ := hrel
    by_cases hlt : k < c
    · have hno := hc.before k (by omega) hk1 hlt
      have hks : k < s.size := by omega
      have hb : ((s[k].toNat : Int) == 93) = false := by simp; omega
      go_wp2_with fail
      go_round
      case rel => exact ⟨rfl, k + 1, by omega, by omega, by go_num⟩
      case measure => simp [intOf]; omega
    · obtain rfl : k = c := by omega
      have hb : ((s[k].toNat : Int) == 93) = true := by have := hc.at93; simp; omega
      have hk0 : ¬ (k : Int) < 0 := by omega
      have hk1 : ((k : Int) == 1) = false := by simp; omega
      go_wp2_with fail
      clear hb
      go_loop [7] (fun i => ∃ j : Nat, 1 ≤ j ∧ j ≤ k ∧ i = .int .i64 j) (fun i => s.size - (intOf i).toNat)
      case atStart => exact ⟨1, by omega, by omega, rfl⟩
      case round =>
        obtain ⟨j, hj1, hj, rfl⟩ := hrel
        have hjs : j < s.size := by omega
        by_cases hjc : j < k
        · obtain ⟨d1, d2⟩ := hd.out j hjs hj1 hjc
          go_wp2_with (go_at_call 14; refine (isDigit_yes _ d1 d2 _).mono ?_; rintro e w' ⟨rfl, rfl⟩)
          go_round
          case rel => exact ⟨j + 1, by omega, by omega, by go_num⟩
          case measure => simp [intOf]; omega
        · go_wp2_with fail
          go_loop [8] (fun i => ∃ j : Nat, 1 ≤ j ∧ j ≤ z ∧ i = .int .i64 j) (fun i => s.size - (intOf i).toNat)
          case atStart => exact ⟨1, by omega, by omega, rfl⟩
          case round =>
            obtain ⟨q, hq1, hq, rfl⟩ := hrel
            by_cases hqz : q < z
            · have hqs : q < s.size := by omega
              have hb : ((s[q].toNat : Int) == 48) = true := by rw [hz.out q hqs hq1 hqz]; rfl
              have hqk : q < k := by omega
              go_wp2_with fail
              go_round
              case rel => exact ⟨q + 1, by omega, by omega, by go_num⟩
              case measure => simp [intOf]; omega
            · obtain rfl : q = z := by omega
              have hqs : q < s.size := by omega
              have hqk : q < k := by omega
              have hb := hnz.out hqs hqk
              have hg : ¬ (8 : Int) < (k : Int) - (q : Int) := by omega
              have hg8 : (((k : Int) - (q : Int)) == 8) = true := by simp; omega
              obtain ⟨t, ht, hsl⟩ := slice7 s q _ (by omega) hyes
              clear hyes
              go_wp2_with fail
              clear hb ht hsl
              go_loop [10, 11] (fun v i => ∃ a n : Nat, a ≤ k ∧ i = .int .i64 a ∧ v = .int .i64 n ∧ Val s k a n V) (fun _ i => s.size - (intOf i).toNat)
              case atStart => exact ⟨q, 0, by omega, rfl, rfl, hV⟩
              case round =>
                obtain ⟨a, n, ha, rfl, rfl, hval⟩ := hrel
                have hnV := hval.le
                by_cases hak : a < k
                · have has : a < s.size := by omega
                  obtain ⟨d1, d2⟩ := hd.out a has (hval.one) hak
                  go_wp2_with fail
                  go_round
                  case rel => exact ⟨a + 1, n * 10 + (s[a].toNat - 48), by omega, by go_num, by go_num, hval.step hak (by omega) has⟩
                  case measure => simp [intOf]; omega
                · go_wp2_with fail
                  go_ret3
                  exact ⟨ret3b (by have := hval.fin (by omega); omega) (by omega) rfl, rfl⟩
/-! ### zzModelParse answers as 'Ans' says -/
theorem ext7 (s : ByteArray) (z c : Nat) (h : c - z = 8) : (s.extract z (z + 7)).toList = (mid s z c).take 7 := by
  rw [ByteArray.toList_eq]
  obtain ⟨⟨l⟩⟩ := s
  rw [ByteArray.extract_mk]
  simp only [mid, List.drop_take, List.take_take, h]
  have : z + 7 - z = 7 := by omega
  rw [this]
  rfl

theorem find_first (p : Nat → Bool) (c : Nat) : ∀ a, a ≤ c → ∃ m, a ≤ m ∧ m ≤ c ∧ (∀ i, a ≤ i → i < m → p i = true) ∧ (m < c → p m = false) := by
  have key : ∀ d a, c - a = d → a ≤ c → ∃ m, a ≤ m ∧ m ≤ c ∧ (∀ i, a ≤ i → i < m → p i = true) ∧ (m < c → p m = false) := by
    intro d
    induction d with
    | zero => intro a hd ha; exact ⟨a, by omega, by omega, fun i h1 h2 => by omega, fun h => by omega⟩
    | succ d ih =>
      intro a hd ha
      by_cases hp : p a = true
      · obtain ⟨m, h1, h2, h3, h4⟩ := ih (a + 1) (by omega) (by omega)
        refine ⟨m, by omega, h2, fun i hi1 hi2 => ?_, h4⟩
        by_cases e : i = a
        · rw [e]; exact hp
        · exact h3 i (by omega) hi2
      · exact ⟨a, by omega, ha, fun i h1 h2 => by omega, fun _ => by simpa using hp⟩
  exact fun a ha => key _ a rfl ha

/-- The digit test at a place of the string. -/
def digAt (s : ByteArray) (i : Nat) : Bool := if h : i < s.size then dig s[i] else false
def zeroAt (s : ByteArray) (i : Nat) : Bool := if h : i < s.size then s[i].toNat == 48 else false

theorem mid_split (s : ByteArray) (a z c : Nat) (h1 : a ≤ z) (h2 : z ≤ c) : mid s a c = mid s a z ++ mid s z c := by
  simp only [mid, List.drop_take]
  have e : c - a = (z - a) + (c - z) := by omega
  rw [e, List.take_add, List.drop_drop]
  have e2 : a + (z - a) = z := by omega
  rw [e2]

theorem mp_any (s : ByteArray) (hs : s.size ≤ maxLen) (i wd : Int) (ok : Bool) (ha : Ans s i wd ok) (w : World) :
    Calls Ecmg.prog 8 #[.string s] w fun r w' => r = .returned (.tuple #[.int .i64 i, .int .i64 wd, .bool ok]) ∧ w' = w := by
  by_cases h3 : s.size < 3
  · obtain ⟨rfl, rfl, rfl⟩ := ha.short h3
    exact mp_short s h3 w
  rcases close_or s with ho | ⟨c, hc⟩
  · obtain ⟨rfl, rfl, rfl⟩ := ha.opn ho
    exact mp_open s h3 hs ho w
  have hc1 := hc.one
  have hlt := hc.lt
  by_cases h1 : c = 1
  · subst h1
    obtain ⟨rfl, rfl, rfl⟩ := ha.bad 1 (by omega) hc (by rw [mid_nil s 1 1 (by omega)]; rfl)
    exact mp_one s h3 hs hc w
  have hne : mid s 1 c ≠ [] := by
    intro e
    have := mid_length s 1 c (by omega)
    rw [e] at this; simp at this; omega
  have hnum : numOf (mid s 1 c) = pnv (mid s 1 c) 0 := by rw [numOf, if_neg hne]
  obtain ⟨m, hm1, hmc, hmd, hmn⟩ := find_first (digAt s) c 1 (by omega)
  have hdm : Digs s m := ⟨fun i hi h1 h2 => by
    have := hmd i h1 h2
    simp [digAt, hi, dig] at this
    omega⟩
  by_cases hmc' : m < c
  · have hms : m < s.size := by omega
    have hn := hmn hmc'
    have hbad : numOf (mid s 1 c) = none := by
      rw [hnum]
      refine pnv_bad _ 0 ⟨s[m], mem_mid s c (by omega) m hmc' hms _ 1 rfl hm1, ?_⟩
      simpa [digAt, hms] using hn
    obtain ⟨rfl, rfl, rfl⟩ := ha.bad c (by omega) hc hbad
    refine mp_bad s h3 hs c m (by omega) hc hm1 hmc' hdm ⟨hms, ?_⟩ w
    simp [digAt, hms, dig] at hn
    omega
  obtain rfl : m = c := by omega
  obtain ⟨z, hz1, hzc, hzd, hzn⟩ := find_first (zeroAt s) m 1 (by omega)
  have hzz : Zeros s z := ⟨fun i hi h1 h2 => by
    have := hzd i h1 h2
    simp [zeroAt, hi] at this
    omega⟩
  have hnz : NoZero s m z := ⟨fun hs h => by
    have := hzn h
    simp [zeroAt, hs] at this
    simp; omega⟩
  have hsplit := mid_split s 1 z m hz1 hzc
  have hlen := mid_length s z m (by omega)
  have hZ : ∀ c ∈ mid s 1 z, c.toNat = 48 := by
    intro c hc
    obtain ⟨i, hi, i1, i2, rfl⟩ := mid_mem s z (by omega) c _ 1 rfl hc
    have := hzz.out i hi i1 i2
    omega
  have hR : ∀ c ∈ mid s z m, dig c = true := by
    intro c hc
    obtain ⟨i, hi, i1, i2, rfl⟩ := mid_mem s m (by omega) c _ z rfl hc
    have := hdm.out i hi (by omega) i2
    exact dig_of this.1 this.2
  have hH : ∀ c cs, mid s z m = c :: cs → c.toNat ≠ 48 := by
    intro c cs hcs
    have hzm : z < m := by
      rcases Nat.lt_or_ge z m with h | h
      · exact h
      · rw [mid_nil s z m h] at hcs; cases hcs
    rw [mid_cons s z m hzm (by omega) (by omega)] at hcs
    cases hcs
    have := hnz.out (by omega) hzm
    simp at this
    omega
  by_cases h9 : 8 < m - z
  · have hbad : numOf (mid s 1 m) = none := by
      rw [hnum, hsplit]
      exact pnv_model_none _ _ hZ hR hH (.inl (by omega))
    obtain ⟨rfl, rfl, rfl⟩ := ha.bad m (by omega) hc hbad
    exact mp_long s h3 hs m z (by omega) hc hdm hz1 hzc hzz hnz h9 w
  by_cases h8 : m - z = 8
  · have e7 := ext7 s z m h8
    match ht : ((s.extract z (z + 7)).toList == [49, 48, 48, 48, 48, 48, 48]) with
    | true =>
      have ht' := ht
      rw [e7] at ht'
      have ht2 : (mid s z m).take 7 = [49, 48, 48, 48, 48, 48, 48] := by simpa using ht'
      obtain ⟨hv, hvle⟩ := pnv_model _ _ hZ hR hH (.inr ⟨by omega, ht2⟩)
      rw [← hsplit, ← hnum] at hv
      obtain ⟨rfl, rfl, rfl⟩ := ha.good m _ (by omega) hc hv
      exact mp_good8 s h3 hs m z (by omega) hc hdm hz1 hzc hzz hnz h8 ht _ hvle ⟨hz1, rfl⟩ w
    | false =>
      have ht' := ht
      rw [e7] at ht'
      have ht2 : (mid s z m).take 7 ≠ [49, 48, 48, 48, 48, 48, 48] := by simpa using ht'
      have hbad : numOf (mid s 1 m) = none := by
        rw [hnum, hsplit]
        exact pnv_model_none _ _ hZ hR hH (.inr ⟨by omega, ht2⟩)
      obtain ⟨rfl, rfl, rfl⟩ := ha.bad m (by omega) hc hbad
      exact mp_eight s h3 hs m z (by omega) hc hdm hz1 hzc hzz hnz h8 ht w
  · obtain ⟨hv, hvle⟩ := pnv_model _ _ hZ hR hH (.inl (by omega))
    rw [← hsplit, ← hnum] at hv
    obtain ⟨rfl, rfl, rfl⟩ := ha.good m _ (by omega) hc hv
    exact mp_good7 s h3 hs m z (by omega) hc hdm hz1 hzc hzz hnz (by omega) _ hvle ⟨hz1, rfl⟩ w

end Go.Proofs.Yoecmw
