/-
  'Rows.FnArgNumberMatchesModelSaid' PROVED. The frame is the seat's shell (proof-skeleton.mjs), the walk is filled in.
-/
import Derived.Test.YoecmwRows
import Derived.WalkKit
import Derived.ProofKit
import Derived.OpenShut
import Derived.ShutString
import Derived.Test.YoecmwWalkB
import Derived.Test.YoecmwWalkC
namespace Go.Proofs.Yoecmw.fnArgNumberMatchesModel
open Go.ChangeShapes Go.WideShapes Go.ChangeAt Go.RowKit
open Go.ChangeMaps (open_string shut_string)
set_option linter.unusedVariables false      -- a walk need not use every 'w<i>' (that an integer argument fits its kind)

theorem own : ownKnob Ecmg.prog.godebug = none := by kernel_rfl

/-! ### THE WALK: the Go text returns true -/
open Pl
set_option maxHeartbeats 400000 in
theorem bytes_no (n : Int) (s : ByteArray) (i na : Int) (r g : Bool) (h : 1048576 < s.size) (w : World) : Calls Ecmg.prog 9 #[.int .i64 n, .string s, .int .i64 i, .int .i64 na, .bool r, .bool g] w fun e w' => e = .returned (.bool false) ∧ w' = w := by
  have h' : (1048576 : Int) < (s.size : Int) := by omega
  go_enter Ecmg.func9, Ecmg.ntmps9
  go_wp2
  go_ret
  exact ⟨rfl, rfl⟩

set_option maxHeartbeats 400000 in
theorem bytes_yes (n : Int) (s : ByteArray) (i na : Int) (r g : Bool) (h : s.size ≤ 1048576) (w : World) : Calls Ecmg.prog 9 #[.int .i64 n, .string s, .int .i64 i, .int .i64 na, .bool r, .bool g] w fun e w' => e = .returned (.bool true) ∧ w' = w := by
  have h' : ¬ (1048576 : Int) < (s.size : Int) := by omega
  go_enter Ecmg.func9, Ecmg.ntmps9
  go_wp2
  go_ret
  exact ⟨rfl, rfl⟩

set_option maxHeartbeats 400000 in
theorem w_long (n : Int) (s : ByteArray) (i na : Int) (r g : Bool) (h : 1048576 < s.size) (w : World) :
    Calls Ecmg.prog 4 #[.int .i64 n, .string s, .int .i64 i, .int .i64 na, .bool r, .bool g] w fun e w' => e = .returned (.bool true) ∧ Grown w w' := by
  go_enter Ecmg.func4, Ecmg.ntmps4
  go_wp2_with (go_at_call 9; refine (bytes_no n s i na r g h _).mono ?_; rintro e w' ⟨rfl, rfl⟩)
  go_ret
  exact ⟨rfl, Grown.refl _⟩

set_option maxHeartbeats 400000 in
theorem w_neg (n : Int) (s : ByteArray) (i na : Int) (r g : Bool) (h : s.size ≤ 1048576) (hi : i < 0) (w : World) :
    Calls Ecmg.prog 4 #[.int .i64 n, .string s, .int .i64 i, .int .i64 na, .bool r, .bool g] w fun e w' => e = .returned (.bool true) ∧ Grown w w' := by
  have h' : ¬ (1048576 : Int) < (s.size : Int) := by omega
  go_enter Ecmg.func4, Ecmg.ntmps4
  go_wp2_with (go_at_call 9; refine (bytes_yes n s i na r g h _).mono ?_; rintro e w' ⟨rfl, rfl⟩)
  go_ret
  exact ⟨rfl, Grown.refl _⟩

set_option maxHeartbeats 400000 in
theorem w_end (n : Int) (s : ByteArray) (k : Nat) (na : Int) (r g : Bool) (h : s.size ≤ 1048576) (hk : s.size ≤ k) (w : World) :
    Calls Ecmg.prog 4 #[.int .i64 n, .string s, .int .i64 k, .int .i64 na, .bool r, .bool g] w fun e w' => e = .returned (.bool true) ∧ Grown w w' := by
  have h' : ¬ (1048576 : Int) < (s.size : Int) := by omega
  have h0 : ¬ (k : Int) < 0 := by omega
  go_enter Ecmg.func4, Ecmg.ntmps4
  go_wp2_with (go_at_call 9; refine (bytes_yes n s k na r g h _).mono ?_; rintro e w' ⟨rfl, rfl⟩)
  refine (zan_end n s k na r g hk _).mono ?_
  rintro e w1 ⟨rfl, hg⟩
  go_wp2
  go_ret
  exact ⟨rfl, hg⟩

set_option maxHeartbeats 400000 in
theorem w_other (n : Int) (s : ByteArray) (k : Nat) (na : Int) (r g : Bool) (h : s.size ≤ 1048576) (hk : k < s.size) (hb : ((s[k].toNat : Int) == 91) = false) (w : World) :
    Calls Ecmg.prog 4 #[.int .i64 n, .string s, .int .i64 k, .int .i64 na, .bool r, .bool g] w fun e w' => e = .returned (.bool true) ∧ Grown w w' := by
  have h' : ¬ (1048576 : Int) < (s.size : Int) := by omega
  have h0 : ¬ (k : Int) < 0 := by omega
  have hk' : ¬ s.size ≤ k := by omega
  go_enter Ecmg.func4, Ecmg.ntmps4
  go_wp2_with (go_at_call 9; refine (bytes_yes n s k na r g h _).mono ?_; rintro e w' ⟨rfl, rfl⟩)
  refine (zan_other n s k na r g hk hb _).mono ?_
  rintro e w1 ⟨rfl, hg⟩
  go_wp2
  go_ret
  exact ⟨rfl, hg⟩

set_option maxHeartbeats 400000 in
theorem w_found (n : Int) (s : ByteArray) (k : Nat) (na : Int) (r g : Bool) (t : ByteArray) (i wd : Int) (h : s.size ≤ 1048576) (hk : k < s.size) (hb : ((s[k].toNat : Int) == 91) = true)
    (ht : t.size ≤ maxLen) (hsl : ∀ wx : World, (Instr.slice 9 (.string s) (some (.int .i64 (k : Int))) none none).run Ecmg.prog wx = .ok (.string t) wx)
    (ha : Ans t i wd true) (hi0 : 0 ≤ i) (hi1 : i < na) (hw0 : 1 ≤ wd) (hw1 : wd ≤ 2000001) (w : World) :
    Calls Ecmg.prog 4 #[.int .i64 n, .string s, .int .i64 k, .int .i64 na, .bool r, .bool g] w fun e w' => e = .returned (.bool true) ∧ Grown w w' := by
  have h' : ¬ (1048576 : Int) < (s.size : Int) := by omega
  have h0 : ¬ (k : Int) < 0 := by omega
  have hk' : ¬ s.size ≤ k := by omega
  go_enter Ecmg.func4, Ecmg.ntmps4
  go_wp2_with (go_at_call 9; refine (bytes_yes n s k na r g h _).mono ?_; rintro e w' ⟨rfl, rfl⟩)
  refine (zan_found n s k na r g t i wd hk hb (by omega) ht hsl ha hi0 hi1 hw0 hw1 _).mono ?_
  rintro e w1 ⟨rfl, hg⟩
  go_wp2_with (go_at_call 8; refine (mp_any t ht i wd true ha _).mono ?_; rintro e w' ⟨rfl, rfl⟩)
  go_ret
  exact ⟨rfl, hg⟩

set_option maxHeartbeats 800000 in
theorem w_lost (n : Int) (s : ByteArray) (k : Nat) (na : Int) (r g : Bool) (t : ByteArray) (i wd : Int) (ok : Bool) (h : s.size ≤ 1048576) (hk : k < s.size) (hb : ((s[k].toNat : Int) == 91) = true)
    (ht : t.size ≤ maxLen) (hsl : ∀ wx : World, (Instr.slice 9 (.string s) (some (.int .i64 (k : Int))) none none).run Ecmg.prog wx = .ok (.string t) wx)
    (ha : Ans t i wd ok) (hno : ok = false ∨ i < 0 ∨ na ≤ i) (hw0 : 1 ≤ wd) (hw1 : wd ≤ 2000001) (w : World) :
    Calls Ecmg.prog 4 #[.int .i64 n, .string s, .int .i64 k, .int .i64 na, .bool r, .bool g] w fun e w' => e = .returned (.bool true) ∧ Grown w w' := by
  have h' : ¬ (1048576 : Int) < (s.size : Int) := by omega
  have h0 : ¬ (k : Int) < 0 := by omega
  have hk' : ¬ s.size ≤ k := by omega
  cases ok with
  | false =>
    clear hno
    go_enter Ecmg.func4, Ecmg.ntmps4
    go_wp2_with (go_at_call 9; refine (bytes_yes n s k na r g h _).mono ?_; rintro e w' ⟨rfl, rfl⟩)
    refine (zan_lost n s k na r g t i wd false hk hb (by omega) ht hsl ha (.inl rfl) hw0 hw1 _).mono ?_
    rintro e w1 ⟨rfl, hg⟩
    go_wp2_with (go_at_call 8; refine (mp_any t ht i wd false ha _).mono ?_; rintro e w' ⟨rfl, rfl⟩)
    go_ret
    exact ⟨rfl, hg⟩
  | true =>
    by_cases hi0 : 0 ≤ i
    · have hi1 : ¬ i < na := by
        rcases hno with h | h | h
        · cases h
        · omega
        · omega
      clear hno
      go_enter Ecmg.func4, Ecmg.ntmps4
      go_wp2_with (go_at_call 9; refine (bytes_yes n s k na r g h _).mono ?_; rintro e w' ⟨rfl, rfl⟩)
      refine (zan_lost n s k na r g t i wd true hk hb (by omega) ht hsl ha (.inr (.inr (by omega))) hw0 hw1 _).mono ?_
      rintro e w1 ⟨rfl, hg⟩
      go_wp2_with (go_at_call 8; refine (mp_any t ht i wd true ha _).mono ?_; rintro e w' ⟨rfl, rfl⟩)
      go_ret
      exact ⟨rfl, hg⟩
    · clear hno
      go_enter Ecmg.func4, Ecmg.ntmps4
      go_wp2_with (go_at_call 9; refine (bytes_yes n s k na r g h _).mono ?_; rintro e w' ⟨rfl, rfl⟩)
      refine (zan_lost n s k na r g t i wd true hk hb (by omega) ht hsl ha (.inr (.inl (by omega))) hw0 hw1 _).mono ?_
      rintro e w1 ⟨rfl, hg⟩
      go_wp2_with (go_at_call 8; refine (mp_any t ht i wd true ha _).mono ?_; rintro e w' ⟨rfl, rfl⟩)
      go_ret
      exact ⟨rfl, hg⟩

theorem walk (a0 : Int) (a1 : ByteArray) (a2 : Int) (a3 : Int) (a4 : Bool) (a5 : Bool) (w0 : (Lit.int .i64 a0).wf = true) (w1 : a1.size ≤ maxLen) (w2 : (Lit.int .i64 a2).wf = true) (w3 : (Lit.int .i64 a3).wf = true) (w : World) :
    Calls Ecmg.prog 4 #[.int .i64 a0, .string a1, .int .i64 a2, .int .i64 a3, .bool a4, .bool a5] w fun e w' => e = .returned (.bool true) ∧ Grown w w' := by
  by_cases h : 1048576 < a1.size
  · exact w_long a0 a1 a2 a3 a4 a5 h w
  by_cases hi : a2 < 0
  · exact w_neg a0 a1 a2 a3 a4 a5 (by omega) hi w
  obtain ⟨k, rfl⟩ : ∃ k : Nat, a2 = k := ⟨a2.toNat, by omega⟩
  by_cases hk : a1.size ≤ k
  · exact w_end a0 a1 k a3 a4 a5 (by omega) hk w
  have hks : k < a1.size := by omega
  match hb : ((a1[k].toNat : Int) == 91) with
  | false => exact w_other a0 a1 k a3 a4 a5 (by omega) hks hb w
  | true =>
    obtain ⟨i, wd, ok, ha, hi0, hi1, hw0, hw1⟩ := ans_all (a1.extract k a1.size)
    have hts : (a1.extract k a1.size).size ≤ 1048576 := by simp; omega
    have hsl := sliceFrom a1 k (by omega)
    have ht : (a1.extract k a1.size).size ≤ maxLen := by unfold maxLen; omega
    by_cases hf : ok = true ∧ 0 ≤ i ∧ i < a3
    · obtain ⟨rfl, hf0, hf1⟩ := hf
      exact w_found a0 a1 k a3 a4 a5 _ i wd (by omega) hks hb ht hsl ha hf0 hf1 hw0 (by omega) w
    · refine w_lost a0 a1 k a3 a4 a5 _ i wd ok (by omega) hks hb ht hsl ha ?_ hw0 (by omega) w
      cases ok with
      | false => exact .inl rfl
      | true =>
        right
        by_cases h0 : 0 ≤ i
        · have h2 : ¬ i < a3 := fun h1 => hf ⟨rfl, h0, h1⟩
          right; omega
        · left; omega

/-! ### THE ROW's STEP: WRITTEN OUT: LEAVE IT -/
set_option maxRecDepth 100000 in
theorem lifted (os : Os) (started : os.Started) (H : Type) (enc : TypeId × Value → H) :
    ReturnsInHanded {} Ecmg.checked os 4 .any (Rows.fnArgNumberMatchesModelSpec.pre6 enc Ecmg.prog Ecmg.f4 Rows.fnArgNumberMatchesModelRow.domain false) (Rows.fnArgNumberMatchesModelSpec.post enc Ecmg.prog Ecmg.f4 false true false false) := by
  refine returnsInHanded_of_change (C := Ecmg.checked) own started (by kernel_rfl) Ecmg.func4
    (ChangeSpec.witness6 (enc := enc) (C := Ecmg.checked) false ⟨#[], #[.int .i64 0, .string ByteArray.empty, .int .i64 0, .int .i64 0, .bool false, .bool false], []⟩ 8 (by kernel_rfl) (by kernel_rfl) (by kernel_rfl) (by kernel_rfl)) ?_
  intro W base args ds gs before hval0 hW hcnd _
  have hval : ∀ (j : Nat) t v, Ecmg.f4.params[j]? = some t → args[j]? = some v → Value.okWide Ecmg.prog W .any base t v := hval0
  have hW' := hW
  obtain ⟨p, q, hA0, hV, rfl, hfz, hnd⟩ := hW
  have hA : DataW.TrodAll enc Ecmg.prog W 0 (fun _ => true) true Ecmg.f4.params.toList args.toList ds p := hA0
  rw [Ecmg.params4] at hA hval
  obtain ⟨v0, vs0, d0, ds0, p0, q0, hargs, rfl, rfl, h0, r0⟩ := trodAll_cons hA
  obtain ⟨v1, vs1, d1, ds1, p1, q1, rfl, rfl, rfl, h1, r1⟩ := trodAll_cons r0
  obtain ⟨v2, vs2, d2, ds2, p2, q2, rfl, rfl, rfl, h2, r2⟩ := trodAll_cons r1
  obtain ⟨v3, vs3, d3, ds3, p3, q3, rfl, rfl, rfl, h3, r3⟩ := trodAll_cons r2
  obtain ⟨v4, vs4, d4, ds4, p4, q4, rfl, rfl, rfl, h4, r4⟩ := trodAll_cons r3
  obtain ⟨v5, vs5, d5, ds5, p5, q5, rfl, rfl, rfl, h5, r5⟩ := trodAll_cons r4
  obtain ⟨rfl, rfl, rfl⟩ := trodAll_nil r5
  obtain rfl : args = #[v0, v1, v2, v3, v4, v5] := by cases args; simp_all
  obtain ⟨rfl, rfl⟩ := trodVars_none hV
  obtain ⟨a0, rfl, rfl, rfl, w0⟩ := open_int Ecmg.underlying3 (hval 0 3 v0 rfl rfl) h0
  obtain ⟨a1, rfl, rfl, rfl, w1⟩ := open_string Ecmg.underlying9 (hval 1 9 v1 rfl rfl) h1
  obtain ⟨a2, rfl, rfl, rfl, w2⟩ := open_int Ecmg.underlying3 (hval 2 3 v2 rfl rfl) h2
  obtain ⟨a3, rfl, rfl, rfl, w3⟩ := open_int Ecmg.underlying3 (hval 3 3 v3 rfl rfl) h3
  obtain ⟨a4, rfl, rfl, rfl⟩ := open_bool Ecmg.underlying4 (hval 4 4 v4 rfl rfl) h4
  obtain ⟨a5, rfl, rfl, rfl⟩ := open_bool Ecmg.underlying4 (hval 5 4 v5 rfl rfl) h5
  clear hA0 hval0
  simp only [List.append_nil] at hW'
  refine (walk a0 a1 a2 a3 a4 a5 w0 w1 w2 w3 W).mono fun e W' ⟨he, hg⟩ => ?_
  subst he
  exact ⟨_, rfl, post_of_same (pa := []) (pv := []) hW' (fun _ _ _ => (trodAll_cons_mk (shut_bool Ecmg.underlying4 _) trodAll_mk0)) (fun sp _ => (trodAll_cons_mk (shut_int Ecmg.underlying3 w0) (trodAll_cons_mk (shut_string Ecmg.underlying9 w1) (trodAll_cons_mk (shut_int Ecmg.underlying3 w2) (trodAll_cons_mk (shut_int Ecmg.underlying3 w3) (trodAll_cons_mk (shut_bool Ecmg.underlying4 _) (trodAll_cons_mk (shut_bool Ecmg.underlying4 _) trodAll_mk0))))))) (fun _ _ => rfl) rfl
    (hg.frame _) hg.2.1 (ok_one (by kernel_rfl) rfl (okWide_bool_mk Ecmg.underlying4 _))⟩

theorem over : Rows.fnArgNumberMatchesModelRow.holds Ecmg.pinned (OpenSpec.ofChange Rows.fnArgNumberMatchesModelSpec) :=
  OpenClaim.holds_of_wide 4 Ecmg.f4 rfl rfl rfl rfl rfl rfl rfl ⟨rfl, rfl, rfl, rfl, rfl⟩ rfl rfl rfl rfl rfl (by kernel_rfl) Ecmg.func4 (by kernel_rfl)
    (of_decide_eq_true (by kernel_rfl)) (by unfold Func.isWrapper; first | (rw [if_pos (by decide +kernel)]; kernel_rfl) | (rw [if_neg (by decide +kernel)]; exact ⟨rfl, rfl⟩))
    (fun os started H enc _ => lifted os started H enc)

/-- ████ THE STATEMENT ████ -/
theorem proved : Rows.FnArgNumberMatchesModelSaid :=
  over
#print axioms proved
end Go.Proofs.Yoecmw.fnArgNumberMatchesModel
