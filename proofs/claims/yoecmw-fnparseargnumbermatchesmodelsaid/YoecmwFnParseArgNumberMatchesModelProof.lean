/-
  'Rows.FnParseArgNumberMatchesModelSaid' PROVED. The frame is the seat's shell (proof-skeleton.mjs), the walk is filled in.
-/
import Derived.Test.YoecmwRows
import Derived.WalkKit
import Derived.ProofKit
import Derived.OpenShut
import Derived.ShutString
import Derived.Test.YoecmwWalkB
namespace Go.Proofs.Yoecmw.fnParseArgNumberMatchesModel
open Go.ChangeShapes Go.WideShapes Go.ChangeAt Go.RowKit
open Go.ChangeMaps (open_string shut_string)
set_option linter.unusedVariables false      -- a walk need not use every 'w<i>' (that an integer argument fits its kind)

theorem own : ownKnob Ecmg.prog.godebug = none := by kernel_rfl

/-! ### THE WALK: the Go text returns true -/
open Pl
set_option maxHeartbeats 400000 in
theorem bytes_no (s : ByteArray) (h : 1048576 < s.size) (w : World) : Calls Ecmg.prog 6 #[.string s] w fun e w' => e = .returned (.bool false) ∧ w' = w := by
  have h' : (1048576 : Int) < (s.size : Int) := by omega
  go_enter Ecmg.func6, Ecmg.ntmps6
  go_wp2
  go_ret
  exact ⟨rfl, rfl⟩

set_option maxHeartbeats 400000 in
theorem bytes_yes (s : ByteArray) (h : s.size ≤ 1048576) (w : World) : Calls Ecmg.prog 6 #[.string s] w fun e w' => e = .returned (.bool true) ∧ w' = w := by
  have h' : ¬ (1048576 : Int) < (s.size : Int) := by omega
  go_enter Ecmg.func6, Ecmg.ntmps6
  go_wp2
  go_ret
  exact ⟨rfl, rfl⟩

set_option maxHeartbeats 400000 in
theorem walk (a0 : ByteArray) (w0 : a0.size ≤ maxLen) (w : World) :
    Calls Ecmg.prog 3 #[.string a0] w fun e w' => e = .returned (.bool true) ∧ Grown w w' := by
  by_cases h : 1048576 < a0.size
  · go_enter Ecmg.func3, Ecmg.ntmps3
    go_wp2_with (go_at_call 6; refine (bytes_no a0 h _).mono ?_; rintro e w' ⟨rfl, rfl⟩)
    go_ret
    exact ⟨rfl, Grown.refl _⟩
  · obtain ⟨i, wd, ok, ha, -⟩ := ans_all a0
    have h' : ¬ (1048576 : Int) < (a0.size : Int) := by omega
    have hle : a0.size ≤ 1048576 := by omega
    have e1 : (i == i) = true := by simp
    have e2 : (wd == wd) = true := by simp
    have e3 : (ok == ok) = true := by simp
    go_enter Ecmg.func3, Ecmg.ntmps3
    go_wp2_with (first | (go_at_call 6; refine (bytes_yes a0 hle _).mono ?_; rintro e w' ⟨rfl, rfl⟩) | (go_at_call 7; refine (zzpan_any a0 w0 i wd ok ha _).mono ?_; rintro e w' ⟨rfl, rfl⟩) | (go_at_call 8; refine (mp_any a0 w0 i wd ok ha _).mono ?_; rintro e w' ⟨rfl, rfl⟩))
    go_ret
    exact ⟨rfl, Grown.refl _⟩

/-! ### THE ROW's STEP: WRITTEN OUT: LEAVE IT -/
set_option maxRecDepth 100000 in
theorem lifted (os : Os) (started : os.Started) (H : Type) (enc : TypeId × Value → H) :
    ReturnsInHanded {} Ecmg.checked os 3 .any (Rows.fnParseArgNumberMatchesModelSpec.pre6 enc Ecmg.prog Ecmg.f3 Rows.fnParseArgNumberMatchesModelRow.domain false) (Rows.fnParseArgNumberMatchesModelSpec.post enc Ecmg.prog Ecmg.f3 false true false false) := by
  refine returnsInHanded_of_change (C := Ecmg.checked) own started (by kernel_rfl) Ecmg.func3
    (ChangeSpec.witness6 (enc := enc) (C := Ecmg.checked) false ⟨#[], #[.string ByteArray.empty], []⟩ 8 (by kernel_rfl) (by kernel_rfl) (by kernel_rfl) (by kernel_rfl)) ?_
  intro W base args ds gs before hval0 hW hcnd _
  have hval : ∀ (j : Nat) t v, Ecmg.f3.params[j]? = some t → args[j]? = some v → Value.okWide Ecmg.prog W .any base t v := hval0
  have hW' := hW
  obtain ⟨p, q, hA0, hV, rfl, hfz, hnd⟩ := hW
  have hA : DataW.TrodAll enc Ecmg.prog W 0 (fun _ => true) true Ecmg.f3.params.toList args.toList ds p := hA0
  rw [Ecmg.params3] at hA hval
  obtain ⟨v0, vs0, d0, ds0, p0, q0, hargs, rfl, rfl, h0, r0⟩ := trodAll_cons hA
  obtain ⟨rfl, rfl, rfl⟩ := trodAll_nil r0
  obtain rfl : args = #[v0] := by cases args; simp_all
  obtain ⟨rfl, rfl⟩ := trodVars_none hV
  obtain ⟨a0, rfl, rfl, rfl, w0⟩ := open_string Ecmg.underlying9 (hval 0 9 v0 rfl rfl) h0
  clear hA0 hval0
  simp only [List.append_nil] at hW'
  refine (walk a0 w0 W).mono fun e W' ⟨he, hg⟩ => ?_
  subst he
  exact ⟨_, rfl, post_of_same (pa := []) (pv := []) hW' (fun _ _ _ => (trodAll_cons_mk (shut_bool Ecmg.underlying4 _) trodAll_mk0)) (fun sp _ => (trodAll_cons_mk (shut_string Ecmg.underlying9 w0) trodAll_mk0)) (fun _ _ => rfl) rfl
    (hg.frame _) hg.2.1 (ok_one (by kernel_rfl) rfl (okWide_bool_mk Ecmg.underlying4 _))⟩

theorem over : Rows.fnParseArgNumberMatchesModelRow.holds Ecmg.pinned (OpenSpec.ofChange Rows.fnParseArgNumberMatchesModelSpec) :=
  OpenClaim.holds_of_wide 3 Ecmg.f3 rfl rfl rfl rfl rfl rfl rfl ⟨rfl, rfl, rfl, rfl, rfl⟩ rfl rfl rfl rfl rfl (by kernel_rfl) Ecmg.func3 (by kernel_rfl)
    (of_decide_eq_true (by kernel_rfl)) (by unfold Func.isWrapper; first | (rw [if_pos (by decide +kernel)]; kernel_rfl) | (rw [if_neg (by decide +kernel)]; exact ⟨rfl, rfl⟩))
    (fun os started H enc _ => lifted os started H enc)

/-- ████ THE STATEMENT ████ -/
theorem proved : Rows.FnParseArgNumberMatchesModelSaid :=
  over
#print axioms proved
end Go.Proofs.Yoecmw.fnParseArgNumberMatchesModel
