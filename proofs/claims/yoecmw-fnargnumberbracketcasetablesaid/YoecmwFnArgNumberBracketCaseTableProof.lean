/-
  'Rows.FnArgNumberBracketCaseTableSaid' PROVED. The frame is the seat's shell (proof-skeleton.mjs), the walk is filled in.
-/
import Derived.Test.YoecmwRows
import Derived.WalkKit
import Derived.ProofKit
import Derived.OpenShut
import Derived.ShutString
import Derived.Test.YoecmwWalkC
import Derived.Test.YoecmwWalkD
import Derived.Test.YoecmwFmt
namespace Go.Proofs.Yoecmw.fnArgNumberBracketCaseTable
open Go.ChangeShapes Go.WideShapes Go.ChangeAt Go.RowKit
open Go.ChangeMaps (open_string shut_string)
set_option linter.unusedVariables false      -- a walk need not use every 'w<i>' (that an integer argument fits its kind)

theorem own : ownKnob Ecmg.prog.godebug = none := by kernel_rfl

/-! ### THE WALK: the Go text returns true -/
open Pl
set_option maxHeartbeats 400000 in
theorem bytes_no (n : Int) (p : ByteArray) (N : Nat) (t : ByteArray) (na : Int) (g : Bool) (h : 1048576 < p.size + t.size) (hp : p.size ≤ maxLen) (ht : t.size ≤ maxLen) (w : World) : Calls Ecmg.prog 11 #[.int .i64 n, .string p, .int .u64 N, .string t, .int .i64 na, .bool g] w fun e w' => e = .returned (.bool false) ∧ w' = w := by
  unfold maxLen at hp ht
  by_cases h1 : 1048576 < p.size
  · have h' : (1048576 : Int) < (p.size : Int) := by omega
    go_enter Ecmg.func11, Ecmg.ntmps11
    go_wp2
    go_ret
    exact ⟨rfl, rfl⟩
  · have h' : ¬ (1048576 : Int) < (p.size : Int) := by omega
    by_cases h2 : 1048576 < t.size
    · have h2' : (1048576 : Int) < (t.size : Int) := by omega
      go_enter Ecmg.func11, Ecmg.ntmps11
      go_wp2
      go_ret
      exact ⟨rfl, rfl⟩
    · have h2' : ¬ (1048576 : Int) < (t.size : Int) := by omega
      have h3 : (1048576 : Int) < (p.size : Int) + (t.size : Int) := by omega
      go_enter Ecmg.func11, Ecmg.ntmps11
      go_wp2
      go_ret
      exact ⟨rfl, rfl⟩

set_option maxHeartbeats 400000 in
theorem bytes_yes (n : Int) (p : ByteArray) (N : Nat) (t : ByteArray) (na : Int) (g : Bool) (h : ¬ 1048576 < p.size + t.size) (w : World) : Calls Ecmg.prog 11 #[.int .i64 n, .string p, .int .u64 N, .string t, .int .i64 na, .bool g] w fun e w' => e = .returned (.bool true) ∧ w' = w := by
  have h' : ¬ (1048576 : Int) < (p.size : Int) := by omega
  have h2' : ¬ (1048576 : Int) < (t.size : Int) := by omega
  have h3 : ¬ (1048576 : Int) < (p.size : Int) + (t.size : Int) := by omega
  go_enter Ecmg.func11, Ecmg.ntmps11
  go_wp2
  go_ret
  exact ⟨rfl, rfl⟩

/-! ### ZZArgNumber at a bracketed number -/
/-- The format's bytes. -/
theorem fmt_bytes (p d t : ByteArray) (D N : Nat) (hd : d = ⟨(digs D N).toArray⟩) :
    (p ++ ⟨#[91]⟩ ++ d ++ ⟨#[93]⟩ ++ t).data.toList = p.data.toList ++ 91 :: (digs D N ++ 93 :: t.data.toList) := by
  subst hd
  simp [ByteArray.data_append]

theorem ext_bytes (F : ByteArray) (k : Nat) : (F.extract k F.size).data.toList = F.data.toList.drop k := by
  obtain ⟨⟨l⟩⟩ := F
  rw [ByteArray.extract_mk]
  apply List.take_of_length_le
  simp [ByteArray.size]

theorem fmt_at (p d t : ByteArray) (D N : Nat) (hd : d = ⟨(digs D N).toArray⟩) :
    Fmt (p ++ ⟨#[91]⟩ ++ d ++ ⟨#[93]⟩ ++ t) p ((p ++ ⟨#[91]⟩ ++ d ++ ⟨#[93]⟩ ++ t).extract p.size (p ++ ⟨#[91]⟩ ++ d ++ ⟨#[93]⟩ ++ t).size) D N t.data.toList :=
  fmt_of _ _ _ _ _ _ (fmt_bytes p d t D N hd) (ext_bytes _ _)

theorem d_size (d : ByteArray) (D N : Nat) (hd : d = ⟨(digs D N).toArray⟩) : d.size = D := by
  subst hd
  have h := digs_length D N
  simpa [ByteArray.size] using h

theorem zan_big (n : Int) (p d t : ByteArray) (na : Int) (g : Bool) (D N : Nat) (hd : d = ⟨(digs D N).toArray⟩) (hD : NDig N D) (hD20 : D ≤ 20) (hp : p.size ≤ 524288) (ht : t.size ≤ 524288) (hN : 10000009 < N) (w : World) :
    Calls Ecmg.prog 10 #[.int .i64 n, .string (p ++ ⟨#[91]⟩ ++ d ++ ⟨#[93]⟩ ++ t), .int .i64 p.size, .int .i64 na, .bool false, .bool g] w fun e w' => e = .returned (.tuple #[.int .i64 n, .int .i64 (p.size + d.size + 2), .bool false, .bool true, .bool false]) ∧ Grown w w' := by
  have f := fmt_at p d t D N hd
  have hds := d_size d D N hd
  have e : (p.size : Int) + d.size + 2 = p.size + (D + 2) := by rw [hds]; omega
  rw [e]
  have htl : t.data.toList.length = t.size := rfl
  have hts := size_of _ D N _ f.rest
  have hfs := f.size
  have h91 := f.at91
  exact zan_lost n _ p.size na false g _ 0 (D + 2) false f.lt (by simp; omega) (by omega) (by unfold maxLen; omega) (sliceFrom _ _ (Nat.le_of_lt f.lt)) (ans_big _ D N _ f.rest hD hN) (.inl rfl) (by omega) (by omega) w

theorem zan_in (n : Int) (p d t : ByteArray) (na : Int) (g : Bool) (D N : Nat) (hd : d = ⟨(digs D N).toArray⟩) (hD : NDig N D) (hD20 : D ≤ 20) (hp : p.size ≤ 524288) (ht : t.size ≤ 524288) (hN : ¬ 10000009 < N) (h1 : 1 ≤ N) (h2 : (N : Int) ≤ na) (w : World) :
    Calls Ecmg.prog 10 #[.int .i64 n, .string (p ++ ⟨#[91]⟩ ++ d ++ ⟨#[93]⟩ ++ t), .int .i64 p.size, .int .i64 na, .bool false, .bool g] w fun e w' => e = .returned (.tuple #[.int .i64 (N - 1), .int .i64 (p.size + d.size + 2), .bool true, .bool true, .bool g]) ∧ Grown w w' := by
  have f := fmt_at p d t D N hd
  have hds := d_size d D N hd
  have e : (p.size : Int) + d.size + 2 = p.size + (D + 2) := by rw [hds]; omega
  rw [e]
  have htl : t.data.toList.length = t.size := rfl
  have hts := size_of _ D N _ f.rest
  have hfs := f.size
  have h91 := f.at91
  exact zan_found n _ p.size na false g _ (N - 1) (D + 2) f.lt (by simp; omega) (by omega) (by unfold maxLen; omega) (sliceFrom _ _ (Nat.le_of_lt f.lt)) (ans_small _ D N _ f.rest hD hN) (by omega) (by omega) (by omega) (by omega) w

theorem zan_out (n : Int) (p d t : ByteArray) (na : Int) (g : Bool) (D N : Nat) (hd : d = ⟨(digs D N).toArray⟩) (hD : NDig N D) (hD20 : D ≤ 20) (hp : p.size ≤ 524288) (ht : t.size ≤ 524288) (hN : ¬ 10000009 < N) (h1 : N = 0 ∨ na < (N : Int)) (w : World) :
    Calls Ecmg.prog 10 #[.int .i64 n, .string (p ++ ⟨#[91]⟩ ++ d ++ ⟨#[93]⟩ ++ t), .int .i64 p.size, .int .i64 na, .bool false, .bool g] w fun e w' => e = .returned (.tuple #[.int .i64 n, .int .i64 (p.size + d.size + 2), .bool true, .bool true, .bool false]) ∧ Grown w w' := by
  have f := fmt_at p d t D N hd
  have hds := d_size d D N hd
  have e : (p.size : Int) + d.size + 2 = p.size + (D + 2) := by rw [hds]; omega
  rw [e]
  have htl : t.data.toList.length = t.size := rfl
  have hts := size_of _ D N _ f.rest
  have hfs := f.size
  have h91 := f.at91
  exact zan_lost n _ p.size na false g _ (N - 1) (D + 2) true f.lt (by simp; omega) (by omega) (by unfold maxLen; omega) (sliceFrom _ _ (Nat.le_of_lt f.lt)) (ans_small _ D N _ f.rest hD hN) (.inr (by omega)) (by omega) (by omega) w

theorem grown_trans {a b c : World} (h1 : Grown a b) (h2 : Grown b c) : Grown a c :=
  ⟨World.keptBut_trans h1.1 h2.1, fun x => (h2.2.1 x).trans (h1.2.1 x), Nat.le_trans h1.2.2 h2.2.2⟩

theorem digits_as (N D : Nat) (hN : N < 18446744073709551616) (hD : NDig N D) (hD20 : D ≤ 20) (d : ByteArray) (hd : d = ⟨(digs D N).toArray⟩) (w : World) :
    Calls Ecmg.prog 12 #[.int .u64 N, .int .u64 10, .bool false] w fun e w' => e = .returned (.string d) ∧ Grown w w' := by
  subst hd
  exact zzDigits_any N D hN hD hD20 w

/-! ### the law, case by case -/
set_option maxHeartbeats 400000 in
theorem w_long (n : Int) (p : ByteArray) (N : Nat) (t : ByteArray) (na : Int) (g : Bool) (h : 1048576 < p.size + t.size) (hp : p.size ≤ maxLen) (ht : t.size ≤ maxLen) (w : World) :
    Calls Ecmg.prog 5 #[.int .i64 n, .string p, .int .u64 N, .string t, .int .i64 na, .bool g] w fun e w' => e = .returned (.bool true) ∧ Grown w w' := by
  go_enter Ecmg.func5, Ecmg.ntmps5
  go_wp2_with (go_at_call 11; refine (bytes_no n p N t na g h hp ht _).mono ?_; rintro e w' ⟨rfl, rfl⟩)
  go_ret
  exact ⟨rfl, Grown.refl _⟩

set_option maxHeartbeats 400000 in
theorem w_half (n : Int) (p : ByteArray) (N : Nat) (t : ByteArray) (na : Int) (g : Bool) (h : ¬ 1048576 < p.size + t.size) (hh : 524288 < p.size ∨ 524288 < t.size) (w : World) :
    Calls Ecmg.prog 5 #[.int .i64 n, .string p, .int .u64 N, .string t, .int .i64 na, .bool g] w fun e w' => e = .returned (.bool true) ∧ Grown w w' := by
  by_cases h1 : 524288 < p.size
  · clear hh
    have hp' : (524288 : Int) < (p.size : Int) := by omega
    go_enter Ecmg.func5, Ecmg.ntmps5
    go_wp2_with (go_at_call 11; refine (bytes_yes n p N t na g h _).mono ?_; rintro e w' ⟨rfl, rfl⟩)
    go_ret
    exact ⟨rfl, Grown.refl _⟩
  · have hp' : ¬ (524288 : Int) < (p.size : Int) := by omega
    have ht' : (524288 : Int) < (t.size : Int) := by omega
    clear hh
    go_enter Ecmg.func5, Ecmg.ntmps5
    go_wp2_with (go_at_call 11; refine (bytes_yes n p N t na g h _).mono ?_; rintro e w' ⟨rfl, rfl⟩)
    go_ret
    exact ⟨rfl, Grown.refl _⟩

set_option maxHeartbeats 800000 in
theorem w_big (n : Int) (p : ByteArray) (N : Nat) (t : ByteArray) (na : Int) (g : Bool) (h : ¬ 1048576 < p.size + t.size) (hp : p.size ≤ 524288) (ht : t.size ≤ 524288) (D : Nat) (HN : Hid (N < 18446744073709551616)) (hD : NDig N D) (hD20 : D ≤ 20) (d : ByteArray) (hd : Hid (d = ⟨(digs D N).toArray⟩)) (hds : d.size ≤ 20) (hN : 10000009 < N) (w : World) :
    Calls Ecmg.prog 5 #[.int .i64 n, .string p, .int .u64 N, .string t, .int .i64 na, .bool g] w fun e w' => e = .returned (.bool true) ∧ Grown w w' := by
  have hp' : ¬ (524288 : Int) < (p.size : Int) := by omega
  have ht' : ¬ (524288 : Int) < (t.size : Int) := by omega
  have hN' : (10000009 : Int) < (N : Int) := by omega
  go_enter Ecmg.func5, Ecmg.ntmps5
  go_wp2_with (go_at_call 11; refine (bytes_yes n p N t na g h _).mono ?_; rintro e w' ⟨rfl, rfl⟩)
  refine (digits_as N D HN.out hD hD20 d hd.out _).mono ?_
  rintro e w1 ⟨rfl, hg1⟩
  go_wp2_with fail
  refine (zan_big n p d t na g D N hd.out hD hD20 hp ht hN _).mono ?_
  rintro e w2 ⟨rfl, hg2⟩
  go_wp2
  go_ret
  exact ⟨rfl, grown_trans hg1 hg2⟩

set_option maxHeartbeats 800000 in
theorem w_in (n : Int) (p : ByteArray) (N : Nat) (t : ByteArray) (na : Int) (g : Bool) (h : ¬ 1048576 < p.size + t.size) (hp : p.size ≤ 524288) (ht : t.size ≤ 524288) (D : Nat) (HN : Hid (N < 18446744073709551616)) (hD : NDig N D) (hD20 : D ≤ 20) (d : ByteArray) (hd : Hid (d = ⟨(digs D N).toArray⟩)) (hds : d.size ≤ 20) (hN : ¬ 10000009 < N) (h1 : 1 ≤ N) (h2 : (N : Int) ≤ na) (w : World) :
    Calls Ecmg.prog 5 #[.int .i64 n, .string p, .int .u64 N, .string t, .int .i64 na, .bool g] w fun e w' => e = .returned (.bool true) ∧ Grown w w' := by
  have hp' : ¬ (524288 : Int) < (p.size : Int) := by omega
  have ht' : ¬ (524288 : Int) < (t.size : Int) := by omega
  have hN' : ¬ (10000009 : Int) < (N : Int) := by omega
  have h1' : (1 : Int) ≤ (N : Int) := by omega
  go_enter Ecmg.func5, Ecmg.ntmps5
  go_wp2_with (go_at_call 11; refine (bytes_yes n p N t na g h _).mono ?_; rintro e w' ⟨rfl, rfl⟩)
  refine (digits_as N D HN.out hD hD20 d hd.out _).mono ?_
  rintro e w1 ⟨rfl, hg1⟩
  go_wp2_with fail
  refine (zan_in n p d t na g D N hd.out hD hD20 hp ht hN h1 h2 _).mono ?_
  rintro e w2 ⟨rfl, hg2⟩
  go_wp2
  go_ret
  exact ⟨rfl, grown_trans hg1 hg2⟩

set_option maxHeartbeats 800000 in
theorem w_out (n : Int) (p : ByteArray) (N : Nat) (t : ByteArray) (na : Int) (g : Bool) (h : ¬ 1048576 < p.size + t.size) (hp : p.size ≤ 524288) (ht : t.size ≤ 524288) (D : Nat) (HN : Hid (N < 18446744073709551616)) (hD : NDig N D) (hD20 : D ≤ 20) (d : ByteArray) (hd : Hid (d = ⟨(digs D N).toArray⟩)) (hds : d.size ≤ 20) (hN : ¬ 10000009 < N) (h1 : 1 ≤ N) (h2 : ¬ (N : Int) ≤ na) (w : World) :
    Calls Ecmg.prog 5 #[.int .i64 n, .string p, .int .u64 N, .string t, .int .i64 na, .bool g] w fun e w' => e = .returned (.bool true) ∧ Grown w w' := by
  have hp' : ¬ (524288 : Int) < (p.size : Int) := by omega
  have ht' : ¬ (524288 : Int) < (t.size : Int) := by omega
  have hN' : ¬ (10000009 : Int) < (N : Int) := by omega
  have h1' : (1 : Int) ≤ (N : Int) := by omega
  go_enter Ecmg.func5, Ecmg.ntmps5
  go_wp2_with (go_at_call 11; refine (bytes_yes n p N t na g h _).mono ?_; rintro e w' ⟨rfl, rfl⟩)
  refine (digits_as N D HN.out hD hD20 d hd.out _).mono ?_
  rintro e w1 ⟨rfl, hg1⟩
  go_wp2_with fail
  refine (zan_out n p d t na g D N hd.out hD hD20 hp ht hN (.inr (by omega)) _).mono ?_
  rintro e w2 ⟨rfl, hg2⟩
  go_wp2
  go_ret
  exact ⟨rfl, grown_trans hg1 hg2⟩

set_option maxHeartbeats 800000 in
theorem w_zero (n : Int) (p : ByteArray) (t : ByteArray) (na : Int) (g : Bool) (h : ¬ 1048576 < p.size + t.size) (hp : p.size ≤ 524288) (ht : t.size ≤ 524288) (D : Nat) (hD : NDig 0 D) (hD20 : D ≤ 20) (d : ByteArray) (hd : Hid (d = ⟨(digs D 0).toArray⟩)) (hds : d.size ≤ 20) (w : World) :
    Calls Ecmg.prog 5 #[.int .i64 n, .string p, .int .u64 0, .string t, .int .i64 na, .bool g] w fun e w' => e = .returned (.bool true) ∧ Grown w w' := by
  have hp' : ¬ (524288 : Int) < (p.size : Int) := by omega
  have ht' : ¬ (524288 : Int) < (t.size : Int) := by omega
  go_enter Ecmg.func5, Ecmg.ntmps5
  go_wp2_with (go_at_call 11; refine (bytes_yes n p 0 t na g h _).mono ?_; rintro e w' ⟨rfl, rfl⟩)
  refine (digits_as 0 D (by omega) hD hD20 d hd.out _).mono ?_
  rintro e w1 ⟨rfl, hg1⟩
  go_wp2_with fail
  refine (zan_out n p d t na g D 0 hd.out hD hD20 hp ht (by omega) (.inl rfl) _).mono ?_
  rintro e w2 ⟨rfl, hg2⟩
  go_wp2
  go_ret
  exact ⟨rfl, grown_trans hg1 hg2⟩

theorem walk (a0 : Int) (a1 : ByteArray) (a2 : Int) (a3 : ByteArray) (a4 : Int) (a5 : Bool) (w0 : (Lit.int .i64 a0).wf = true) (w1 : a1.size ≤ maxLen) (w2 : (Lit.int .u64 a2).wf = true) (w3 : a3.size ≤ maxLen) (w4 : (Lit.int .i64 a4).wf = true) (w : World) :
    Calls Ecmg.prog 5 #[.int .i64 a0, .string a1, .int .u64 a2, .string a3, .int .i64 a4, .bool a5] w fun e w' => e = .returned (.bool true) ∧ Grown w w' := by
  have hb := bounds_u64 w2
  obtain ⟨N, rfl⟩ : ∃ N : Nat, a2 = N := ⟨a2.toNat, by omega⟩
  by_cases h : 1048576 < a1.size + a3.size
  · exact w_long a0 a1 N a3 a4 a5 h w1 w3 w
  by_cases hh : 524288 < a1.size ∨ 524288 < a3.size
  · exact w_half a0 a1 N a3 a4 a5 h hh w
  have hN : N < 18446744073709551616 := by omega
  obtain ⟨D, hD, hD20⟩ := ndig_u64 N hN
  have hds : (⟨(digs D N).toArray⟩ : ByteArray).size ≤ 20 := by rw [d_size _ D N rfl]; exact hD20
  by_cases hbig : 10000009 < N
  · exact w_big a0 a1 N a3 a4 a5 h (by omega) (by omega) D hN hD hD20 ⟨(digs D N).toArray⟩ rfl hds hbig w
  by_cases h1 : 1 ≤ N
  · by_cases h2 : (N : Int) ≤ a4
    · exact w_in a0 a1 N a3 a4 a5 h (by omega) (by omega) D hN hD hD20 ⟨(digs D N).toArray⟩ rfl hds hbig h1 h2 w
    · exact w_out a0 a1 N a3 a4 a5 h (by omega) (by omega) D hN hD hD20 ⟨(digs D N).toArray⟩ rfl hds hbig h1 h2 w
  · obtain rfl : N = 0 := by omega
    exact w_zero a0 a1 a3 a4 a5 h (by omega) (by omega) D hD hD20 ⟨(digs D 0).toArray⟩ rfl hds w

/-! ### THE ROW's STEP: WRITTEN OUT: LEAVE IT -/
set_option maxRecDepth 100000 in
theorem lifted (os : Os) (started : os.Started) (H : Type) (enc : TypeId × Value → H) :
    ReturnsInHanded {} Ecmg.checked os 5 .any (Rows.fnArgNumberBracketCaseTableSpec.pre6 enc Ecmg.prog Ecmg.f5 Rows.fnArgNumberBracketCaseTableRow.domain false) (Rows.fnArgNumberBracketCaseTableSpec.post enc Ecmg.prog Ecmg.f5 false true false false) := by
  refine returnsInHanded_of_change (C := Ecmg.checked) own started (by kernel_rfl) Ecmg.func5
    (ChangeSpec.witness6 (enc := enc) (C := Ecmg.checked) false ⟨#[], #[.int .i64 0, .string ByteArray.empty, .int .u64 0, .string ByteArray.empty, .int .i64 0, .bool false], []⟩ 8 (by kernel_rfl) (by kernel_rfl) (by kernel_rfl) (by kernel_rfl)) ?_
  intro W base args ds gs before hval0 hW hcnd _
  have hval : ∀ (j : Nat) t v, Ecmg.f5.params[j]? = some t → args[j]? = some v → Value.okWide Ecmg.prog W .any base t v := hval0
  have hW' := hW
  obtain ⟨p, q, hA0, hV, rfl, hfz, hnd⟩ := hW
  have hA : DataW.TrodAll enc Ecmg.prog W 0 (fun _ => true) true Ecmg.f5.params.toList args.toList ds p := hA0
  rw [Ecmg.params5] at hA hval
  obtain ⟨v0, vs0, d0, ds0, p0, q0, hargs, rfl, rfl, h0, r0⟩ := trodAll_cons hA
  obtain ⟨v1, vs1, d1, ds1, p1, q1, rfl, rfl, rfl, h1, r1⟩ := trodAll_cons r0
  obtain ⟨v2, vs2, d2, ds2, p2, q2, rfl, rfl, rfl, h2, r2⟩ := trodAll_cons r1
  obtain ⟨v3, vs3, d3, ds3, p3, q3, rfl, rfl, rfl, h3, r3⟩ := trodAll_cons r2
  obtain ⟨v4, vs4, d4, ds4, p4, q4, rfl, rfl, rfl, h4, r4⟩ := trodAll_cons r3
  obtain ⟨v5, vs5, d5, ds5, p5, q5, rfl, rfl, rfl, h5, r5⟩ := trodAll_cons r4
  obtain ⟨rfl, rfl, rfl⟩ := trodAll_nil r5
  obtain rfl : args = #[v0, v1, v2, v3, v4, v5] := by cases args; simp_all
  obtain ⟨rfl, rfl⟩ := trodVars_none hV
  obtain ⟨a0, rfl, rfl, rfl, w0⟩ := open_int Ecmg.underlying3 (hval 0 3 v0 rfl rfl) h0
  obtain ⟨a1, rfl, rfl, rfl, w1⟩ := open_string Ecmg.underlying9 (hval 1 9 v1 rfl rfl) h1
  obtain ⟨a2, rfl, rfl, rfl, w2⟩ := open_int Ecmg.underlying28 (hval 2 28 v2 rfl rfl) h2
  obtain ⟨a3, rfl, rfl, rfl, w3⟩ := open_string Ecmg.underlying9 (hval 3 9 v3 rfl rfl) h3
  obtain ⟨a4, rfl, rfl, rfl, w4⟩ := open_int Ecmg.underlying3 (hval 4 3 v4 rfl rfl) h4
  obtain ⟨a5, rfl, rfl, rfl⟩ := open_bool Ecmg.underlying4 (hval 5 4 v5 rfl rfl) h5
  clear hA0 hval0
  simp only [List.append_nil] at hW'
  refine (walk a0 a1 a2 a3 a4 a5 w0 w1 w2 w3 w4 W).mono fun e W' ⟨he, hg⟩ => ?_
  subst he
  exact ⟨_, rfl, post_of_same (pa := []) (pv := []) hW' (fun _ _ _ => (trodAll_cons_mk (shut_bool Ecmg.underlying4 _) trodAll_mk0)) (fun sp _ => (trodAll_cons_mk (shut_int Ecmg.underlying3 w0) (trodAll_cons_mk (shut_string Ecmg.underlying9 w1) (trodAll_cons_mk (shut_int Ecmg.underlying28 w2) (trodAll_cons_mk (shut_string Ecmg.underlying9 w3) (trodAll_cons_mk (shut_int Ecmg.underlying3 w4) (trodAll_cons_mk (shut_bool Ecmg.underlying4 _) trodAll_mk0))))))) (fun _ _ => rfl) rfl
    (hg.frame _) hg.2.1 (ok_one (by kernel_rfl) rfl (okWide_bool_mk Ecmg.underlying4 _))⟩

theorem over : Rows.fnArgNumberBracketCaseTableRow.holds Ecmg.pinned (OpenSpec.ofChange Rows.fnArgNumberBracketCaseTableSpec) :=
  OpenClaim.holds_of_wide 5 Ecmg.f5 rfl rfl rfl rfl rfl rfl rfl ⟨rfl, rfl, rfl, rfl, rfl⟩ rfl rfl rfl rfl rfl (by kernel_rfl) Ecmg.func5 (by kernel_rfl)
    (of_decide_eq_true (by kernel_rfl)) (by unfold Func.isWrapper; first | (rw [if_pos (by decide +kernel)]; kernel_rfl) | (rw [if_neg (by decide +kernel)]; exact ⟨rfl, rfl⟩))
    (fun os started H enc _ => lifted os started H enc)

/-- ████ THE STATEMENT ████ -/
theorem proved : Rows.FnArgNumberBracketCaseTableSaid :=
  over
#print axioms proved
end Go.Proofs.Yoecmw.fnArgNumberBracketCaseTable
