/-
  THE WALKS OF argNumber AND ZZArgNumber.
-/
import Derived.Test.YoecmwWalkA
import Derived.Deep.QuietTactic
import Derived.BigQuiet
namespace Go.Proofs.Yoecmw
open Go.RowKit
open Pl

/-- The zero value of the printer's struct. -/
theorem exZ : ∃ Z : Array Value, (∀ w, (zeroValue 44).run Ecmg.prog w = .ok (.agg Z) w) ∧ Z.size = 88 ∧ Z[85]? = some (.bool false) ∧ Z[86]? = some (.bool false) :=
  ⟨match (Ecmg.prog.info? 44).bind (·.zero) with | some (.agg cs) => cs | _ => #[], fun w => by kernel_rfl, by kernel_rfl, by kernel_rfl, by kernel_rfl⟩

theorem sliceFrom (s : ByteArray) (k : Nat) (hk : k ≤ s.size) (wx : World) :
    (Instr.slice 9 (.string s) (some (.int .i64 (k : Int))) none none).run Ecmg.prog wx = .ok (.string (s.extract k s.size)) wx := by
  have h1 : (0 : Int) ≤ k ∧ (k : Int) ≤ s.size := by omega
  simp [Instr.slice, Instr.sliceBounds, Instr.sliceBound, asIntOf, run_underlying Ecmg.underlying9, h1]
  intro hc
  omega

/-! ### argNumber -/
set_option maxHeartbeats 400000 in
theorem an_end (a : Addr) (n : Int) (s : ByteArray) (k : Nat) (na : Int) (h : s.size ≤ k) (w : World) :
    Calls Ecmg.prog 15 #[.pointer (some a), .int .i64 n, .string s, .int .i64 k, .int .i64 na] w fun e w' => e = .returned (.tuple #[.int .i64 n, .int .i64 k, .bool false]) ∧ w' = w := by
  go_enter Ecmg.func15, Ecmg.ntmps15
  go_wp2
  go_ret3
  exact ⟨rfl, rfl⟩

set_option maxHeartbeats 400000 in
theorem an_other (a : Addr) (n : Int) (s : ByteArray) (k : Nat) (na : Int) (h : k < s.size) (hb : ((s[k].toNat : Int) == 91) = false) (w : World) :
    Calls Ecmg.prog 15 #[.pointer (some a), .int .i64 n, .string s, .int .i64 k, .int .i64 na] w fun e w' => e = .returned (.tuple #[.int .i64 n, .int .i64 k, .bool false]) ∧ w' = w := by
  have h' : ¬ s.size ≤ k := by omega
  go_enter Ecmg.func15, Ecmg.ntmps15
  go_wp2
  go_ret3
  exact ⟨rfl, rfl⟩

set_option maxHeartbeats 400000 in
theorem an_found (b : Nat) (n : Int) (s : ByteArray) (k : Nat) (na : Int) (t : ByteArray) (i wd : Int) (r : Bool) (h : k < s.size) (hb : ((s[k].toNat : Int) == 91) = true) (hs : s.size ≤ 2000000)
    (ht : t.size ≤ maxLen) (hsl : ∀ wx : World, (Instr.slice 9 (.string s) (some (.int .i64 (k : Int))) none none).run Ecmg.prog wx = .ok (.string t) wx)
    (ha : Ans t i wd true) (hi0 : 0 ≤ i) (hi1 : i < na) (hw0 : 1 ≤ wd) (hw1 : wd ≤ 2000001) (w : World)
    (h85 : w.cell? ⟨b, 85, none⟩ = some (.bool r)) (f85 : w.frozen? ⟨b, 85, none⟩ = false) :
    Calls Ecmg.prog 15 #[.pointer (some ⟨b, 0, none⟩), .int .i64 n, .string s, .int .i64 k, .int .i64 na] w fun e w' => e = .returned (.tuple #[.int .i64 i, .int .i64 (k + wd), .bool true]) ∧ w' = w.setCell ⟨b, 85, none⟩ (.bool true) := by
  have h' : ¬ s.size ≤ k := by omega
  go_enter Ecmg.func15, Ecmg.ntmps15
  go_wp2_with (go_at_call 13; refine (pan_any t ht i wd true ha _).mono ?_; rintro e w' ⟨rfl, rfl⟩)
  go_ret3
  exact ⟨rfl, rfl⟩

set_option maxHeartbeats 400000 in
theorem an_lost (b : Nat) (n : Int) (s : ByteArray) (k : Nat) (na : Int) (t : ByteArray) (i wd : Int) (ok r g : Bool) (h : k < s.size) (hb : ((s[k].toNat : Int) == 91) = true) (hs : s.size ≤ 2000000)
    (ht : t.size ≤ maxLen) (hsl : ∀ wx : World, (Instr.slice 9 (.string s) (some (.int .i64 (k : Int))) none none).run Ecmg.prog wx = .ok (.string t) wx)
    (ha : Ans t i wd ok) (hno : ok = false ∨ i < 0 ∨ na ≤ i) (hw0 : 1 ≤ wd) (hw1 : wd ≤ 2000001) (w : World)
    (h85 : w.cell? ⟨b, 85, none⟩ = some (.bool r)) (f85 : w.frozen? ⟨b, 85, none⟩ = false) (h86 : w.cell? ⟨b, 86, none⟩ = some (.bool g)) (f86 : w.frozen? ⟨b, 86, none⟩ = false) :
    Calls Ecmg.prog 15 #[.pointer (some ⟨b, 0, none⟩), .int .i64 n, .string s, .int .i64 k, .int .i64 na] w fun e w' => e = .returned (.tuple #[.int .i64 n, .int .i64 (k + wd), .bool ok]) ∧ w' = (w.setCell ⟨b, 85, none⟩ (.bool true)).setCell ⟨b, 86, none⟩ (.bool false) := by
  have h' : ¬ s.size ≤ k := by omega
  cases ok with
  | false =>
    clear hno
    go_enter Ecmg.func15, Ecmg.ntmps15
    go_wp2_with (go_at_call 13; refine (pan_any t ht i wd false ha _).mono ?_; rintro e w' ⟨rfl, rfl⟩)
    go_ret3
    exact ⟨rfl, rfl⟩
  | true =>
    by_cases h0 : 0 ≤ i
    · have h1 : ¬ i < na := by
        rcases hno with h | h | h
        · cases h
        · omega
        · omega
      clear hno
      go_enter Ecmg.func15, Ecmg.ntmps15
      go_wp2_with (go_at_call 13; refine (pan_any t ht i wd true ha _).mono ?_; rintro e w' ⟨rfl, rfl⟩)
      go_ret3
      exact ⟨rfl, rfl⟩
    · clear hno
      go_enter Ecmg.func15, Ecmg.ntmps15
      go_wp2_with (go_at_call 13; refine (pan_any t ht i wd true ha _).mono ?_; rintro e w' ⟨rfl, rfl⟩)
      go_ret3
      exact ⟨rfl, rfl⟩

/-! ### ZZArgNumber -/
theorem grown_drewN {W w' : World} (h : Grown W w') : ∀ n, Grown W (w'.drewN n) := fun _ => h

theorem cell_new (w : World) (C : Array Value) (T : TypeId) (j : Nat) (v : Value) (h : C[j]? = some v) : (w.alloc (.cells C T)).cell? ⟨w.heap.size, j, none⟩ = some v :=
  (World.cell?_alloc_at C T w.heap.size j rfl).trans h

theorem frozen_new (w : World) (C : Array Value) (T : TypeId) (j : Nat) : (w.alloc (.cells C T)).frozen? ⟨w.heap.size, j, none⟩ = false := by
  rw [frozen?_alloc_cells]
  simp [World.frozen?]

set_option maxHeartbeats 400000 in
theorem zan_end (n : Int) (s : ByteArray) (k : Nat) (na : Int) (r g : Bool) (h : s.size ≤ k) (w : World) :
    Calls Ecmg.prog 10 #[.int .i64 n, .string s, .int .i64 k, .int .i64 na, .bool r, .bool g] w fun e w' => e = .returned (.tuple #[.int .i64 n, .int .i64 k, .bool false, .bool r, .bool g]) ∧ Grown w w' := by
  obtain ⟨Z, hZ, hZs, hz1, hz2⟩ := exZ
  go_enter Ecmg.func10, Ecmg.ntmps10
  go_wp2_with fail
  refine (an_end _ n s k na h _).mono ?_
  rintro e w' ⟨rfl, rfl⟩
  go_wp2
  go_quiet (fail)
  go_wp2
  exact bodyPost_ret (v := .tuple #[.int .i64 n, .int .i64 k, .bool false, .bool r, .bool g]) (by simp [results, Ecmg.results10, go_sem]) rfl ⟨rfl, grown_drewN ((Grown.refl w).alloc _ _) _⟩

set_option maxHeartbeats 400000 in
theorem zan_other (n : Int) (s : ByteArray) (k : Nat) (na : Int) (r g : Bool) (h : k < s.size) (hb : ((s[k].toNat : Int) == 91) = false) (w : World) :
    Calls Ecmg.prog 10 #[.int .i64 n, .string s, .int .i64 k, .int .i64 na, .bool r, .bool g] w fun e w' => e = .returned (.tuple #[.int .i64 n, .int .i64 k, .bool false, .bool r, .bool g]) ∧ Grown w w' := by
  obtain ⟨Z, hZ, hZs, hz1, hz2⟩ := exZ
  go_enter Ecmg.func10, Ecmg.ntmps10
  go_wp2_with fail
  refine (an_other _ n s k na h hb _).mono ?_
  rintro e w' ⟨rfl, rfl⟩
  go_wp2
  go_quiet (fail)
  go_wp2
  exact bodyPost_ret (v := .tuple #[.int .i64 n, .int .i64 k, .bool false, .bool r, .bool g]) (by simp [results, Ecmg.results10, go_sem]) rfl ⟨rfl, grown_drewN ((Grown.refl w).alloc _ _) _⟩

set_option maxHeartbeats 400000 in
theorem zan_found (n : Int) (s : ByteArray) (k : Nat) (na : Int) (r g : Bool) (t : ByteArray) (i wd : Int) (h : k < s.size) (hb : ((s[k].toNat : Int) == 91) = true) (hs : s.size ≤ 2000000)
    (ht : t.size ≤ maxLen) (hsl : ∀ wx : World, (Instr.slice 9 (.string s) (some (.int .i64 (k : Int))) none none).run Ecmg.prog wx = .ok (.string t) wx)
    (ha : Ans t i wd true) (hi0 : 0 ≤ i) (hi1 : i < na) (hw0 : 1 ≤ wd) (hw1 : wd ≤ 2000001) (w : World) :
    Calls Ecmg.prog 10 #[.int .i64 n, .string s, .int .i64 k, .int .i64 na, .bool r, .bool g] w fun e w' => e = .returned (.tuple #[.int .i64 i, .int .i64 (k + wd), .bool true, .bool true, .bool g]) ∧ Grown w w' := by
  obtain ⟨Z, hZ, hZs, hz1, hz2⟩ := exZ
  have q1 : ((Z.setIfInBounds 85 (.bool r)).setIfInBounds 86 (.bool g))[85]? = some (.bool r) := by simp [hZs]
  go_enter Ecmg.func10, Ecmg.ntmps10
  go_wp2_with fail
  refine (an_found w.heap.size n s k na t i wd r h hb hs ht hsl ha hi0 hi1 hw0 hw1 _ (cell_new w _ 44 85 (.bool r) q1) (frozen_new w _ 44 85)).mono ?_
  rintro e w' ⟨rfl, rfl⟩
  clear hsl q1
  go_wp2
  go_quiet (fail)
  go_wp2
  exact bodyPost_ret (v := .tuple #[.int .i64 i, .int .i64 (k + wd), .bool true, .bool true, .bool g]) (by simp [results, Ecmg.results10, go_sem]) rfl ⟨rfl, grown_drewN ((Grown.refl w).alloc _ _) _⟩

set_option maxHeartbeats 400000 in
theorem zan_lost (n : Int) (s : ByteArray) (k : Nat) (na : Int) (r g : Bool) (t : ByteArray) (i wd : Int) (ok : Bool) (h : k < s.size) (hb : ((s[k].toNat : Int) == 91) = true) (hs : s.size ≤ 2000000)
    (ht : t.size ≤ maxLen) (hsl : ∀ wx : World, (Instr.slice 9 (.string s) (some (.int .i64 (k : Int))) none none).run Ecmg.prog wx = .ok (.string t) wx)
    (ha : Ans t i wd ok) (hno : ok = false ∨ i < 0 ∨ na ≤ i) (hw0 : 1 ≤ wd) (hw1 : wd ≤ 2000001) (w : World) :
    Calls Ecmg.prog 10 #[.int .i64 n, .string s, .int .i64 k, .int .i64 na, .bool r, .bool g] w fun e w' => e = .returned (.tuple #[.int .i64 n, .int .i64 (k + wd), .bool ok, .bool true, .bool false]) ∧ Grown w w' := by
  obtain ⟨Z, hZ, hZs, hz1, hz2⟩ := exZ
  have q1 : ((Z.setIfInBounds 85 (.bool r)).setIfInBounds 86 (.bool g))[85]? = some (.bool r) := by simp [hZs]
  have q2 : ((Z.setIfInBounds 85 (.bool r)).setIfInBounds 86 (.bool g))[86]? = some (.bool g) := by simp [hZs]
  have HN : Hid (ok = false ∨ i < 0 ∨ na ≤ i) := hno
  clear hno
  go_enter Ecmg.func10, Ecmg.ntmps10
  go_wp2_with fail
  refine (an_lost w.heap.size n s k na t i wd ok r g h hb hs ht hsl ha HN.out hw0 hw1 _ (cell_new w _ 44 85 (.bool r) q1) (frozen_new w _ 44 85) (cell_new w _ 44 86 (.bool g) q2) (frozen_new w _ 44 86)).mono ?_
  rintro e w' ⟨rfl, rfl⟩
  clear hsl q1 q2
  go_wp2
  go_quiet (fail)
  go_wp2
  exact bodyPost_ret (v := .tuple #[.int .i64 n, .int .i64 (k + wd), .bool ok, .bool true, .bool false]) (by simp [results, Ecmg.results10, go_sem]) rfl ⟨rfl, grown_drewN ((Grown.refl w).alloc _ _) _⟩
end Go.Proofs.Yoecmw
