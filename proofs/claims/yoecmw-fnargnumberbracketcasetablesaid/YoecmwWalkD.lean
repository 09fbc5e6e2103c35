/-
  THE WALK OF zzDigits at base 10, lower case.
-/
import Derived.Test.YoecmwRows
import Derived.Test.YoecmwDig
import Derived.WalkKit
import Derived.Deep.OwnRows
namespace Go.Proofs.Yoecmw
open Go.RowKit
open Pl
theorem lower_at (u : Nat) (wx : World) : (Instr.index 9 (.string { data := #[48, 49, 50, 51, 52, 53, 54, 55, 56, 57, 97, 98, 99, 100, 101, 102] }) (.int .u64 ((u : Int) % 10))).run Ecmg.prog wx = .ok (.int .u8 (48 + (u : Int) % 10)) wx := by
  have h : u % 10 < 10 := Nat.mod_lt _ (by omega)
  have e : (u : Int) % 10 = ((u % 10 : Nat) : Int) := by omega
  rw [e]
  generalize u % 10 = k at h
  obtain rfl | rfl | rfl | rfl | rfl | rfl | rfl | rfl | rfl | rfl : k = 0 ∨ k = 1 ∨ k = 2 ∨ k = 3 ∨ k = 4 ∨ k = 5 ∨ k = 6 ∨ k = 7 ∨ k = 8 ∨ k = 9 := by omega
  all_goals (show _ = _; kernel_rfl)

/-- The array: m digits laid, the least first. -/
structure Tmp (N m : Nat) (A : Array Value) : Prop where
  size : A.size = 64
  done : ∀ i, i < m → A[i]? = some (.int .u8 ((48 + N / 10 ^ i % 10 : Nat) : Int))
  rest : ∀ i, m ≤ i → i < 64 → A[i]? = some (.int .u8 0)

theorem Tmp.start (N : Nat) : Tmp N 0 (Array.replicate 64 (.int .u8 0)) :=
  ⟨by simp, fun i h => by omega, fun i _ h => by simp [h]⟩

theorem Tmp.step {N D m u : Nat} {A : Array Value} (h : Tmp N m A) (hl : Lp N D m u) (hm : m < 64) : Tmp N (m + 1) (A.setIfInBounds m (.int .u8 (48 + (u : Int) % 10))) := by
  have hs := h.size
  refine ⟨by simp [hs], fun i hi => ?_, fun i hi hi2 => ?_⟩
  · by_cases e : i = m
    · subst e
      rw [Array.getElem?_setIfInBounds_self_of_lt (by omega), ← hl.out]
      congr 2
    · rw [Array.getElem?_setIfInBounds_ne (by omega)]
      exact h.done i (by omega)
  · rw [Array.getElem?_setIfInBounds_ne (by omega)]
    exact h.rest i (by omega) hi2

/-- The slice: j digits laid, the greatest first. -/
structure Outs (N D j : Nat) (B : Array Value) : Prop where
  size : B.size = D
  done : ∀ i, i < j → B[i]? = some (.int .u8 ((48 + N / 10 ^ (D - 1 - i) % 10 : Nat) : Int))
  rest : ∀ i, j ≤ i → i < D → B[i]? = some (.int .u8 0)

theorem Outs.start (N D : Nat) : Outs N D 0 (madeCells #[.int .u8 0] D) :=
  ⟨by simp [size_madeCells], fun i h => by omega, fun i _ h => by simp [madeCells, h, Nat.mod_one]⟩

theorem Outs.step {N D j : Nat} {B : Array Value} (h : Outs N D j B) (hj : j < D) : Outs N D (j + 1) (B.setIfInBounds j (.int .u8 ((48 + N / 10 ^ (D - 1 - j) % 10 : Nat) : Int))) := by
  have hs := h.size
  refine ⟨by simp [hs], fun i hi => ?_, fun i hi hi2 => ?_⟩
  · by_cases e : i = j
    · subst e
      rw [Array.getElem?_setIfInBounds_self_of_lt (by omega)]
    · rw [Array.getElem?_setIfInBounds_ne (by omega)]
      exact h.done i (by omega)
  · rw [Array.getElem?_setIfInBounds_ne (by omega)]
    exact h.rest i (by omega) hi2

theorem info5 : (Ecmg.prog.info? 5).map (fun i => (i.zero, i.size, i.bytes)) = some (some (.int .u8 0), 1, 1) := by kernel_rfl

theorem make_at (D : Nat) (h : D ≤ 20) (wx : World) : (Instr.makeSlice 33 (.int .i64 (D : Int)) (.int .i64 (D : Int))).run Ecmg.prog wx = .ok (.slice (some ⟨wx.heap.size, 0, none⟩) D D) (wx.alloc (.cells (madeCells #[.int .u8 0] D) 5)) :=
  run_make_row' 33 5 (.int .u8 0) 1 Ecmg.underlying33 info5 rfl .i64 .i64 D (by omega) (by omega) wx

theorem wrap_u64 (u : Nat) (h : u < 18446744073709551616) : IntKind.u64.wrap ((u : Int) / 10) = (u : Int) / 10 := by
  simp [IntKind.wrap, IntKind.bits]
  omega

theorem lp_le {N D m u : Nat} (h : Lp N D m u) : u ≤ N := by rw [h.out]; exact Nat.div_le_self _ _

theorem conv_at (N D : Nat) (A B : Array Value) (hB : Outs N D D B) (w : World) :
    (convert 33 9 (.slice (some ⟨w.heap.size + 1, 0, none⟩) D D)).run Ecmg.prog ((w.alloc (.cells A 46)).alloc (.cells B 5)) = .ok (.string ⟨(digs D N).toArray⟩) ((w.alloc (.cells A 46)).alloc (.cells B 5)) := by
  have h := run_convert_bytes_back (P := Ecmg.prog) ((w.alloc (.cells A 46)).alloc (.cells B 5)) 33 9 5 ⟨w.heap.size + 1, 0, none⟩ D (digs D N) Ecmg.underlying33 Ecmg.underlying5 Ecmg.underlying9 (fun j hj => by
    have hsz : w.heap.size + 1 = (w.alloc (.cells A 46)).heap.size := (World.size_alloc _ _).symm
    have hj' : j < D := by rw [digs_length] at hj; exact hj
    have e : (⟨w.heap.size + 1, 0, none⟩ : Addr).add j = ⟨w.heap.size + 1, j, none⟩ := by simp [Addr.add]; omega
    rw [e, World.cell?_alloc_at B 5 _ j hsz, hB.done j hj', digs_get D N j hj])
  rw [digs_length] at h
  exact h

set_option maxHeartbeats 800000 in
theorem zzDigits_any (N D : Nat) (hN : Hid (N < 18446744073709551616)) (hD : NDig N D) (hD20 : D ≤ 20) (w : World) :
    Calls Ecmg.prog 12 #[.int .u64 N, .int .u64 10, .bool false] w fun e w' => e = .returned (.string ⟨(digs D N).toArray⟩) ∧ Grown w w' := by
  have hz := fun wx : World => show (zeroValue 46).run Ecmg.prog wx = .ok (.agg (Array.replicate 64 (.int .u8 0))) wx from by kernel_rfl
  have h1D := hD.one
  generalize hZ : (Array.replicate 64 (Value.int .u8 0)) = Z at hz
  have HT : Tmp N 0 Z := hZ ▸ Tmp.start N
  clear hZ
  go_enter Ecmg.func12, Ecmg.ntmps12
  go_wp2
  go_loopw [0, 9] (fun u n wr => ∃ m uu : Nat, ∃ A : Array Value, n = .int .i64 m ∧ u = .int .u64 uu ∧ Lp N D m uu ∧ Tmp N m A ∧ wr = w.alloc (.cells A 46)) (fun _ n _ => 20 - (intOf n).toNat)
  case atStart => exact ⟨0, N, Z, rfl, rfl, ⟨by omega, by simp⟩, HT, rfl⟩
  case round =>
    obtain ⟨m, u, A, rfl, rfl, hl, hA, rfl⟩ := hrel
    have hmD := hl.lt
    have hix := lower_at u
    have hAs := hA.size
    have hAm := hA.rest m (Nat.le_refl _) (by omega)
    have hwr := wrap_u64 u (Nat.lt_of_le_of_lt (lp_le hl) hN.out)
    have hA2 := hA.step hl (by omega)
    generalize hA' : A.setIfInBounds m (.int .u8 (48 + (u : Int) % 10)) = A' at hA2
    by_cases hlast : m + 1 < D
    · obtain ⟨hl2, hpos⟩ := hl.more hD hlast
      have hb : (((u : Int) / 10) == 0) = false := by simp; omega
      go_wp2_with fail
      go_roundw
      case rel => exact ⟨m + 1, u / 10, A', by go_num, by go_num, hl2, hA2, rfl⟩
      case measure => simp [intOf]; omega
    · obtain ⟨hu0, hmD'⟩ := hl.last hD hlast
      subst hmD'
      have hb : (((u : Int) / 10) == 0) = true := by simp; omega
      have hmk := make_at (m + 1) hD20
      have ec : ((m + 1 : Nat) : Int) = (m : Int) + 1 := by omega
      rw [ec] at hmk
      have HO := Outs.start N (m + 1)
      generalize hB : (madeCells #[.int .u8 0] (m + 1)) = B0 at hmk HO
      clear hB
      go_wp2_with fail
      clear hb hix hAm hwr hmk
      subst hA'
      go_loopw [11] (fun j wr => ∃ k : Nat, ∃ B : Array Value, k ≤ m + 1 ∧ j = .int .i64 k ∧ Outs N (m + 1) k B ∧ wr = (w.alloc (.cells (A.setIfInBounds m (.int .u8 (48 + (u : Int) % 10))) 46)).alloc (.cells B 5)) (fun j _ => 20 - (intOf j).toNat)
      case atStart => exact ⟨0, B0, by omega, rfl, HO, rfl⟩
      case round =>
        obtain ⟨k, B, hk, rfl, hB, rfl⟩ := hrel
        generalize A.setIfInBounds m (.int .u8 (48 + (u : Int) % 10)) = A' at hA2
        have hBs := hB.size
        have hAs' := hA2.size
        by_cases hkm : k < m + 1
        · have hBk := hB.rest k (Nat.le_refl _) hkm
          have hAk := hA2.done (m - k) (by omega)
          have hB2 := hB.step hkm
          have e : m + 1 - 1 - k = m - k := by omega
          rw [e] at hB2
          generalize ((48 + N / 10 ^ (m - k) % 10 : Nat) : Int) = v at hAk hB2
          go_wp2_with fail
          go_roundw
          case rel => exact ⟨k + 1, _, by omega, by go_num, hB2, rfl⟩
          case measure => simp [intOf]; omega
        · obtain rfl : k = m + 1 := by omega
          have hcv := conv_at N (m + 1) A' B hB w
          go_wp2_with fail
          go_ret
          exact ⟨rfl, ((Grown.refl w).alloc _ _).alloc _ _⟩
end Go.Proofs.Yoecmw
