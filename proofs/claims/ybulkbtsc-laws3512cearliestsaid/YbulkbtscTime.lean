/-
  package time ON TIMES OF WHOLE SECONDS BEHIND THE ZERO TIME (wall 0, ext n, loc nil): IsZero, Before, Equal, Add, and the law's own zzs3512ct: each walked over the library's own text.
-/
import Derived.Test.YbulkbtscProg
import Derived.WalkKit
namespace Go.Proofs.Ybulkbtsc
open Go.RowKit

theorem and_zero_u64 (x : Int) : bits BinOp.and IntKind.u64 0 x = 0 := by simp [bits, IntKind.wrap_u64]
theorem andNot_zero_u64 (x : Int) : bits BinOp.andNot IntKind.u64 0 x = 0 := by simp [bits, IntKind.wrap_u64]
theorem or_zero_u64 : bits BinOp.or IntKind.u64 0 0 = 0 := by simp [bits, IntKind.wrap_u64]
attribute [local go_sem] and_zero_u64 andNot_zero_u64 or_zero_u64

set_option maxHeartbeats 400000 in
theorem sec_any (b : Nat) (n : Int) (w : World) (c0 : w.cell? ⟨b, 0, none⟩ = some (.int .u64 0)) (c1 : w.cell? ⟨b, 1, none⟩ = some (.int .i64 n)) :
    Calls Yba.prog 17 #[.pointer (some ⟨b, 0, none⟩)] w fun e w' => e = .returned (.int .i64 n) ∧ w' = w := by
  go_enter Yba.func17, Yba.ntmps17
  go_wp2
  go_ret
  exact ⟨rfl, rfl⟩

set_option maxHeartbeats 400000 in
theorem nsec_any (b : Nat) (w : World) (c0 : w.cell? ⟨b, 0, none⟩ = some (.int .u64 0)) :
    Calls Yba.prog 18 #[.pointer (some ⟨b, 0, none⟩)] w fun e w' => e = .returned (.int .i32 0) ∧ w' = w := by
  go_enter Yba.func18, Yba.ntmps18
  go_wp2
  go_ret
  exact ⟨rfl, rfl⟩

set_option maxHeartbeats 400000 in
theorem addSec_any (b : Nat) (n d : Int) (w : World) (c0 : w.cell? ⟨b, 0, none⟩ = some (.int .u64 0)) (c1 : w.cell? ⟨b, 1, none⟩ = some (.int .i64 n)) (f1 : w.frozen? ⟨b, 1, none⟩ = false)
    (hn : -4611686018427387904 < n) (hn2 : n < 4611686018427387904) (hd : -4611686018427387904 < d) (hd2 : d < 4611686018427387904) :
    Calls Yba.prog 20 #[.pointer (some ⟨b, 0, none⟩), .int .i64 d] w fun e w' => e = .returned (.tuple #[]) ∧ w' = w.setCell ⟨b, 1, none⟩ (.int .i64 (n + d)) := by
  by_cases hp : 0 < d
  · have h1 : n < n + d := by omega
    go_enter Yba.func20, Yba.ntmps20
    go_wp2
    go_end0
    exact ⟨rfl, rfl⟩
  · have h1 : ¬ n < n + d := by omega
    go_enter Yba.func20, Yba.ntmps20
    go_wp2
    go_end0
    exact ⟨rfl, rfl⟩

set_option maxHeartbeats 400000 in
theorem isZero_any (n : Int) (w : World) : Calls Yba.prog 7 #[.agg #[.int .u64 0, .int .i64 n, .pointer none]] w fun e w' => e = .returned (.bool (n == 0)) ∧ Below w.heap.size w w' := by
  go_enter Yba.func7, Yba.ntmps7
  go_wp2
  go_ret
  exact ⟨rfl, (Below.refl _ _).alloc (Nat.le_refl _) _⟩

set_option maxHeartbeats 400000 in
theorem before_any (a b : Int) (w : World) : Calls Yba.prog 11 #[.agg #[.int .u64 0, .int .i64 a, .pointer none], .agg #[.int .u64 0, .int .i64 b, .pointer none]] w fun e w' => e = .returned (.bool (decide (a < b))) ∧ Below w.heap.size w w' := by
  by_cases h : a < b
  · go_enter Yba.func11, Yba.ntmps11
    go_wp2
    go_ret
    refine ⟨?_, ((Below.refl _ _).alloc (Nat.le_refl _) _).alloc (by simp) _⟩
    rw [decide_eq_true h]
    rfl
  · have hf : decide (a < b) = false := decide_eq_false h
    by_cases h2 : a = b
    · subst h2
      go_enter Yba.func11, Yba.ntmps11
      go_wp2
      go_ret
      exact ⟨rfl, ((Below.refl _ _).alloc (Nat.le_refl _) _).alloc (by simp) _⟩
    · rw [hf]
      have h2' : (a == b) = false := by simpa using h2
      go_enter Yba.func11, Yba.ntmps11
      go_wp2
      go_ret
      exact ⟨rfl, ((Below.refl _ _).alloc (Nat.le_refl _) _).alloc (by simp) _⟩

set_option maxHeartbeats 400000 in
theorem equal_same (a : Int) (w : World) : Calls Yba.prog 8 #[.agg #[.int .u64 0, .int .i64 a, .pointer none], .agg #[.int .u64 0, .int .i64 a, .pointer none]] w fun e w' => e = .returned (.bool true) ∧ Below w.heap.size w w' := by
  go_enter Yba.func8, Yba.ntmps8
  go_wp2
  go_ret
  exact ⟨rfl, ((Below.refl _ _).alloc (Nat.le_refl _) _).alloc (by simp) _⟩

set_option maxHeartbeats 1000000 in
theorem add_any (a d k : Int) (w : World) (hq : d.tdiv 1000000000 = k) (hr : d.tmod 1000000000 = 0) (hk : -4611686018427387904 < k) (hk2 : k < 4611686018427387904) (ha : -4611686018427387904 < a) (ha2 : a < 4611686018427387904) :
    Calls Yba.prog 14 #[.agg #[.int .u64 0, .int .i64 a, .pointer none], .int .i64 d] w fun e w' => e = .returned (.agg #[.int .u64 0, .int .i64 (a + k), .pointer none]) ∧ Below w.heap.size w w' := by
  go_enter Yba.func14, Yba.ntmps14
  go_wp2_with (first | (go_at_call 18; refine (nsec_any _ _ ?_).mono ?_; go_simp; rintro e w' ⟨rfl, rfl⟩))
  refine (addSec_any w.heap.size a k _ (by simp) (by simp) (by simp) ha ha2 hk hk2).mono ?_
  rintro e w' ⟨rfl, rfl⟩
  go_wp2
  refine bodyPost_ret (v := .agg #[.int .u64 0, .int .i64 (a + k), .pointer none]) (by simp [results, Yba.results14, go_sem]) rfl ⟨rfl, ?_⟩
  exact ((Below.refl _ _).alloc (Nat.le_refl _) _).alloc (by simp) _

set_option maxHeartbeats 1000000 in
/-- 'zzs3512ct(n)': the time n seconds behind the zero time. -/
theorem ct_any (n : Int) (w : World) (h1 : -4294967296 ≤ n) (h2 : n ≤ 4294967296) :
    Calls Yba.prog 9 #[.int .i64 n] w fun e w' => e = .returned (.agg #[.int .u64 0, .int .i64 n, .pointer none]) ∧ Below w.heap.size w w' := by
  have hq : (n * 1000000000).tdiv 1000000000 = n := Int.mul_tdiv_cancel n (by decide)
  have hr : (n * 1000000000).tmod 1000000000 = 0 := Int.mul_tmod_left n 1000000000
  obtain ⟨d, hd⟩ : ∃ d, n * 1000000000 = d := ⟨_, rfl⟩
  rw [hd] at hq hr
  have hd1 : -4294967296000000000 ≤ d := by omega
  have hd2 : d ≤ 4294967296000000000 := by omega
  have hadd : ∀ w, Calls Yba.prog 14 #[.agg #[.int .u64 0, .int .i64 0, .pointer none], .int .i64 d] w fun e w' => e = .returned (.agg #[.int .u64 0, .int .i64 n, .pointer none]) ∧ Below w.heap.size w w' := fun w => by
    have h := add_any 0 d n w hq hr (by omega) (by omega) (by omega) (by omega)
    rwa [Int.zero_add] at h
  clear hq hr
  go_enter Yba.func9, Yba.ntmps9
  go_wp2_with fail
  refine (hadd _).mono ?_
  rintro e w1 ⟨rfl, hb⟩
  clear hadd hd
  have hz : w.heap.size < w1.heap.size := by have := hb.size; simp at this; omega
  have hc0 : w1.cell? ⟨w.heap.size, 0, none⟩ = some (.int .u64 0) := (hb.cell (p := ⟨w.heap.size, 0, none⟩) (by simp)).trans (by simp)
  have hc1 : w1.cell? ⟨w.heap.size, 1, none⟩ = some (.int .i64 0) := (hb.cell (p := ⟨w.heap.size, 1, none⟩) (by simp)).trans (by simp)
  have hc2 : w1.cell? ⟨w.heap.size, 2, none⟩ = some (.pointer none) := (hb.cell (p := ⟨w.heap.size, 2, none⟩) (by simp)).trans (by simp)
  have hf0 : w1.frozen? ⟨w.heap.size, 0, none⟩ = false := (hb.frozen (p := ⟨w.heap.size, 0, none⟩) (by simp)).trans (by simp)
  have hf1 : w1.frozen? ⟨w.heap.size, 1, none⟩ = false := (hb.frozen (p := ⟨w.heap.size, 1, none⟩) (by simp)).trans (by simp)
  have hf2 : w1.frozen? ⟨w.heap.size, 2, none⟩ = false := (hb.frozen (p := ⟨w.heap.size, 2, none⟩) (by simp)).trans (by simp)
  go_wp2
  refine bodyPost_ret (v := .agg #[.int .u64 0, .int .i64 n, .pointer none]) (by simp [results, Yba.results9, go_sem, hc0, hc1, hc2]) rfl ⟨rfl, ?_⟩
  exact (((((Below.refl _ _).alloc (Nat.le_refl _) _).trans (hb.mono (by simp))).setCell (Nat.le_refl _) _).setCell (Nat.le_refl _) _).setCell (Nat.le_refl _) _

end Go.Proofs.Ybulkbtsc
