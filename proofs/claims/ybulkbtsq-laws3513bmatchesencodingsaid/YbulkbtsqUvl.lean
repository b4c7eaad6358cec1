/-
  granary.uvarintLen: WHAT IT COMPUTES ('uvl', plain), and the walk of its own Go text.
-/
import Derived.Test.YbulkbtsqProg
import Derived.WalkKit
namespace Go.Proofs.Ybulkbtsq
open Go.RowKit

/-- How many groups of seven bits a number that is not negative takes (1 for the negative ones). -/
def uvl (x : Int) : Int :=
  if x < 128 then 1 else if x < 16384 then 2 else if x < 2097152 then 3 else if x < 268435456 then 4 else if x < 34359738368 then 5
  else if x < 4398046511104 then 6 else if x < 562949953421312 then 7 else if x < 72057594037927936 then 8 else 9

theorem uvl_small {x : Int} (h : x < 128) : uvl x = 1 := if_pos h
theorem uvl_step {x : Int} (h : 128 ≤ x) (h2 : x ≤ 9223372036854775807) : uvl x = uvl (x / 128) + 1 := by
  unfold uvl
  rw [if_neg (show ¬ x < 128 by omega)]
  by_cases h16384 : x < 16384
  · rw [if_pos h16384, if_pos (show x / 128 < 128 by omega)]; rfl
  rw [if_neg h16384, if_neg (show ¬ x / 128 < 128 by omega)]
  by_cases h2097152 : x < 2097152
  · rw [if_pos h2097152, if_pos (show x / 128 < 16384 by omega)]; rfl
  rw [if_neg h2097152, if_neg (show ¬ x / 128 < 16384 by omega)]
  by_cases h268435456 : x < 268435456
  · rw [if_pos h268435456, if_pos (show x / 128 < 2097152 by omega)]; rfl
  rw [if_neg h268435456, if_neg (show ¬ x / 128 < 2097152 by omega)]
  by_cases h34359738368 : x < 34359738368
  · rw [if_pos h34359738368, if_pos (show x / 128 < 268435456 by omega)]; rfl
  rw [if_neg h34359738368, if_neg (show ¬ x / 128 < 268435456 by omega)]
  by_cases h4398046511104 : x < 4398046511104
  · rw [if_pos h4398046511104, if_pos (show x / 128 < 34359738368 by omega)]; rfl
  rw [if_neg h4398046511104, if_neg (show ¬ x / 128 < 34359738368 by omega)]
  by_cases h562949953421312 : x < 562949953421312
  · rw [if_pos h562949953421312, if_pos (show x / 128 < 4398046511104 by omega)]; rfl
  rw [if_neg h562949953421312, if_neg (show ¬ x / 128 < 4398046511104 by omega)]
  by_cases h72057594037927936 : x < 72057594037927936
  · rw [if_pos h72057594037927936, if_pos (show x / 128 < 562949953421312 by omega)]; rfl
  rw [if_neg h72057594037927936, if_neg (show ¬ x / 128 < 562949953421312 by omega)]
  rw [if_pos (show x / 128 < 72057594037927936 by omega)]; rfl
theorem uvl_bd (x : Int) : 1 ≤ uvl x ∧ uvl x ≤ 9 := by
  unfold uvl
  repeat' split
  all_goals omega

set_option maxHeartbeats 400000 in
theorem uvarintLen_any (a : Int) (w : World) (h : a ≤ 9223372036854775807) :
    Calls Yba.prog 7 #[.int .i64 a] w fun e w' => e = .returned (.int .i64 (uvl a)) ∧ w' = w := by
  go_enter Yba.func7, Yba.ntmps7
  go_wp2
  go_loop [0, 3] (fun t n => ∃ x m : Int, t = .int .i64 x ∧ n = .int .i64 m ∧ x ≤ 9223372036854775807 ∧ 1 ≤ m ∧ m ≤ 9 ∧ m - 1 + uvl x = uvl a) (fun t _ => (intOf t).toNat)
  case atStart => exact ⟨a, 1, rfl, rfl, h, by omega, by omega, by omega⟩
  case round =>
    obtain ⟨x, m, rfl, rfl, hx, h1, h2, he⟩ := hrel
    have hb := uvl_bd x
    have hba := uvl_bd a
    by_cases hlt : 127 < x
    · have hs := uvl_step (x := x) (by omega) hx
      have HS : Hid (uvl x = uvl (x / 128) + 1) := hs
      have HE : Hid (m - 1 + uvl x = uvl a) := he
      have hm8 : m ≤ 8 := by have := uvl_bd (x / 128); omega
      clear hs he
      go_wp2
      go_round
      case rel => exact ⟨x / 128, m + 1, by go_num, by go_num, by omega, by omega, by omega, by have := HS.out; have := HE.out; omega⟩
      case measure => simp [intOf]; omega
    · have hs := uvl_small (x := x) (by omega)
      have HE : Hid (m = uvl a) := (by omega : m = uvl a)
      clear hs he
      go_wp2
      go_ret
      exact ⟨by rw [HE.out]; rfl, rfl⟩
end Go.Proofs.Ybulkbtsq
