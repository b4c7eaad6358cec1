/-
  THE CLOSURES 'kind' AND 'name' OF (Account).checkOneKind, and PositionNumber, walked.
-/
import Derived.Test.YbulkbtroFmtFmt
import Derived.WalkKit
namespace Go.Proofs.YbulkbtroFmt
open Go.RowKit Go.Extern.Stop Go.Stop Go.Extern
attribute [local go_sem] call8 call11 fguard fmtA fmtAr fmtB fmtBr fmtC fmtCr op9_115w op3_100 ptr59 elem59

set_option maxHeartbeats 400000 in
/-- 'kind(i)', i a place among the positions. -/
theorem kind_pos (i n nb ab pb c : Nat) (x : Int) (w : World) (hi : i < n) (cn : w.cell? ⟨nb, 0, none⟩ = some (.int .i64 (n : Nat))) (cp : w.cell? ⟨ab, 4, none⟩ = some (.slice (some ⟨pb, 0, none⟩) n c))
    (cx : w.cell? ⟨pb, i * 31, none⟩ = some (.int .i64 x)) :
    Calls Ybaf.prog 6 #[.int .i64 i, .pointer (some ⟨nb, 0, none⟩), .pointer (some ⟨ab, 0, none⟩)] w fun e w' => e = .returned (.int .i64 x) ∧ w' = w := by
  go_enter Ybaf.func6, Ybaf.ntmps6
  go_wp2
  go_ret
  exact ⟨rfl, rfl⟩

set_option maxHeartbeats 400000 in
/-- 'kind(i)', i behind the positions: an order's. -/
theorem kind_ord (i n m nb ab ob c : Nat) (x : Int) (w : World) (hi : n ≤ i) (hm : i < n + m) (hb : n + m ≤ 2048) (cn : w.cell? ⟨nb, 0, none⟩ = some (.int .i64 (n : Nat))) (co : w.cell? ⟨ab, 5, none⟩ = some (.slice (some ⟨ob, 0, none⟩) m c))
    (cx : w.cell? ⟨ob, (i - n) * 23, none⟩ = some (.int .i64 x)) :
    Calls Ybaf.prog 6 #[.int .i64 i, .pointer (some ⟨nb, 0, none⟩), .pointer (some ⟨ab, 0, none⟩)] w fun e w' => e = .returned (.int .i64 x) ∧ w' = w := by
  obtain ⟨j, rfl⟩ : ∃ j, i = n + j := ⟨i - n, by omega⟩
  have ej : (((n + j : Nat) : Int) - (n : Int)) = (j : Int) := by omega
  have hj : j < m := by omega
  have hge : ¬ ((n + j : Nat) : Int) < (n : Int) := by omega
  rw [Nat.add_sub_cancel_left] at cx
  generalize ((n + j : Nat) : Int) = I at ej hge ⊢
  have hI : I ≤ 2048 := by omega
  have hI0 : 0 ≤ I := by omega
  have hn0 : n ≤ 2048 := by omega
  go_enter Ybaf.func6, Ybaf.ntmps6
  go_wp2
  go_ret
  exact ⟨rfl, rfl⟩

set_option maxHeartbeats 400000 in
/-- 'a.PositionNumber(i)': some number; a box for the receiver is made. -/
theorem posNum_any (i n pb c : Nat) (x : Int) (c0 c1 c2 c3 c5 : Value) (w : World) (hi : i < n) (hn : n ≤ 1024) (cx : w.cell? ⟨pb, i * 31 + 30, none⟩ = some (.int .i64 x)) :
    Calls Ybaf.prog 9 #[.agg #[c0, c1, c2, c3, .slice (some ⟨pb, 0, none⟩) n c, c5], .int .i64 i] w fun e w' => (∃ y : Int, e = .returned (.int .i64 y)) ∧ Below w.heap.size w w' := by
  have hpb : pb < w.heap.size := by
    unfold World.cell? at cx
    split at cx
    · rename_i c e fr hb
      exact (Array.getElem?_eq_some_iff.1 hb).1
    · simp at cx
  have cx2 : ∀ o, (w.alloc o).cell? ⟨pb, i * 31 + 30, none⟩ = some (.int .i64 x) := fun o => ((Below.refl _ w).alloc (Nat.le_refl _) o).cell (p := ⟨pb, i * 31 + 30, none⟩) hpb |>.trans cx
  clear cx
  by_cases hx : 0 < x
  all_goals
    go_enter Ybaf.func9, Ybaf.ntmps9
    go_wp2
    go_ret
    exact ⟨⟨_, rfl⟩, (Below.refl _ _).alloc (Nat.le_refl _) _⟩

set_option maxHeartbeats 400000 in
/-- 'name(i)', i a place among the positions: some text; nothing old has turned. -/
theorem name_pos (i n nb ab pb c : Nat) (x : Int) (v0 v1 v2 v3 v5 : Value) (w : World) (hi : i < n) (hn : n ≤ 1024) (cn : w.cell? ⟨nb, 0, none⟩ = some (.int .i64 (n : Nat)))
    (a0 : w.cell? ⟨ab, 0, none⟩ = some v0) (a1 : w.cell? ⟨ab, 1, none⟩ = some v1) (a2 : w.cell? ⟨ab, 2, none⟩ = some v2) (a3 : w.cell? ⟨ab, 3, none⟩ = some v3)
    (cp : w.cell? ⟨ab, 4, none⟩ = some (.slice (some ⟨pb, 0, none⟩) n c)) (a5 : w.cell? ⟨ab, 5, none⟩ = some v5) (cx : w.cell? ⟨pb, i * 31 + 30, none⟩ = some (.int .i64 x)) :
    Calls Ybaf.prog 7 #[.int .i64 i, .pointer (some ⟨nb, 0, none⟩), .pointer (some ⟨ab, 0, none⟩)] w fun e w' => (∃ s, e = .returned (.string s)) ∧ Below w.heap.size w w' := by
  have hc := posNum_any i n pb c x v0 v1 v2 v3 v5 w hi hn cx
  clear cx
  go_enter Ybaf.func7, Ybaf.ntmps7
  go_wp2_with (go_at_call 9; refine hc.mono ?_; rintro e w1 ⟨⟨y, rfl⟩, hb⟩)
  go_ret
  exact ⟨⟨_, rfl⟩, (hb.alloc hb.size _).drew⟩

set_option maxHeartbeats 400000 in
/-- 'name(i)', i behind the positions. -/
theorem name_ord (i n nb ab : Nat) (w : World) (hi : n ≤ i) (hm : i ≤ 2048) (cn : w.cell? ⟨nb, 0, none⟩ = some (.int .i64 (n : Nat))) :
    Calls Ybaf.prog 7 #[.int .i64 i, .pointer (some ⟨nb, 0, none⟩), .pointer (some ⟨ab, 0, none⟩)] w fun e w' => (∃ s, e = .returned (.string s)) ∧ Below w.heap.size w w' := by
  go_enter Ybaf.func7, Ybaf.ntmps7
  go_wp2
  go_ret
  exact ⟨⟨_, rfl⟩, ((Below.refl _ _).alloc (Nat.le_refl _) _).drew⟩

end Go.Proofs.YbulkbtroFmt
