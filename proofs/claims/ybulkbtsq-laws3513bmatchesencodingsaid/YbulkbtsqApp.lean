/-
  encoding/binary.AppendUvarint over this seat's program: the library's own text is walked (after the guide's Derived.Shelf.Bin.AppendUvarint): what comes back is a slice that the call owns, longer by 'uvl x' bytes.
-/
import Derived.Test.YbulkbtsqUvl
import Derived.OwnWalk
import Derived.Lib.Varint
namespace Go.Proofs.Ybulkbtsq
open Go.RowKit

theorem info5 : (Yba.prog.info? 5).map (fun i => (i.zero, i.size, i.bytes)) = some (some (.int .u8 0), 1, 1) := by kernel_rfl

set_option maxHeartbeats 1000000 in
set_option maxRecDepth 100000 in
theorem appendUvarint_any (B x : Nat) (hx : x ≤ 9223372036854775807) (sv : Value) (w : World) (hown : w.ownsRow B 5 1 sv 0 []) (hBw : B ≤ w.heap.size) :
    Calls Yba.prog 8 #[sv, .int .u64 x] w fun e w' => ∃ (v' : Value) (n : Nat) (xs : List Value), e = .returned v' ∧ (n : Int) = uvl x ∧ w'.ownsRow B 5 1 v' n xs ∧ Below B w w' := by
  obtain ⟨i0, hi, hz0, hz1, hz2⟩ := info_parts info5
  go_enter Yba.func8, Yba.ntmps8
  go_wp2
  go_loopw [0, 1] (fun vb vx wr => ∃ (y n : Nat) (xs : List Value), vx = .int .u64 y ∧ y ≤ x ∧ (n : Int) + uvl y = uvl x ∧ wr.ownsRow B 5 1 vb n xs ∧ Below B w wr)
    (fun _ vx _ => (intOf vx).toNat)
  case atStart => exact ⟨x, 0, [], rfl, Nat.le_refl _, by omega, hown, Below.refl _ _⟩
  case round =>
    obtain ⟨y, n, xs, rfl, hy, hsp, hown1, hnx⟩ := hrel
    have hbx := uvl_bd x
    have hby := uvl_bd y
    have hn9 : n ≤ 8 := by omega
    have HSP : Hid ((n : Int) + uvl y = uvl x) := hsp
    clear hsp
    by_cases h128 : 128 ≤ y
    · have hst : Hid (uvl y = uvl ((y : Int) / 128) + 1) := uvl_step (by omega) (by omega)
      have hor : bits .or .u8 ((y : Int) % 256) 128 = ((y % 128 + 128 : Nat) : Int) := by
        rw [Lib.u8_or128_any _ (by omega) (by omega)]
        omega
      go_wp2_with (at_builtin; refine wpList_append_own _ rfl _ _ 23 rfl B 5 i0 (.int .u8 0) 1 1 Yba.underlying23 hi hz0 hz1 hz2 rfl (by decide) _ _ _ rfl (hown1.alloc _) ⟨wr.heap.size, 0, none⟩ 1 1 [Value.int .u8 ((y % 128 + 128 : Nat) : Int)] rfl rfl ?c1 ?c2 ?c3 ?c4 ?c5 ?_)
      case c1 =>
        intro j u hj
        match j, hj with
        | 0, hj => simp at hj; subst hj; simp [Addr.add]
      case c2 => intro u hu; simp at hu; subst hu; rfl
      case c3 => unfold maxLen; omega
      case c4 => omega
      case c5 => have := hnx.size; simp; omega
      intro v' w1 hown' hgrow _
      have hnx1 : Below B w w1 := (hnx.alloc (by have := hnx.size; omega) _).grown hgrow (by have := hnx.size; simp; omega) (fun k hk => (hown1.lt k hk).1)
      go_wp2
      go_roundw
      case rel =>
        refine ⟨y / 128, n + 1, _, by go_num, by omega, ?_, hown', hnx1⟩
        have h1 := hst.out
        have h2 := HSP.out
        have e : ((y / 128 : Nat) : Int) = (y : Int) / 128 := by omega
        rw [e]
        omega
      case measure => simp [intOf]; omega
    · have hst : Hid (uvl y = 1) := uvl_small (by omega)
      go_wp2_with (at_builtin; refine wpList_append_own _ rfl _ _ 23 rfl B 5 i0 (.int .u8 0) 1 1 Yba.underlying23 hi hz0 hz1 hz2 rfl (by decide) _ _ _ rfl (hown1.alloc _) ⟨wr.heap.size, 0, none⟩ 1 1 [Value.int .u8 (y : Int)] rfl rfl ?c1 ?c2 ?c3 ?c4 ?c5 ?_)
      case c1 =>
        intro j u hj
        match j, hj with
        | 0, hj => simp at hj; subst hj; simp [Addr.add]
      case c2 => intro u hu; simp at hu; subst hu; rfl
      case c3 => unfold maxLen; omega
      case c4 => omega
      case c5 => have := hnx.size; simp; omega
      intro v' w1 hown' hgrow _
      have hnx1 : Below B w w1 := (hnx.alloc (by have := hnx.size; omega) _).grown hgrow (by have := hnx.size; simp; omega) (fun k hk => (hown1.lt k hk).1)
      go_wp2
      go_ret
      refine ⟨v', n + 1, _, rfl, ?_, hown', hnx1⟩
      have h1 := hst.out
      have h2 := HSP.out
      omega
end Go.Proofs.Ybulkbtsq
