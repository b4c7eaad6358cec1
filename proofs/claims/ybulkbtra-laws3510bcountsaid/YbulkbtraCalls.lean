/-
  THE LAW's CALLEES BUT THE SORT, each walked over this seat's program: (*messageCache).end (at an end that is already read), firstAt, slices.Clone and slices.Equal at []uint32.
-/
import Derived.Test.YbulkbtraProg
import Derived.WalkKit
import Derived.OwnWalk
import Derived.Deep.LoopGhost
import Derived.Deep.QuietTactic
import Derived.BigQuiet
import Derived.RegionTactic
import Derived.Lib.Walk
import Derived.Lib.SliceRun
namespace Go.Proofs.Ybulkbtra
open Go.RowKit

theorem info24 : (Yba.prog.info? 24).map (fun i => (i.zero, i.size, i.bytes)) = some (some (.int .u32 0), 1, 4) := by kernel_rfl

set_option maxHeartbeats 400000 in
/-- 'mc.end(n)', n below 'len(mc.ends)': it reads 'mc.ends[n]'. -/
theorem end_any (mb eb en ec n : Nat) (x : Int) (w : World) (hn : n < en) (he : en ≤ 1024) (hmc : w.cell? ⟨mb, 2, none⟩ = some (.slice (some ⟨eb, 0, none⟩) en ec)) (hx : w.cell? ⟨eb, n, none⟩ = some (.int .u32 x)) :
    Calls Yba.prog 10 #[.pointer (some ⟨mb, 0, none⟩), .int .u32 (n : Int)] w fun e w' => e = .returned (.int .u32 x) ∧ w' = w := by
  go_enter Yba.func10, Yba.ntmps10
  go_wp2
  go_ret
  exact ⟨rfl, rfl⟩

set_option maxHeartbeats 1000000 in
/-- 'mc.firstAt(inFlight, e)' where every end that it asks for is read already and the ends of inFlight do not fall: the number m of those below e. -/
theorem firstAt_any (mb eb en ec fb fn fc : Nat) (g : Nat → Nat) (E : Nat → Int) (x : Int) (w : World) (he : en ≤ 1024) (hfn : fn ≤ 1024)
    (hmc : w.cell? ⟨mb, 2, none⟩ = some (.slice (some ⟨eb, 0, none⟩) en ec)) (hE : ∀ j, j < en → w.cell? ⟨eb, j, none⟩ = some (.int .u32 (E j)))
    (hF : ∀ i, i < fn → w.cell? ⟨fb, i, none⟩ = some (.int .u32 (g i : Nat))) (hg : ∀ i, i < fn → g i < en) (hmono : ∀ i j, i ≤ j → j < fn → E (g i) ≤ E (g j)) :
    Calls Yba.prog 6 #[.pointer (some ⟨mb, 0, none⟩), .slice (some ⟨fb, 0, none⟩) fn fc, .int .u32 x] w fun e w' =>
      ∃ m : Nat, e = .returned (.int .i64 m) ∧ m ≤ fn ∧ (∀ i, i < m → E (g i) < x) ∧ (∀ i, m ≤ i → i < fn → x ≤ E (g i)) ∧ w' = w := by
  have HE : Hid (∀ j, j < en → w.cell? ⟨eb, j, none⟩ = some (.int .u32 (E j))) := hE
  have HF : Hid (∀ i, i < fn → w.cell? ⟨fb, i, none⟩ = some (.int .u32 (g i : Nat))) := hF
  have HM : Hid (∀ i j, i ≤ j → j < fn → E (g i) ≤ E (g j)) := hmono
  have HG : Hid (∀ i, i < fn → g i < en) := hg
  clear hE hF hmono hg
  go_enter Yba.func6, Yba.ntmps6
  go_wp2
  go_loop [7, 8] (fun sl sh => ∃ lo hi : Nat, sl = .int .i64 lo ∧ sh = .int .i64 hi ∧ lo ≤ hi ∧ hi ≤ fn ∧ Hid (∀ i, i < lo → E (g i) < x) ∧ Hid (∀ i, hi ≤ i → i < fn → x ≤ E (g i))) (fun sl sh => (intOf sh).toNat - (intOf sl).toNat)
  case atStart => exact ⟨0, fn, rfl, rfl, Nat.zero_le _, Nat.le_refl _, fun i hi => absurd hi (Nat.not_lt_zero _), fun i h1 h2 => absurd h2 (by omega)⟩
  case round =>
    obtain ⟨lo, hi, rfl, rfl, hlh, hhf, H1, H2⟩ := hrel
    by_cases hlt : lo < hi
    · obtain ⟨m, hm⟩ : ∃ m : Nat, m = (lo + hi) / 2 := ⟨_, rfl⟩
      have hm1 : lo ≤ m := by omega
      have hm2 : m < hi := by omega
      have em : ((lo : Int) + (hi : Int)) / 2 = (m : Int) := by omega
      clear hm
      have hgm : g m < en := HG.out m (by omega)
      have cF : w.cell? ⟨fb, m, none⟩ = some (.int .u32 (g m : Nat)) := HF.out m (by omega)
      have hc := end_any mb eb en ec (g m) (E (g m)) w hgm he hmc (HE.out _ hgm)
      have hmf : m < fn := by omega
      by_cases hx : E (g m) < x
      · go_wp2_with (go_at_call 10; refine hc.mono ?_; rintro e w' ⟨rfl, rfl⟩)
        go_round
        case rel => exact ⟨m + 1, hi, by go_num, rfl, by omega, by omega, (fun i hi' => Int.lt_of_le_of_lt (HM.out i m (by omega) hmf) hx), H2⟩
        case measure => simp [intOf]; omega
      · go_wp2_with (go_at_call 10; refine hc.mono ?_; rintro e w' ⟨rfl, rfl⟩)
        go_round
        case rel => exact ⟨lo, m, rfl, rfl, by omega, by omega, H1, (fun i h1 h2 => Int.le_trans (by omega) (HM.out m i h1 h2))⟩
        case measure => simp [intOf]; omega
    · obtain rfl : lo = hi := by omega
      go_wp2
      go_ret
      exact ⟨lo, rfl, hhf, H1.out, H2.out, rfl⟩

set_option maxHeartbeats 1000000 in
set_option maxRecDepth 100000 in
/-- slices.Clone of a slice that is not nil: the same cells in memory of the call's own. -/
theorem clone_any (b n c : Nat) (news : List Value) (w : World) (hl : news.length = n) (hn : n ≤ 1024)
    (hc : ∀ j u, news[j]? = some u → w.cell? ⟨b, j, none⟩ = some u) (h1 : ∀ u ∈ news, u.oneCell' = true) :
    Calls Yba.prog 5 #[.slice (some ⟨b, 0, none⟩) n c] w fun e w' => ∃ v', e = .returned v' ∧ w'.ownsRow w.heap.size 24 1 v' n news ∧ Below w.heap.size w w' := by
  obtain ⟨i0, hi, hz0, hz1, hz2⟩ := info_parts info24
  have q25 : ∀ (w : World) (a : Option Addr) (n c n' c' : Nat), (binOp .eql 25 (.slice a n c) (.slice none n' c')).run Yba.prog w = .ok (.bool a.isNone) w := fun w a n c n' c' => Lib.run_eql_slice_nil w _ _ a n c n' c' Yba.underlying25
  have A : Aside (∀ j u, news[j]? = some u → w.cell? ⟨b, j, none⟩ = some u) := hc
  clear hc
  go_enter Yba.func5, Yba.ntmps5
  go_wp2_with (at_builtin; refine wpList_append_own _ rfl _ _ 25 rfl w.heap.size 24 i0 (.int .u32 0) 1 4 Yba.underlying25 hi hz0 hz1 hz2 rfl (by decide) _ _ _ rfl (World.ownsRow_made w #[] 0 (Nat.le_refl _) (Nat.zero_le _) (by simp)) ⟨b, 0, none⟩ n c news rfl ?qc1 ?qc2 ?qc3 ?qc4 ?qc5 ?qc6 ?_)
  case qc1 => rw [hl, Nat.mul_one]
  case qc2 =>
    intro j u hj
    rw [Addr.add_lit, Nat.zero_add]
    exact Lib.cell?_alloc_some _ (A.out j u hj)
  case qc3 => exact h1
  case qc4 => unfold maxLen; omega
  case qc5 => omega
  case qc6 => simp
  intro v' w1 hown hgrow hnil
  go_wp2
  go_ret
  refine ⟨v', rfl, by simpa using hown, ?_⟩
  exact ((Below.refl _ w).alloc (Nat.le_refl _) _).grown hgrow (by simp) (by intro k hk; simp [Value.ownBlock] at hk; omega)

set_option maxHeartbeats 1000000 in
set_option maxRecDepth 100000 in
/-- slices.Equal at two rows of one length that hold the same numbers: true. -/
theorem equal_any (b1 c b2 d n : Nat) (hn : n ≤ 1024) (g : Nat → Int) (w : World) (hc1 : ∀ j, j < n → w.cell? ⟨b1, j, none⟩ = some (.int .u32 (g j))) (hc2 : ∀ j, j < n → w.cell? ⟨b2, j, none⟩ = some (.int .u32 (g j))) :
    Calls Yba.prog 7 #[.slice (some ⟨b1, 0, none⟩) n c, .slice (some ⟨b2, 0, none⟩) n d] w fun e w' => e = .returned (.bool true) ∧ ∃ q, w' = w.drewN q := by
  go_enter Yba.func7, Yba.ntmps7
  go_wp2
  go_loopg [13] n (fun gg s13 wr => ∃ k q : Nat, k ≤ n ∧ n - k ≤ gg ∧ s13 = .int .i64 k ∧ wr = w.drewN q)
  case atStart => exact ⟨0, 0, Nat.zero_le _, by omega, rfl, rfl⟩
  case round =>
    obtain ⟨k, q, hk, hgg, rfl, rfl⟩ := hrel
    by_cases hlt : k < n
    · have g1 : w.cell? ⟨b1, k, none⟩ = some (.int .u32 (g k)) := hc1 k (by omega)
      have g2 : w.cell? ⟨b2, k, none⟩ = some (.int .u32 (g k)) := hc2 k (by omega)
      clear hc1 hc2
      go_wp2_with fail
      go_region
      go_wp2
      go_roundg (n - (k + 1))
      case measure => omega
      case rel => exact ⟨k + 1, q + 1, by omega, by omega, by go_num, rfl⟩
    · clear hc1 hc2
      go_wp2
      go_ret
      exact ⟨rfl, q, rfl⟩

set_option maxHeartbeats 1000000 in
/-- .. and at two slices without elements, nil or not. -/
theorem equal_none (a1 a2 : Option Addr) (c d : Nat) (w : World) :
    Calls Yba.prog 7 #[.slice a1 0 c, .slice a2 0 d] w fun e w' => e = .returned (.bool true) ∧ ∃ q, w' = w.drewN q := by
  go_enter Yba.func7, Yba.ntmps7
  go_wp2
  go_loop [13] (fun s13 => s13 = .int .i64 0) (fun _ => 0)
  case atStart => rfl
  case round =>
    obtain rfl := hrel
    go_wp2
    go_ret
    exact ⟨rfl, 0, rfl⟩

end Go.Proofs.Ybulkbtra
