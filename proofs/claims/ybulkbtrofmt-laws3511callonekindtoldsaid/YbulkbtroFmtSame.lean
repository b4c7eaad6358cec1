/-
  marginwise.zzs3511callsame, walked: it says whether all kinds are one.
-/
import Derived.Test.YbulkbtroFmtCheck
import Derived.OwnWalk
import Derived.Deep.LoopGhost
import Derived.RegionTactic
import Derived.Deep.QuietTactic
import Derived.BigQuiet
namespace Go.Proofs.YbulkbtroFmt
open Go.RowKit

/-- A slice of bytes that came in: its first n elements are f 0 .. f (n - 1). -/
def U8At (w : World) (a : Option Addr) (n : Nat) (f : Nat → Int) : Prop := ∀ i, i < n → ∃ b o, a = some ⟨b, o, none⟩ ∧ w.cell? ⟨b, o + i, none⟩ = some (.int .u8 (f i)) ∧ 0 ≤ f i ∧ f i ≤ 255
theorem U8At.later {w w' : World} {a : Option Addr} {n : Nat} {f : Nat → Int} (h : U8At w a n f) (hb : Below w.heap.size w w') : U8At w' a n f := by
  intro i hi
  obtain ⟨b, o, e, h1, h2⟩ := h i hi
  exact ⟨b, o, e, (hb.cell (block_lt h1)).trans h1, h2⟩

/-- The kinds: of the positions, then of the orders. -/
def kk (f g : Nat → Int) (n : Nat) (i : Nat) : Int := if i < n then f i % 3 - 1 else g (i - n) % 3 - 1
theorem kk_pos {f g : Nat → Int} {n i : Nat} (h : i < n) : kk f g n i = f i % 3 - 1 := if_pos h
theorem kk_ord {f g : Nat → Int} {n : Nat} (j : Nat) : kk f g n (n + j) = g j % 3 - 1 := by unfold kk; rw [if_neg (by omega), Nat.add_sub_cancel_left]

theorem info32 : (Ybaf.prog.info? 32).map (fun i => (i.zero, i.size, i.bytes)) = some (some (.int .i64 0), 1, 8) := by kernel_rfl

/-- The first k kinds as cells. -/
def kcells (K : Nat → Int) (k : Nat) : List Value := (List.range k).map fun j => Value.int .i64 (K j)
theorem kcells_succ (K : Nat → Int) (k : Nat) : kcells K (k + 1) = kcells K k ++ [Value.int .i64 (K k)] := by simp [kcells, List.range_succ]
theorem kcells_at (K : Nat → Int) (k j : Nat) (h : j < k) : (kcells K k)[j]? = some (Value.int .i64 (K j)) := by simp [kcells, h]

theorem owns_cell {w : World} {base b n cap : Nat} {xs : List Value} (h : w.ownsRow base 32 1 (.slice (some ⟨b, 0, none⟩) n cap) n xs) (j : Nat) (u : Value) (hj : xs[j]? = some u) : w.cell? ⟨b, j, none⟩ = some u := by
  have := h.cells (g := b) rfl j u hj
  rwa [Addr.add_lit, Nat.zero_add] at this

set_option maxHeartbeats 2000000 in
set_option maxRecDepth 100000 in
theorem allsame_any (n m pc oc : Nat) (pa oa : Option Addr) (f g : Nat → Int) (w : World) (hp : U8At w pa n f) (ho : U8At w oa m g) (hn : n ≤ 1024) (hm : m ≤ 1024) :
    Calls Ybaf.prog 5 #[.slice pa n pc, .slice oa m oc] w fun e w' => e = .returned (.bool (sameB (kk f g n) (n + m))) ∧ Below w.heap.size w w' := by
  have HP : Hid (U8At w pa n f) := hp
  have HO : Hid (U8At w oa m g) := ho
  clear hp ho
  obtain ⟨i0, hi, hz0, hz1, hz2⟩ := info_parts info32
  obtain ⟨K, hK⟩ : ∃ K, K = kk f g n := ⟨_, rfl⟩
  rw [← hK]
  have HK : Hid (K = kk f g n) := hK
  clear hK
  go_enter Ybaf.func5, Ybaf.ntmps5
  go_wp2
  go_loopw [5, 6] (fun v i wr => ∃ k : Nat, k ≤ n ∧ i = .int .i64 k ∧ wr.ownsRow w.heap.size 32 1 v k (kcells K k) ∧ Below w.heap.size w wr) (fun _ i _ => n - (intOf i).toNat)
  case atStart => exact ⟨0, Nat.zero_le _, rfl, World.ownsRow_nil _ _ _ _, Below.refl _ _⟩
  case round =>
    obtain ⟨k, hk, rfl, hown, hbel⟩ := hrel
    by_cases hlt : k < n
    · obtain ⟨b, o, rfl, hcell, hf0, hf1⟩ := HP.out.later hbel k hlt
      have HKk : Hid (K k = f k % 3 - 1) := by rw [HK.out]; exact kk_pos hlt
      obtain ⟨d, hd⟩ : ∃ d, f k = d := ⟨_, rfl⟩
      rw [hd] at hcell hf0 hf1 HKk
      clear hd
      go_wp2_with (at_builtin; refine wpList_append_own _ rfl _ _ 55 rfl w.heap.size 32 i0 (.int .i64 0) 1 8 Ybaf.underlying55 hi hz0 hz1 hz2 rfl (by decide) _ _ _ rfl (hown.alloc _) ⟨wr.heap.size, 0, none⟩ 1 1 [Value.int .i64 (d % 3 - 1)] rfl rfl ?c1 ?c2 ?c3 ?c4 ?c5 ?_)
      case c1 =>
        intro j u hj
        match j, hj with
        | 0, hj => simp at hj; subst hj; simp [Addr.add]
      case c2 => intro u hu; simp at hu; subst hu; rfl
      case c3 => unfold maxLen; omega
      case c4 => omega
      case c5 => have := hbel.size; simp; omega
      intro v' w1 hown1 hgrow1 _
      have hbel1 : Below w.heap.size w w1 := (hbel.alloc hbel.size _).grown hgrow1 (by have := hbel.size; simp; omega) (fun j hj => (hown.lt j hj).1)
      go_wp2
      go_roundw
      case rel =>
        have ho : w1.ownsRow w.heap.size 32 1 v' (k + 1) (kcells K (k + 1)) := by rw [kcells_succ, HKk.out]; exact hown1
        first | exact ⟨k + 1, by omega, by go_num, ho, hbel1⟩ | ((repeat apply Exists.intro); refine ⟨?_, rfl⟩; exact ⟨k + 1, by omega, by go_num, ho, hbel1⟩)
      case measure => simp [intOf]; omega
    · obtain rfl : k = n := by omega
      go_wp2
      go_loopw [5, 7] (fun v i wr => ∃ j : Nat, j ≤ m ∧ i = .int .i64 j ∧ wr.ownsRow w.heap.size 32 1 v (k + j) (kcells K (k + j)) ∧ Below w.heap.size w wr) (fun _ i _ => m - (intOf i).toNat)
      case atStart => exact ⟨0, Nat.zero_le _, rfl, hown, hbel⟩
      case round =>
        clear hown hbel
        obtain ⟨j, hj, rfl, hown, hbel⟩ := hrel
        by_cases hlt2 : j < m
        · obtain ⟨b, o, rfl, hcell, hf0, hf1⟩ := HO.out.later hbel j hlt2
          have HKk : Hid (K (k + j) = g j % 3 - 1) := by rw [HK.out]; exact kk_ord j
          obtain ⟨d, hd⟩ : ∃ d, g j = d := ⟨_, rfl⟩
          rw [hd] at hcell hf0 hf1 HKk
          clear hd
          go_wp2_with (at_builtin; refine wpList_append_own _ rfl _ _ 55 rfl w.heap.size 32 i0 (.int .i64 0) 1 8 Ybaf.underlying55 hi hz0 hz1 hz2 rfl (by decide) _ _ _ rfl (hown.alloc _) ⟨wr.heap.size, 0, none⟩ 1 1 [Value.int .i64 (d % 3 - 1)] rfl rfl ?c1 ?c2 ?c3 ?c4 ?c5 ?_)
          case c1 =>
            intro j u hj
            match j, hj with
            | 0, hj => simp at hj; subst hj; simp [Addr.add]
          case c2 => intro u hu; simp at hu; subst hu; rfl
          case c3 => unfold maxLen; omega
          case c4 => omega
          case c5 => have := hbel.size; simp; omega
          intro v' w1 hown1 hgrow1 _
          have hbel1 : Below w.heap.size w w1 := (hbel.alloc hbel.size _).grown hgrow1 (by have := hbel.size; simp; omega) (fun j hj => (hown.lt j hj).1)
          go_wp2
          go_roundw
          case rel =>
            have ho : w1.ownsRow w.heap.size 32 1 v' (k + (j + 1)) (kcells K (k + (j + 1))) := by rw [← Nat.add_assoc, kcells_succ, HKk.out]; exact hown1
            first | exact ⟨j + 1, by omega, by go_num, ho, hbel1⟩ | ((repeat apply Exists.intro); refine ⟨?_, rfl⟩; exact ⟨j + 1, by omega, by go_num, ho, hbel1⟩)
          case measure => simp [intOf]; omega
        · obtain rfl : j = m := by omega
          rcases hown.2 with ⟨hv, h0⟩ | ⟨gb, cap, cur, hv, _⟩
          · subst hv
            have H0 : Hid (k + j = 0) := h0
            clear h0
            go_wp2
            go_loop [8] (fun t => t = .int .i64 1) (fun _ => 0)
            case atStart => rfl
            case round =>
              obtain rfl := hrel
              go_wp2
              go_ret
              refine ⟨?_, hbel⟩
              rw [sameB_yes (K := K) (N := k + j) (fun l hl => absurd hl (by have := H0.out; omega))]
              rfl
          · subst hv
            have HC : Hid (∀ l, l < k + j → wr.cell? ⟨gb, l, none⟩ = some (.int .i64 (K l))) := fun l hl => owns_cell hown l _ (kcells_at K (k + j) l hl)
            have HB : Hid (Below w.heap.size w wr) := hbel
            clear hown hbel
            go_wp2
            go_loopw [8] (fun t wq => ∃ i q : Nat, t = .int .i64 i ∧ 1 ≤ i ∧ i ≤ k + j + 1 ∧ wq = wr.drewN q ∧ Hid (∀ l, l < i → K l = K 0)) (fun t _ => k + j + 1 - (intOf t).toNat)
            case atStart => exact ⟨1, 0, rfl, Nat.le_refl _, by omega, rfl, fun l hl => by rw [show l = 0 by omega]⟩
            case round =>
              obtain ⟨i, q, rfl, hi1, hi2, rfl, HI⟩ := hrel
              by_cases hlt3 : i < k + j
              · have g1 := HC.out i hlt3
                have g2 := HC.out 0 (by omega)
                have hz1 : (i : Int) < (k : Int) + (j : Int) := by omega
                have hz2 : (0 : Int) < (k : Int) + (j : Int) := by omega
                by_cases hKe : K i = K 0
                · have HKe : Hid (K i = K 0) := hKe
                  have hKb : (K i != K 0) = false := by simp [hKe]
                  clear hKe
                  go_wp2_with fail
                  go_region
                  go_wp2
                  go_roundw
                  case rel =>
                    refine ⟨i + 1, q + 1, by go_num, by omega, by omega, rfl, (show Hid _ from fun l hl => ?_)⟩
                    by_cases e : l = i
                    · rw [e]; exact HKe.out
                    · exact HI.out l (by omega)
                  case measure => simp [intOf]; omega
                · have HKe : Hid (¬ K i = K 0) := hKe
                  have hKb : (K i != K 0) = true := by simp [hKe]
                  clear hKe
                  go_wp2_with fail
                  go_region
                  go_wp2
                  go_ret
                  refine ⟨?_, HB.out.trans ⟨rfl, rfl, rfl, Nat.le_refl _, fun _ _ => rfl⟩⟩
                  rw [sameB_no (K := K) hlt3 HKe.out]
                  rfl
              · go_wp2
                go_ret
                refine ⟨?_, HB.out.trans ⟨rfl, rfl, rfl, Nat.le_refl _, fun _ _ => rfl⟩⟩
                rw [sameB_yes (K := K) (N := k + j) (fun l hl => HI.out l (by omega))]
                rfl

end Go.Proofs.YbulkbtroFmt
