/-
  (Account).checkOneKind, walked: nil just where all kinds are one, else an error.
-/
import Derived.Test.YbulkbtroFmtKind
namespace Go.Proofs.YbulkbtroFmt
open Go.RowKit Go.Extern.Stop Go.Stop Go.Extern

/-- Are the first N all of the kind of the first? -/
def sameB (K : Nat → Int) (N : Nat) : Bool := (List.range N).all fun i => decide (K i = K 0)
theorem sameB_iff (K : Nat → Int) (N : Nat) : sameB K N = true ↔ ∀ i, i < N → K i = K 0 := by simp [sameB]
theorem sameB_yes {K : Nat → Int} {N : Nat} (h : ∀ i, i < N → K i = K 0) : sameB K N = true := (sameB_iff K N).2 h
theorem sameB_no {K : Nat → Int} {N i : Nat} (hi : i < N) (h : K i ≠ K 0) : sameB K N = false := by
  cases e : sameB K N with
  | false => rfl
  | true => exact absurd ((sameB_iff K N).1 e i hi) h

/-- A cell that is there lies in a block that is there. -/
theorem block_lt {w : World} {a : Addr} {v : Value} (h : w.cell? a = some v) : a.block < w.heap.size := by
  unfold World.cell? at h
  split at h
  · rename_i c e fr hb
    exact (Array.getElem?_eq_some_iff.1 hb).1
  · simp at h

/-- WHAT LIES IN MEMORY OF AN ACCOUNT's TWO SLICES: n positions (kinds K 0 .. K (n - 1), each with some number), m orders (kinds K n ..). -/
structure Acct (w : World) (pa oa : Option Addr) (n m : Nat) (K : Nat → Int) : Prop where
  pos : ∀ i, i < n → ∃ b, pa = some ⟨b, 0, none⟩ ∧ w.cell? ⟨b, i * 31, none⟩ = some (.int .i64 (K i)) ∧ ∃ x, w.cell? ⟨b, i * 31 + 30, none⟩ = some (.int .i64 x)
  ord : ∀ j, j < m → ∃ b, oa = some ⟨b, 0, none⟩ ∧ w.cell? ⟨b, j * 23, none⟩ = some (.int .i64 (K (n + j)))

theorem Acct.later {w w' : World} {pa oa : Option Addr} {n m : Nat} {K : Nat → Int} (h : Acct w pa oa n m K) (hb : Below w.heap.size w w') : Acct w' pa oa n m K := by
  refine ⟨fun i hi => ?_, fun j hj => ?_⟩
  · obtain ⟨b, e, h1, x, h2⟩ := h.pos i hi
    exact ⟨b, e, (hb.cell (block_lt h1)).trans h1, x, (hb.cell (block_lt h2)).trans h2⟩
  · obtain ⟨b, e, h1⟩ := h.ord j hj
    exact ⟨b, e, (hb.cell (block_lt h1)).trans h1⟩

/-- 'kind(i)' at every place. -/
theorem kind_any (i n m nb ab pc oc : Nat) (pa oa : Option Addr) (K : Nat → Int) (w : World) (hA : Acct w pa oa n m K) (hi : i < n + m) (hn : n ≤ 1024) (hm : m ≤ 1024) (cn : w.cell? ⟨nb, 0, none⟩ = some (.int .i64 (n : Nat)))
    (cp : w.cell? ⟨ab, 4, none⟩ = some (.slice pa n pc)) (co : w.cell? ⟨ab, 5, none⟩ = some (.slice oa m oc)) :
    Calls Ybaf.prog 6 #[.int .i64 i, .pointer (some ⟨nb, 0, none⟩), .pointer (some ⟨ab, 0, none⟩)] w fun e w' => e = .returned (.int .i64 (K i)) ∧ w' = w := by
  by_cases h : i < n
  · obtain ⟨b, rfl, h1, _⟩ := hA.pos i h
    exact kind_pos i n nb ab b pc (K i) w h cn cp h1
  · obtain ⟨b, rfl, h1⟩ := hA.ord (i - n) (by omega)
    rw [show n + (i - n) = i by omega] at h1
    exact kind_ord i n m nb ab b oc (K i) w (by omega) hi (by omega) cn co h1

/-- 'name(i)' at every place. -/
theorem name_any (i n m nb ab pc oc : Nat) (pa oa : Option Addr) (v0 v1 v2 v3 : Value) (K : Nat → Int) (w : World) (hA : Acct w pa oa n m K) (hi : i < n + m) (hn : n ≤ 1024) (hm : m ≤ 1024) (cn : w.cell? ⟨nb, 0, none⟩ = some (.int .i64 (n : Nat)))
    (a0 : w.cell? ⟨ab, 0, none⟩ = some v0) (a1 : w.cell? ⟨ab, 1, none⟩ = some v1) (a2 : w.cell? ⟨ab, 2, none⟩ = some v2) (a3 : w.cell? ⟨ab, 3, none⟩ = some v3)
    (cp : w.cell? ⟨ab, 4, none⟩ = some (.slice pa n pc)) (co : w.cell? ⟨ab, 5, none⟩ = some (.slice oa m oc)) :
    Calls Ybaf.prog 7 #[.int .i64 i, .pointer (some ⟨nb, 0, none⟩), .pointer (some ⟨ab, 0, none⟩)] w fun e w' => (∃ s, e = .returned (.string s)) ∧ Below w.heap.size w w' := by
  by_cases h : i < n
  · obtain ⟨b, rfl, _, x, h2⟩ := hA.pos i h
    exact name_pos i n nb ab b pc x v0 v1 v2 v3 _ w h hn cn a0 a1 a2 a3 cp co h2
  · exact name_ord i n nb ab w (by omega) (by omega) cn

attribute [local go_sem] call8 call11 fguard fmtA fmtAr fmtB fmtBr fmtC fmtCr op9_115w op3_100 ptr59 elem59

set_option maxHeartbeats 1000000 in
theorem check_any (n m pc oc : Nat) (pa oa : Option Addr) (v0 v1 v2 v3 : Value) (K : Nat → Int) (w : World) (hA : Acct w pa oa n m K) (hn : n ≤ 1024) (hm : m ≤ 1024) :
    Calls Ybaf.prog 4 #[.agg #[v0, v1, v2, v3, .slice pa n pc, .slice oa m oc]] w fun e w' =>
      ((sameB K (n + m) = true ∧ e = .returned .nilIface) ∨ (sameB K (n + m) = false ∧ ∃ a, e = .returned (.iface 59 (.pointer (some a))))) ∧ Below w.heap.size w w' := by
  have HA : Hid (Acct w pa oa n m K) := hA
  clear hA
  go_enter Ybaf.func4, Ybaf.ntmps4
  go_wp2
  obtain ⟨W, hW⟩ : ∃ W, W = (w.alloc (Obj.cells #[v0, v1, v2, v3, .slice pa n pc, .slice oa m oc] 31)).alloc (Obj.cells #[.int .i64 (n : Nat)] 3) := ⟨_, rfl⟩
  rw [← hW]
  have bW : Below w.heap.size w W := by rw [hW]; exact ((Below.refl _ _).alloc (Nat.le_refl _) _).alloc (by simp) _
  have AW : Hid (Acct W pa oa n m K) := HA.out.later bW
  obtain ⟨ab, hab⟩ : ∃ ab, ab = w.heap.size := ⟨_, rfl⟩
  obtain ⟨nb, hnb⟩ : ∃ nb, nb = w.heap.size + 1 := ⟨_, rfl⟩
  have cn : W.cell? ⟨nb, 0, none⟩ = some (.int .i64 (n : Nat)) := by rw [hW, hnb]; simp
  have a0 : W.cell? ⟨ab, 0, none⟩ = some v0 := by rw [hW, hab]; simp
  have a1 : W.cell? ⟨ab, 1, none⟩ = some v1 := by rw [hW, hab]; simp
  have a2 : W.cell? ⟨ab, 2, none⟩ = some v2 := by rw [hW, hab]; simp
  have a3 : W.cell? ⟨ab, 3, none⟩ = some v3 := by rw [hW, hab]; simp
  have cp : W.cell? ⟨ab, 4, none⟩ = some (.slice pa n pc) := by rw [hW, hab]; simp
  have co : W.cell? ⟨ab, 5, none⟩ = some (.slice oa m oc) := by rw [hW, hab]; simp
  rw [← hnb, ← hab]
  have bW' : Below ab w W := by rw [hab]; exact bW
  have HAB : Hid (ab = w.heap.size) := hab
  clear hW hab hnb HA bW
  go_loop [6] (fun t => ∃ i : Nat, t = .int .i64 i ∧ 1 ≤ i ∧ i ≤ n + m + 1 ∧ Hid (∀ j, j < i → K j = K 0)) (fun t => n + m + 1 - (intOf t).toNat)
  case atStart => exact ⟨1, rfl, Nat.le_refl _, by omega, fun j hj => by rw [show j = 0 by omega]⟩
  case round =>
    obtain ⟨i, rfl, hi1, hi2, HI⟩ := hrel
    by_cases hlt : i < n + m
    · have hki := kind_any i n m nb ab pc oc pa oa K W AW.out hlt hn hm cn cp co
      have hk0 := kind_any 0 n m nb ab pc oc pa oa K W AW.out (by omega) hn hm cn cp co
      have hltz : (i : Int) < (n : Int) + (m : Int) := by omega
      go_wp2_with fail
      refine hki.mono ?_
      rintro e w1 ⟨rfl, hw1⟩
      have hw1' := hw1.symm
      subst hw1'
      clear hki
      go_wp2_with fail
      refine hk0.mono ?_
      rintro e w1 ⟨rfl, hw1⟩
      have hw1' := hw1.symm
      subst hw1'
      clear hk0
      by_cases hK : K i = K 0
      · have HK : Hid (K i = K 0) := hK
        have hKb : (K i != K 0) = false := by simp [hK]
        clear hK
        go_wp2_with fail
        go_round
        case rel =>
          refine ⟨i + 1, by go_num, by omega, by omega, (show Hid _ from fun j hj => ?_)⟩
          by_cases e : j = i
          · rw [e]; exact HK.out
          · exact HI.out j (by omega)
        case measure => simp [intOf]; omega
      · have HK : Hid (¬ K i = K 0) := hK
        have hKb : (K i != K 0) = true := by simp [hK]
        clear hK
        have hni := name_any i n m nb ab pc oc pa oa v0 v1 v2 v3 K W AW.out hlt hn hm cn a0 a1 a2 a3 cp co
        go_wp2_with fail
        refine hni.mono ?_
        rintro e w1 ⟨⟨s1, rfl⟩, hb1⟩
        clear hni
        have lab := block_lt a0
        have lnb := block_lt cn
        have tr : ∀ o v, W.cell? ⟨ab, o, none⟩ = some v → w1.cell? ⟨ab, o, none⟩ = some v := fun o v h => (hb1.cell (p := ⟨ab, o, none⟩) lab).trans h
        have hn0 := name_any 0 n m nb ab pc oc pa oa v0 v1 v2 v3 K w1 (AW.out.later hb1) (by omega) hn hm ((hb1.cell lnb).trans cn) (tr _ _ a0) (tr _ _ a1) (tr _ _ a2) (tr _ _ a3) (tr _ _ cp) (tr _ _ co)
        clear tr
        clear a0 a1 a2 a3 cn cp co lab lnb
        go_wp2_with fail
        refine hn0.mono ?_
        rintro e w2 ⟨⟨s2, rfl⟩, hb2⟩
        clear hn0
        go_wp2
        go_ret
        refine ⟨Or.inr ⟨sameB_no hlt HK.out, ⟨_, rfl⟩⟩, ?_⟩
        have B1 : Below w.heap.size w w1 := by
          have h := bW'
          rw [HAB.out] at h
          exact h.trans (hb1.mono h.size)
        have B2 : Below w.heap.size w w2 := B1.trans (hb2.mono B1.size)
        exact ((B2.alloc B2.size _).alloc (by have := B2.size; simp; omega) _).drew
    · go_wp2
      go_ret
      refine ⟨Or.inl ⟨sameB_yes (fun j hj => HI.out j (by omega)), rfl⟩, ?_⟩
      rw [← HAB.out]
      exact bW'

end Go.Proofs.YbulkbtroFmt
