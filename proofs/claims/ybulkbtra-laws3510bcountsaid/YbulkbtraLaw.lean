/-
  THE LAW's OWN WALK: check.LawS3510BCount returns true at every input, and writes nothing that was there.
-/
import Derived.Test.YbulkbtraBridge
import Derived.Deep.OwnRows
import Derived.Deep.Cut
import Derived.OpenShut
namespace Go.Proofs.Ybulkbtra.lawS3510BCount
open Go.RowKit

/-- WHAT THE WALK IS TOLD OF A SLICE OF INTEGERS THAT CAME IN: it is nil; or it leads to a row of 'cap' cells, the numbers 'zs' (the first 'len' are its elements, the rest its spare room), each fitting its kind. -/
def IsRow (k : IntKind) (w : World) (a : Option Addr) (len cap : Nat) (zs : List Int) : Prop :=
  (a = none ∧ len = 0 ∧ cap = 0 ∧ zs = []) ∨
  ∃ x, a = some x ∧ len ≤ cap ∧ cap ≤ maxLen ∧ zs.length = cap ∧ (∀ i, i < zs.length → w.cell? (x.add i) = some (.int k (zs.getD i 0))) ∧ ∀ n ∈ zs, (Lit.int k n).wf = true

theorem IsRow.len_le {k : IntKind} {w : World} {a : Option Addr} {len cap : Nat} {zs : List Int} (h : IsRow k w a len cap zs) : len ≤ zs.length := by
  rcases h with ⟨_, rfl, _, _⟩ | ⟨x, _, h1, _, h2, _⟩ <;> omega
theorem IsRow.at {k : IntKind} {w : World} {a : Option Addr} {len cap : Nat} {zs : List Int} (h : IsRow k w a len cap zs) (i : Nat) (hi : i < len) :
    ∃ b o, a = some ⟨b, o, none⟩ ∧ b < w.heap.size ∧ w.cell? ⟨b, o + i, none⟩ = some (.int k (zs.getD i 0)) := by
  rcases h with ⟨_, rfl, _, _⟩ | ⟨x, rfl, h1, _, h2, hc, _⟩
  · omega
  · have h0 := hc 0 (by omega)
    have hi' := hc i (by omega)
    obtain ⟨b, o, s⟩ := x
    have hs : s = none := by simpa [Addr.add] using World.cell?_spot h0
    subst hs
    rw [Addr.add_lit] at hi' h0
    exact ⟨b, o, rfl, block_lt h0, hi'⟩
theorem IsRow.wf {k : IntKind} {w : World} {a : Option Addr} {len cap : Nat} {zs : List Int} (h : IsRow k w a len cap zs) : ∀ n ∈ zs, (Lit.int k n).wf = true := by
  rcases h with ⟨_, _, _, rfl⟩ | ⟨x, _, _, _, _, _, hw⟩
  · intro n hn; cases hn
  · exact hw

/-- The ends' row while the first loop runs: k of the sums are laid. -/
def endsAt (z : List Int) (k : Nat) : Nat → Value := fun j => .int .u32 (if j < k then pre z (j + 1) else 0)

set_option maxHeartbeats 2000000 in
set_option maxRecDepth 100000 in
theorem walk (a0 : Option Addr) (len0 cap0 : Nat) (z0 : List Int) (a1 : Option Addr) (len1 cap1 : Nat) (z1 : List Int) (a2 : Int) (w : World) (w0 : IsRow .u8 w a0 len0 cap0 z0) (w1 : IsRow .u16 w a1 len1 cap1 z1) (_w2 : (Lit.int .u32 a2).wf = true) :
    Calls Yba.prog 3 #[.slice a0 len0 cap0, .slice a1 len1 cap1, .int .u32 a2] w fun e w' => e = .returned (.bool true) ∧ Below w.heap.size w w' := by
  by_cases hA : 1024 < len0
  · go_enter Yba.func3, Yba.ntmps3
    go_wp2
    go_ret
    exact ⟨rfl, Below.refl _ _⟩
  by_cases hB : 1024 < len1
  · go_enter Yba.func3, Yba.ntmps3
    go_wp2
    go_ret
    exact ⟨rfl, Below.refl _ _⟩
  have hl0 := w0.len_le
  have hl1 := w1.len_le
  have W0 : Hid (IsRow .u8 w a0 len0 cap0 z0) := w0
  have W1 : Hid (IsRow .u16 w a1 len1 cap1 z1) := w1
  have hmk := run_make_row' (P := Yba.prog) 25 24 (.int .u32 0) 4 Yba.underlying25 info24 rfl .i64 .i64 len0 (by omega) (by omega)
  clear w0 w1
  go_enter Yba.func3, Yba.ntmps3
  go_wp2
  have bd0 : ∀ n ∈ z0, 0 ≤ n ∧ n ≤ 255 := fun n hn => bounds_u8 (W0.out.wf n hn)
  have BD0 : Hid (∀ n ∈ z0, 0 ≤ n ∧ n ≤ 255) := bd0
  clear bd0
  go_loopw [8, 33] (fun s i wr => ∃ k : Nat, k ≤ len0 ∧ i = .int .i64 k ∧ s = .int .u32 (pre z0 k) ∧ wr.rowIs w.heap.size 24 len0 (endsAt z0 k) ∧ wr.heap.size = w.heap.size + 1 ∧ Below w.heap.size w wr)
    (fun _ i _ => len0 - (intOf i).toNat)
  case atStart => exact ⟨0, Nat.zero_le _, rfl, rfl, (World.rowIs_made w _ _ _).congr (fun i _ => by simp [endsAt]), by simp, (Below.refl _ _).alloc (Nat.le_refl _) _⟩
  case round =>
    obtain ⟨k, hk, rfl, rfl, hrow, hsz, hbel⟩ := hrel
    have ROW : Hid (wr.rowIs w.heap.size 24 len0 (endsAt z0 k)) := hrow
    have SZ : Hid (wr.heap.size = w.heap.size + 1) := hsz
    clear hrow hsz
    by_cases hlt : k < len0
    · obtain ⟨b, o, rfl, hb, hcell⟩ := W0.out.at k hlt
      have hcw : wr.cell? ⟨b, o + k, none⟩ = some (.int .u8 (z0.getD k 0)) := (hbel.cell hb).trans hcell
      clear hcell
      have hd := BD0.out (z0.getD k 0) (by simp [show k < z0.length by omega])
      have hs := pre_bd z0 BD0.out k
      have HP : Hid (pre z0 (k + 1) = pre z0 k + z0.getD k 0) := pre_succ z0 k (by omega)
      obtain ⟨d, hdd⟩ : ∃ d, z0.getD k 0 = d := ⟨_, rfl⟩
      obtain ⟨S, hS⟩ : ∃ S, pre z0 k = S := ⟨_, rfl⟩
      rw [hdd] at hcw hd HP
      rw [hS] at hs HP ⊢
      clear hdd
      have hce := ROW.out.cell hlt
      have hfr := ROW.out.frozen k
      go_wp2
      go_roundw
      case rel =>
        refine ⟨k + 1, by omega, by go_num, by rw [HP.out], ?_, ?_, ?_⟩
        · refine (ROW.out.set k _).congr (fun j hj => ?_)
          unfold endsAt
          by_cases e : j = k
          · subst e
            simp [HP.out]
          · simp only [if_neg e]
            by_cases e2 : j < k
            · rw [if_pos e2, if_pos (by omega)]
            · rw [if_neg e2, if_neg (by omega)]
        · simpa using SZ.out
        · exact hbel.setCell (Nat.le_refl _) _
      case measure => simp [intOf]; omega
    · obtain rfl : k = len0 := by omega
      have hrow : Hid (∀ j, j < k → wr.cell? ⟨w.heap.size, j, none⟩ = some (.int .u32 (pre z0 (j + 1)))) := fun j hj => by
        have h := ROW.out.cell hj
        unfold endsAt at h
        rwa [if_pos hj] at h
      obtain ⟨i0, hi, hz0, hz1, hz2⟩ := info_parts info24
      have hE : w.heap.size < wr.heap.size := by have := SZ.out; omega
      have hs1 : Hid (wr.heap.size = w.heap.size + 1) := SZ.out
      clear ROW SZ
      go_upto_if 52 with (at_make; refine wpList_make_own _ rfl _ _ 25 rfl wr.heap.size 24 i0 (.int .u32 0) 1 Yba.underlying25 hi hz0 hz1 _ _ _ len1 rfl rfl rfl ?b2 ?b3 (Nat.le_refl _) ?_)
      case b2 => rw [hz2]; omega
      case b3 => unfold maxLen; omega
      intro w0 hown0 hgrow0
      have hrow0 : Hid (∀ j, j < k → w0.cell? ⟨w.heap.size, j, none⟩ = some (.int .u32 (pre z0 (j + 1)))) := fun j hj => hgrow0.cell (hrow.out j hj) (fun e => by cases e)
      have hbel0 : Below w.heap.size w w0 := hbel.grown hgrow0 (Nat.le_of_lt hE) (fun k h => by cases h)
      clear hrow hgrow0 hbel
      obtain ⟨I, hI⟩ : ∃ I, wr.heap.size = I := ⟨_, rfl⟩
      rw [hI] at hown0 hE hs1 ⊢
      clear hI
      go_upto_if 52 with fail
      go_cut [11] from 52 (fun s11 wc => ∃ (n : Nat) (F : List Int), s11 = .slice (some ⟨I, 0, none⟩) n len1 ∧ wc.ownsRow I 24 1 (.slice (some ⟨I, 0, none⟩) n len1) n (F.map (Value.int .u32)) ∧ n ≤ 1024 ∧ (∀ x ∈ F, 0 ≤ x ∧ x < (k : Int)) ∧
        Hid (∀ j, j < k → wc.cell? ⟨w.heap.size, j, none⟩ = some (.int .u32 (pre z0 (j + 1)))) ∧ Below w.heap.size w wc)
      case first =>
        by_cases hk0 : 0 < k
        · go_wp2
          rw [decide_eq_true hk0]
          go_loopw [11, 55] (fun v i wr => ∃ m : Nat, m ≤ len1 ∧ i = .int .i64 m ∧ v = .slice (some ⟨I, 0, none⟩) m len1 ∧ wr.ownsRow I 24 1 (.slice (some ⟨I, 0, none⟩) m len1) m ((picked z1 k m).map (Value.int .u32)) ∧
              Hid (∀ j, j < k → wr.cell? ⟨w.heap.size, j, none⟩ = some (.int .u32 (pre z0 (j + 1)))) ∧ Below w.heap.size w wr)
            (fun _ i _ => len1 - (intOf i).toNat)
          case atStart => exact ⟨0, Nat.zero_le _, rfl, rfl, hown0, hrow0, hbel0⟩
          case round =>
            obtain ⟨m, hm, rfl, rfl, hown, hrow, hbel⟩ := hrel
            by_cases hlt : m < len1
            · obtain ⟨b, o, rfl, hb, hcell⟩ := W1.out.at m hlt
              have hcw : wr.cell? ⟨b, o + m, none⟩ = some (.int .u16 (z1.getD m 0)) := (hbel.cell hb).trans hcell
              clear hcell
              have hd := bounds_u16 (W1.out.wf (z1.getD m 0) (by simp [show m < z1.length by omega]))
              have HP : Hid (picked z1 k (m + 1) = picked z1 k m ++ [z1.getD m 0 % (k : Int)]) := picked_succ z1 k m (by omega)
              obtain ⟨d, hdd⟩ : ∃ d, z1.getD m 0 = d := ⟨_, rfl⟩
              rw [hdd] at hcw hd HP
              clear hdd
              have hr1 : 0 ≤ d % (k : Int) := Int.emod_nonneg _ (by omega)
              have hr2 : d % (k : Int) < k := Int.emod_lt_of_pos _ (by omega)
              go_wp2_with (at_builtin; refine wpList_append_fits _ rfl (.tmp 59) (.tmp 66) 25 rfl I 24 i0 1 Yba.underlying25 hi hz1 I m len1 _ rfl (hown.alloc _) ⟨wr.heap.size, 0, none⟩ 1 1 [.int .u32 (d % (k : Int))] rfl rfl ?c1 ?c2 ?c3 ?_)
              case c1 =>
                intro j u hj
                match j, hj with
                | 0, hj => simp at hj; subst hj; simp [Addr.add]
              case c2 => intro u hu; simp at hu; subst hu; rfl
              case c3 => omega
              intro w1 hown1 hgrow1
              have hrow1 : Hid (∀ j, j < k → w1.cell? ⟨w.heap.size, j, none⟩ = some (.int .u32 (pre z0 (j + 1)))) := fun j hj => hgrow1.cell (Lib.cell?_alloc_some _ (hrow.out j hj)) (fun e => by simp at e; omega)
              have hbel1 : Below w.heap.size w w1 := (hbel.alloc (Nat.le_trans (Nat.le_refl _) hbel.size) _).grown hgrow1 (by have := hbel.size; simp; omega) (fun j hj => by cases hj; omega)
              go_wp2
              go_roundw
              case rel =>
                have ho : w1.ownsRow I 24 1 (.slice (some ⟨I, 0, none⟩) (m + 1) len1) (m + 1) ((picked z1 k (m + 1)).map (Value.int .u32)) := by rw [HP.out, List.map_append]; exact hown1
                first | exact ⟨m + 1, by omega, by go_num, rfl, ho, hrow1, hbel1⟩ | ((repeat apply Exists.intro); refine ⟨?_, rfl⟩; exact ⟨m + 1, by omega, by go_num, rfl, ho, hrow1, hbel1⟩)
              case measure => simp [intOf]; omega
            · obtain rfl : m = len1 := by omega
              go_wp2
              go_meet
              case rel => exact ⟨m, picked z1 k m, rfl, hown, by omega, picked_mem z1 k m hk0, hrow, hbel⟩
        · go_wp2
          go_meet
          case rel => exact ⟨0, [], rfl, hown0, by omega, (fun x hx => by cases hx), hrow0, hbel0⟩
      case rest =>
        obtain ⟨n, F, rfl, hown, hn, hF, hrow, hbel⟩ := hcut
        have HF : Hid (∀ x ∈ F, 0 ≤ x ∧ x < (k : Int)) := hF
        have hso := sort_any I I n len1 F wc hown hn (fun x hx => (hF x hx).1)
        have hlF : Hid (F.length = n) := (by have := hown.1; simpa using this : F.length = n)
        have hIc : I < wc.heap.size := (hown.lt I rfl).2
        clear hF hown
        go_wp2_with (go_at_call 4; refine hso.mono ?_; rintro e wS ⟨rfl, hg1, hc1⟩)
        clear hso
        have hrowS : Hid (∀ j, j < k → wS.cell? ⟨w.heap.size, j, none⟩ = some (.int .u32 (pre z0 (j + 1)))) := fun j hj => hg1.cell (hrow.out j hj) (fun e => by simp at e; omega)
        have hbelS : Below w.heap.size w wS := hbel.grown hg1 hbel.size (fun j hj => by cases hj; omega)
        have hIS : I < wS.heap.size := Nat.lt_of_lt_of_le hIc hg1.size
        refine (clone_any I n len1 ((List.range n).map fun j => Value.int .u32 (gth F j : Nat)) wS (by simp) hn ?k1 ?k2).mono ?_
        case k1 =>
          intro j u hj
          by_cases h : j < n
          · simp [h] at hj
            rw [← hj]
            exact hc1 j h
          · simp [h] at hj
        case k2 =>
          intro u hu
          obtain ⟨j, _, rfl⟩ := List.mem_map.1 hu
          rfl
        rintro e wC ⟨v', rfl, hownC, hbelC⟩
        have hrowC : Hid (∀ j, j < k → wC.cell? ⟨w.heap.size, j, none⟩ = some (.int .u32 (pre z0 (j + 1)))) := fun j hj => (hbelC.cell (by show w.heap.size < wS.heap.size; omega)).trans (hrowS.out j hj)
        have hcC : Hid (∀ j, j < n → wC.cell? ⟨I, j, none⟩ = some (.int .u32 (gth F j : Nat))) := fun j hj => (hbelC.cell (by exact hIS)).trans (hc1 j hj)
        have hbel2 : Below w.heap.size w wC := hbelS.trans (hbelC.mono hbelS.size)
        have OWN : Hid (wC.ownsRow wS.heap.size 24 1 v' n ((List.range n).map fun j => Value.int .u32 (gth F j : Nat))) := hownC
        clear hrow hrowS hbel hbelS hg1 hc1 hownC hbelC
        go_wp2_with fail
        have hal : ∀ (o : Obj) (b j : Nat) (x : Value), wC.cell? ⟨b, j, none⟩ = some x → (wC.alloc o).cell? ⟨b, j, none⟩ = some x := fun o b j x h => Lib.cell?_alloc_some _ h
        obtain ⟨wM, hM⟩ : ∃ wM, wM = wC.alloc (Obj.cells #[.pointer none, .slice none 0 0, .slice (some ⟨w.heap.size, 0, none⟩) k k, .slice none 0 0, .int .i64 0, .slice none 0 0, .slice none 0 0, .slice none 0 0] 35) := ⟨_, rfl⟩
        rw [← hM]
        have hmc : wM.cell? ⟨wC.heap.size, 2, none⟩ = some (.slice (some ⟨w.heap.size, 0, none⟩) k k) := by rw [hM]; simp
        have hrowM : Hid (∀ j, j < k → wM.cell? ⟨w.heap.size, j, none⟩ = some (.int .u32 (pre z0 (j + 1)))) := fun j hj => by rw [hM]; exact hal _ _ _ _ (hrowC.out j hj)
        have hcM : Hid (∀ j, j < n → wM.cell? ⟨I, j, none⟩ = some (.int .u32 (gth F j : Nat))) := fun j hj => by rw [hM]; exact hal _ _ _ _ (hcC.out j hj)
        have OWNM : Hid (wM.ownsRow wS.heap.size 24 1 v' n ((List.range n).map fun j => Value.int .u32 (gth F j : Nat))) := by rw [hM]; exact OWN.out.alloc _
        have hbelM : Below w.heap.size w wM := by rw [hM]; exact hbel2.alloc hbel2.size _
        clear hM hal hrowC hcC OWN hbel2
        have hgl : Hid (∀ i, i < n → gth F i < k) := fun i hi => gth_lt F k HF.out i (by rw [hlF.out]; exact hi)
        have hmono : Hid (∀ i j, i ≤ j → j < n → pre z0 (gth F i + 1) ≤ pre z0 (gth F j + 1)) := fun i j hij hj => pre_mono z0 (fun x hx => (BD0.out x hx).1) (by have := gth_mono F hij (by rw [hlF.out]; exact hj); omega)
        refine (firstAt_any wC.heap.size w.heap.size k k I n len1 (gth F) (fun j => pre z0 (j + 1)) a2 wM (by omega) hn hmc hrowM.out hcM.out hgl.out hmono.out).mono ?_
        rintro e w' ⟨m, rfl, hmn, hlo, hhi, rfl⟩
        have HLO : Hid (∀ i, i < m → pre z0 (gth F i + 1) < a2) := hlo
        have HHI : Hid (∀ i, m ≤ i → i < n → a2 ≤ pre z0 (gth F i + 1)) := hhi
        clear hlo hhi hmono HF hlF
        go_wp2
        go_loop [17, 82] (fun want i => ∃ t q : Nat, t ≤ n ∧ i = .int .i64 t ∧ want = .int .i64 (q : Int) ∧ q = min t m) (fun _ i => n - (intOf i).toNat)
        case atStart => exact ⟨0, 0, Nat.zero_le _, rfl, rfl, by omega⟩
        case round =>
          obtain ⟨t, q, ht, rfl, rfl, hq⟩ := hrel
          by_cases hlt : t < n
          · have hct := hcM.out t hlt
            have hgt := hgl.out t hlt
            have hce := hrowM.out (gth F t) hgt
            by_cases htm : t < m
            · have hx := HLO.out t htm
              have HQ : Hid (q = t) := (by omega : q = t)
              have hq4 : q ≤ 1024 := by omega
              clear hq
              go_wp2
              go_round
              case rel => exact ⟨t + 1, q + 1, by omega, by go_num, by go_num, by have := HQ.out; omega⟩
              case measure => simp [intOf]; omega
            · have hx := HHI.out t (by omega) hlt
              have HQ : Hid (q = m) := (by omega : q = m)
              clear hq
              go_wp2
              go_round
              case rel => exact ⟨t + 1, q, by omega, by go_num, rfl, by have := HQ.out; omega⟩
              case measure => simp [intOf]; omega
          · obtain rfl : q = m := by omega
            have hEq := equal_keep wS.heap.size I n len1 v' (gth F) w' hn OWNM.out hcM.out
            clear hq
            go_wp2_with (go_at_call 7; refine hEq.mono ?_; rintro e w' ⟨rfl, q1, rfl⟩)
            go_ret
            exact ⟨rfl, hbelM.trans ⟨rfl, rfl, rfl, Nat.le_refl _, fun _ _ => rfl⟩⟩

end Go.Proofs.Ybulkbtra.lawS3510BCount
