/-
  (*IGDClient).Wake, walked.
-/
import Derived.Test.YbulkbtscWake
import Derived.Deep.Cut
import Derived.Shelf.SlSortCmp.QuietGrown
import Derived.BigQuiet
import Derived.Sort.AtCall
namespace Go.Proofs.Ybulkbtsc
open Go.RowKit Go.Sort

attribute [local go_sem] and_zero_u64 andNot_zero_u64 or_zero_u64

set_option maxHeartbeats 400000 in
theorem isZero_grown (n : Int) (w : World) : Calls Yba.prog 7 #[.agg #[.int .u64 0, .int .i64 n, .pointer none]] w fun e w' => e = .returned (.bool (n == 0)) ∧ ∃ q os', w' = grow (w.drewN q) os' := by
  go_enter Yba.func7, Yba.ntmps7
  go_wp2
  go_ret
  exact ⟨rfl, 0, _, alloc_eq_grow w _⟩

theorem isZero_lit (n : Int) (B : Bool) (h : (n == 0) = B) (w : World) : Calls Yba.prog 7 #[.agg #[.int .u64 0, .int .i64 n, .pointer none]] w fun e w' => e = .returned (.bool B) ∧ ∃ q os', w' = grow (w.drewN q) os' := by
  rw [← h]
  exact isZero_grown n w

theorem two_alloc (w : World) (o1 o2 : Obj) : (w.alloc o1).alloc o2 = grow (w.drewN 0) (#[o1] ++ #[o2]) := by rw [alloc_eq_grow, alloc_eq_grow, grow_grow]; rfl

set_option maxHeartbeats 400000 in
theorem before_grown (a b : Int) (w : World) : Calls Yba.prog 11 #[.agg #[.int .u64 0, .int .i64 a, .pointer none], .agg #[.int .u64 0, .int .i64 b, .pointer none]] w fun e w' => e = .returned (.bool (decide (a < b))) ∧ ∃ q os', w' = grow (w.drewN q) os' := by
  by_cases h : a < b
  · go_enter Yba.func11, Yba.ntmps11
    go_wp2
    go_ret
    refine ⟨?_, 0, _, two_alloc w _ _⟩
    rw [decide_eq_true h]
    rfl
  · have hf : decide (a < b) = false := decide_eq_false h
    by_cases h2 : a = b
    · subst h2
      go_enter Yba.func11, Yba.ntmps11
      go_wp2
      go_ret
      exact ⟨rfl, 0, _, two_alloc w _ _⟩
    · rw [hf]
      have h2' : (a == b) = false := by simpa using h2
      go_enter Yba.func11, Yba.ntmps11
      go_wp2
      go_ret
      exact ⟨rfl, 0, _, two_alloc w _ _⟩

theorem below_grow (w : World) (n : Nat) (os : Array Obj) : Below w.heap.size w (grow (w.drewN n) os) := ⟨rfl, rfl, rfl, by simp [grow], fun k hk => heap_grow_old _ _ hk⟩

structure IgdAt (w : World) (gb : Nat) (out sent held : Bool) (due exp : Int) : Prop where
  out : (out = false ∧ w.cell? ⟨gb, 13, none⟩ = some (.pointer none)) ∨ (out = true ∧ ∃ xb, w.cell? ⟨gb, 13, none⟩ = some (.pointer (some ⟨xb, 0, none⟩)) ∧ w.cell? ⟨xb, 2, none⟩ = some (.bool sent))
  held : HeldAt w gb 20 held 3 exp
  due : TAt w gb 14 due
theorem IgdAt.later {w w' : World} {gb : Nat} {out sent held : Bool} {due exp : Int} (h : IgdAt w gb out sent held due exp) (hb : Below w.heap.size w w') : IgdAt w' gb out sent held due exp := by
  refine ⟨?_, h.held.later hb, h.due.later hb⟩
  rcases h.out with ⟨e, h⟩ | ⟨e, xb, h, h2⟩
  · exact Or.inl ⟨e, cell_later hb h⟩
  · exact Or.inr ⟨e, xb, cell_later hb h, cell_later hb h2⟩

/-- When the client that asks by UPnP wakes. -/
def iduePart (out sent : Bool) (due : Int) : Int := if !out || !sent then due else 0
def iwake (out sent held : Bool) (due exp : Int) : Int := if held then zmin (iduePart out sent due) exp else iduePart out sent due

/-- Does the mapping's end come before what is due? -/
def takeB (held : Bool) (exp a : Int) : Bool := held && (!(exp == 0) && (a == 0 || decide (exp < a)))
theorem zmin_takeB (held : Bool) (exp a : Int) : (if held then zmin a exp else a) = if takeB held exp a then exp else a := by
  cases held with
  | false => rfl
  | true =>
    unfold takeB zmin
    by_cases h1 : exp = 0
    · subst h1; simp
    · by_cases h2 : a = 0
      · subst h2; simp [h1]
      · by_cases h3 : exp < a <;> simp [h1, h2, h3]

theorem Wk.made (w : World) (a : Int) : Wk w ((w.alloc (.cells #[.int .u64 0, .int .i64 0, .pointer none] 30)).alloc (.cells #[.int .u64 0, .int .i64 a, .pointer none] 30)) a := by
  refine ⟨?_, (TBox.new w 0).alloc _, ((Below.refl _ _).alloc (Nat.le_refl _) _).alloc (by simp) _⟩
  have h := TBox.new (w.alloc (.cells #[.int .u64 0, .int .i64 0, .pointer none] 30)) a
  simpa using h

set_option maxHeartbeats 2000000 in
theorem iwake_any (gb : Nat) (out sent held : Bool) (due exp : Int) (w : World) (h : IgdAt w gb out sent held due exp) :
    Calls Yba.prog 15 #[.pointer (some ⟨gb, 0, none⟩)] w fun e w' => e = .returned (.agg #[.int .u64 0, .int .i64 (iwake out sent held due exp), .pointer none]) ∧ Below w.heap.size w w' := by
  have HI : Hid (IgdAt w gb out sent held due exp) := h
  obtain ⟨d0, d1, d2⟩ := h.due
  have hgb := block_lt d0
  simp only [] at d1 d2 hgb
  have WM0 := Wk.made w 0
  have WMd := Wk.made w due
  have HM0 : Hid (Wk w ((w.alloc (.cells #[.int .u64 0, .int .i64 0, .pointer none] 30)).alloc (.cells #[.int .u64 0, .int .i64 0, .pointer none] 30)) 0) := WM0
  have HMd : Hid (Wk w ((w.alloc (.cells #[.int .u64 0, .int .i64 0, .pointer none] 30)).alloc (.cells #[.int .u64 0, .int .i64 due, .pointer none] 30)) due) := WMd
  clear h WM0 WMd
  go_enter Yba.func15, Yba.ntmps15
  go_upto_region 2 with fail
  go_cut [18] from 4 (fun s18 wc => s18 = .bool (!out || !sent) ∧ wc = (w.alloc (.cells #[.int .u64 0, .int .i64 0, .pointer none] 30)).alloc (.cells #[.int .u64 0, .int .i64 0, .pointer none] 30))
  case first =>
    rcases HI.out.out with ⟨rfl, o1⟩ | ⟨rfl, xb, o1, o2⟩
    · go_wp2_with fail
      go_meet
      case rel => exact ⟨rfl, rfl⟩
    · have hxb := block_lt o2
      simp only [] at hxb
      cases sent
      · go_wp2_with fail
        go_meet
        case rel => exact ⟨rfl, rfl⟩
      · go_wp2_with fail
        go_meet
        case rel => exact ⟨rfl, rfl⟩
  case rest =>
    obtain ⟨rfl, rfl⟩ := hcut
    go_upto_if 18 with fail
    go_cut [] from 4 (fun wc => Wk w wc (iduePart out sent due))
    case first =>
      cases hos : (!out || !sent)
      · go_wp2_with fail
        go_meet
        case rel => unfold iduePart; rw [hos]; exact HM0.out
      · go_wp2_with fail
        go_meet
        case rel => unfold iduePart; rw [hos]; exact HMd.out
    case rest =>
      clear HM0 HMd d0 d1 d2
      have mixed : Yba.prog.follows .mixedOrders = true := by kernel_rfl
      obtain ⟨a, ha⟩ : ∃ a, iduePart out sent due = a := ⟨_, rfl⟩
      rw [ha] at hcut
      have HA : Hid (iduePart out sent due = a) := ha
      clear ha
      have HK : Hid (Wk w wc a) := hcut
      clear hcut
      go_upto_region 4 with fail
      go_cut [56] from 4 (fun s56 wx => s56 = .bool (takeB held exp a) ∧ Wk w wx a)
      case first =>
        obtain ⟨A0, A1, A2⟩ := HK.out.now.cells
        have hAl := HK.out.now.lt
        rcases HI.out.held with ⟨rfl, e1⟩ | ⟨rfl, hb, e1, e2, e3⟩
        · have g1 : ∀ n os, (grow (wc.drewN n) os).cell? ⟨gb, 20, none⟩ = some (.pointer none) := fun n os => cell_grown (Nat.lt_of_lt_of_le hgb HK.out.bel.size) ((HK.out.old gb 20 hgb).trans e1) n os
          clear e1 A0 A1 A2
          refine wp_region_quiet_grown mixed (by kernel_rfl) ?_
          repeat (go_big_quiet_step (first | (go_at_call 7; refine Calls.grown_of (isZero_grown _ _)) | (go_at_call 11; refine Calls.grown_of (before_grown _ _ _))))
          refine wpQuiet_nil ?_
          intro _ hw'
          obtain ⟨⟨nq, osq⟩, hw''⟩ := hw'
          subst hw''
          go_wp2_with fail
          go_meet
          case rel => exact ⟨rfl, HK.out.below (below_grow _ _ _)⟩
        · obtain ⟨x0, x1, x2⟩ := e3
          have hhb := block_lt e2
          simp only [] at x1 x2 hhb
          have hgw := Nat.lt_of_lt_of_le hgb HK.out.bel.size
          have hhw := Nat.lt_of_lt_of_le hhb HK.out.bel.size
          have g1 : ∀ n os, (grow (wc.drewN n) os).cell? ⟨gb, 20, none⟩ = some (.pointer (some ⟨hb, 0, none⟩)) := fun n os => cell_grown hgw ((HK.out.old gb 20 hgb).trans e1) n os
          have g2 : ∀ n os, (grow (wc.drewN n) os).cell? ⟨hb, 6, none⟩ = some (.int .u64 0) := fun n os => cell_grown hhw ((HK.out.old hb 6 hhb).trans x0) n os
          have g3 : ∀ n os, (grow (wc.drewN n) os).cell? ⟨hb, 7, none⟩ = some (.int .i64 exp) := fun n os => cell_grown hhw ((HK.out.old hb 7 hhb).trans x1) n os
          have g4 : ∀ n os, (grow (wc.drewN n) os).cell? ⟨hb, 8, none⟩ = some (.pointer none) := fun n os => cell_grown hhw ((HK.out.old hb 8 hhb).trans x2) n os
          have g5 : ∀ n os, (grow (wc.drewN n) os).cell? ⟨w.heap.size + 1, 0, none⟩ = some (.int .u64 0) := fun n os => cell_grown hAl A0 n os
          have g6 : ∀ n os, (grow (wc.drewN n) os).cell? ⟨w.heap.size + 1, 1, none⟩ = some (.int .i64 a) := fun n os => cell_grown hAl A1 n os
          have g7 : ∀ n os, (grow (wc.drewN n) os).cell? ⟨w.heap.size + 1, 2, none⟩ = some (.pointer none) := fun n os => cell_grown hAl A2 n os
          clear e1 e2 x0 x1 x2 A0 A1 A2
          by_cases hx0 : exp = 0
          · have hxb : (exp == 0) = true := by simpa using hx0
            have HX : Hid (exp = 0) := hx0
            clear hx0
            refine wp_region_quiet_grown mixed (by kernel_rfl) ?_
            repeat (go_big_quiet_step (first | (go_at_call 7; refine Calls.grown_of (isZero_grown _ _)) | (go_at_call 11; refine Calls.grown_of (before_grown _ _ _))))
            refine wpQuiet_nil ?_
            intro _ hw'
            obtain ⟨⟨nq, osq⟩, hw''⟩ := hw'
            subst hw''
            go_wp2_with fail
            go_meet
            case rel => exact ⟨congrArg Value.bool (by simp [takeB, HX.out]), HK.out.below (below_grow _ _ _)⟩
          · have hxb : (exp == 0) = false := by simpa using hx0
            have HX : Hid (¬ exp = 0) := hx0
            clear hx0
            by_cases ha0 : a = 0
            · have hab : (a == 0) = true := by simpa using ha0
              have HA0 : Hid (a = 0) := ha0
              clear ha0
              refine wp_region_quiet_grown mixed (by kernel_rfl) ?_
              repeat (go_big_quiet_step (first | (go_at_call_has 7 (Value.int .i64 a); refine Calls.grown_of (isZero_lit a true hab _)) | (go_at_call 7; refine Calls.grown_of (isZero_grown _ _)) | (go_at_call 11; refine Calls.grown_of (before_grown _ _ _))))
              refine wpQuiet_nil ?_
              intro _ hw'
              obtain ⟨⟨nq, osq⟩, hw''⟩ := hw'
              subst hw''
              go_wp2_with fail
              go_meet
              case rel => exact ⟨congrArg Value.bool (by simp [takeB, HX.out, HA0.out]), HK.out.below (below_grow _ _ _)⟩
            · have hab : (a == 0) = false := by simpa using ha0
              have HA0 : Hid (¬ a = 0) := ha0
              clear ha0
              by_cases hlt : exp < a
              · have hltb : decide (exp < a) = true := decide_eq_true hlt
                have HLT : Hid (exp < a) := hlt
                clear hlt
                refine wp_region_quiet_grown mixed (by kernel_rfl) ?_
                repeat (go_big_quiet_step (first | (go_at_call_has 7 (Value.int .i64 a); refine Calls.grown_of (isZero_lit a false hab _)) | (go_at_call 7; refine Calls.grown_of (isZero_grown _ _)) | (go_at_call 11; refine Calls.grown_of (before_grown _ _ _))))
                refine wpQuiet_nil ?_
                intro _ hw'
                obtain ⟨⟨nq, osq⟩, hw''⟩ := hw'
                subst hw''
                go_wp2_with fail
                go_meet
                case rel => exact ⟨congrArg Value.bool (by simp [takeB, HX.out, HLT.out]), HK.out.below (below_grow _ _ _)⟩
              · have hltb : decide (exp < a) = false := decide_eq_false hlt
                have HLT : Hid (¬ exp < a) := hlt
                clear hlt
                refine wp_region_quiet_grown mixed (by kernel_rfl) ?_
                repeat (go_big_quiet_step (first | (go_at_call_has 7 (Value.int .i64 a); refine Calls.grown_of (isZero_lit a false hab _)) | (go_at_call 7; refine Calls.grown_of (isZero_grown _ _)) | (go_at_call 11; refine Calls.grown_of (before_grown _ _ _))))
                refine wpQuiet_nil ?_
                intro _ hw'
                obtain ⟨⟨nq, osq⟩, hw''⟩ := hw'
                subst hw''
                go_wp2_with fail
                go_meet
                case rel => exact ⟨congrArg Value.bool (by simp only [takeB]; rw [hxb, hab, hltb]; rfl), HK.out.below (below_grow _ _ _)⟩
      case rest =>
        clear HK
        obtain ⟨rfl, K⟩ := hcut
        have HZ : Hid (iwake out sent held due exp = if takeB held exp a then exp else a) := by
          unfold iwake
          rw [HA.out]
          exact zmin_takeB held exp a
        have hc := K.old
        have hl := K.lt
        obtain ⟨A0, A1, A2⟩ := K.now.cells
        obtain ⟨r0, r1, r2⟩ := K.res.cells
        have f0 := K.res.frozen 0
        have f1 := K.res.frozen 1
        have f2 := K.res.frozen 2
        cases htk : takeB held exp a
        · rw [htk] at HZ
          clear htk HI
          go_wp2
          refine bodyPost_ret (v := .agg #[.int .u64 0, .int .i64 a, .pointer none]) (by simp [results, Yba.results15, go_sem, r0, r1, r2]) rfl ⟨?_, K.fin _⟩
          rw [HZ.out]
          rfl
        · have hh : held = true := by
            cases held
            · cases htk
            · rfl
          subst hh
          rw [htk] at HZ
          clear htk
          rcases HI.out.held with ⟨e0, _⟩ | ⟨_, hb, e1, e2, x0, x1, x2⟩
          · cases e0
          · have hhb := block_lt e2
            simp only [] at x1 x2 hhb
            have g0 := K.now.frozen 0
            have g1 := K.now.frozen 1
            have g2 := K.now.frozen 2
            clear e2 HI
            go_wp2
            refine bodyPost_ret (v := .agg #[.int .u64 0, .int .i64 exp, .pointer none]) (by simp [results, Yba.results15, go_sem, r0, r1, r2]) rfl ⟨?_, ?_⟩
            · rw [HZ.out]
              rfl
            · exact (((((K.bel.setCell (Nat.le_succ _) _).setCell (Nat.le_succ _) _).setCell (Nat.le_succ _) _).setCell (Nat.le_refl _) _).setCell (Nat.le_refl _) _).setCell (Nat.le_refl _) _

end Go.Proofs.Ybulkbtsc
