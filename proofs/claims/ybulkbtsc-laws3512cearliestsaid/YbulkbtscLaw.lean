/-
  LawS3512CEarliest, walked.
-/
import Derived.Test.YbulkbtscBuild
namespace Go.Proofs.Ybulkbtsc
open Go.RowKit

/-- THE LAW's OWN RECKONING, part by part. -/
def b1 (po ph : Bool) (od ra : Int) : Int := if po then zmin 0 od else if ph then zmin 0 ra else 0
def b2 (ph : Bool) (x pe : Int) : Int := if ph then zmin x pe else x
def bB (hp hi : Bool) (s x bg : Int) : Int := if hp then (if !hi && s == 0 then zmin x (bg + 3) else x) else 0
def c1 (io is : Bool) (x idu : Int) : Int := if !io || !is then zmin x idu else x
def bF (hi io is ih : Bool) (x idu ie : Int) : Int := if hi then b2 ih (c1 io is x idu) ie else x

theorem best_eq (hp po ph hi io is ih : Bool) (od ra pe s bg idu ie : Int) :
    mwake hp hi (cwake po ph od ra pe) s bg (iwake io is ih idu ie) = bF hi io is ih (bB hp hi s (b2 ph (b1 po ph od ra) pe) bg) idu ie := by
  have e1 : cwake po ph od ra pe = b2 ph (b1 po ph od ra) pe := by
    cases po <;> cases ph <;> simp [cwake, b2, b1, zmin_first]
  have e2 : ∀ x, zmin x (iwake io is ih idu ie) = b2 ih (c1 io is x idu) ie := by
    intro x
    cases io <;> cases is <;> cases ih <;> simp [iwake, iduePart, b2, c1, zmin_assoc, zmin_none, zmin_first]
  rw [e1]
  show (if hi then zmin (bB hp hi s (b2 ph (b1 po ph od ra) pe) bg) (iwake io is ih idu ie) else bB hp hi s (b2 ph (b1 po ph od ra) pe) bg) = _
  rw [e2]
  rfl

def Bd (x : Int) : Prop := -4294967296 ≤ x ∧ x ≤ 4294967296
theorem Bd.zmin {a b : Int} (ha : Bd a) (hb : Bd b) : Bd (zmin a b) := zmin_bd ha hb
theorem Bd.ite {a b : Int} {c : Bool} (ha : Bd a) (hb : Bd b) : Bd (if c then a else b) := by cases c <;> assumption
theorem Bd.zero : Bd 0 := ⟨by omega, by omega⟩
theorem best_bd (hp po ph hi io is ih : Bool) (od ra pe s bg idu ie : Int) (h1 : Bd od) (h2 : Bd ra) (h3 : Bd pe) (h4 : Bd (bg + 3)) (h5 : Bd idu) (h6 : Bd ie) :
    Bd (bF hi io is ih (bB hp hi s (b2 ph (b1 po ph od ra) pe) bg) idu ie) := by
  have x1 : Bd (b1 po ph od ra) := Bd.ite (Bd.zmin .zero h1) (Bd.ite (Bd.zmin .zero h2) .zero)
  have x2 : Bd (b2 ph (b1 po ph od ra) pe) := Bd.ite (x1.zmin h3) x1
  have x3 : Bd (bB hp hi s (b2 ph (b1 po ph od ra) pe) bg) := Bd.ite (Bd.ite (x2.zmin h4) x2) .zero
  have x4 : Bd (c1 io is (bB hp hi s (b2 ph (b1 po ph od ra) pe) bg) idu) := Bd.ite (x3.zmin h5) x3
  exact Bd.ite (Bd.ite (x4.zmin h6) x4) x3

set_option maxHeartbeats 4000000 in
set_option maxRecDepth 100000 in
theorem law_any (hp po : Bool) (od : Int) (ph : Bool) (hpr ra pe spk bg : Int) (hi io is : Bool) (idu : Int) (ih : Bool) (ie : Int) (w : World)
    (bod : -2147483648 ≤ od ∧ od ≤ 2147483647) (bra : -2147483648 ≤ ra ∧ ra ≤ 2147483647) (bpe : -2147483648 ≤ pe ∧ pe ≤ 2147483647) (bbg : -2147483648 ≤ bg ∧ bg ≤ 2147483647)
    (bidu : -2147483648 ≤ idu ∧ idu ≤ 2147483647) (bie : -2147483648 ≤ ie ∧ ie ≤ 2147483647) (bhpr : 0 ≤ hpr ∧ hpr ≤ 255) (bspk : 0 ≤ spk ∧ spk ≤ 255) :
    Calls Yba.prog 3 #[.agg #[.bool hp, .bool po, .int .i32 od, .bool ph, .int .u8 hpr, .int .i32 ra, .int .i32 pe, .int .u8 spk, .int .i32 bg, .bool hi, .bool io, .bool is, .int .i32 idu, .bool ih, .int .i32 ie]] w fun e w' =>
      e = .returned (.bool true) ∧ Below w.heap.size w w' := by
  go_enter Yba.func3, Yba.ntmps3
  go_wp2_with fail
  refine (build_any hp po od ph hpr ra pe spk bg hi io is idu ih ie _ bod bra bpe bbg bidu bie bhpr bspk).mono ?_
  rintro e W1 ⟨mb, rfl, hP, hU, hT, hb⟩
  have HM : Hid (PcpAt W1 mb hp po ph od (hpr % 4) ra pe (spk % 4) ∧ UpnpAt W1 mb hi io is ih idu ie ∧ TAt W1 mb 8 bg) := ⟨hP, hU, hT⟩
  have IB : Hid (Blk W1 w.heap.size (inCells hp po od ph hpr ra pe spk bg hi io is idu ih ie) 23) := (Blk.new w _ 23).later hb
  have bel : Hid (Below w.heap.size w W1) := ((Below.refl _ w).alloc (Nat.le_refl _) _).trans (hb.mono (by simp))
  have HE : Hid (mwake hp hi (cwake po ph od ra pe) (if ph then hpr % 4 else spk % 4) bg (iwake io is ih idu ie) = bF hi io is ih (bB hp hi (if ph then hpr % 4 else spk % 4) (b2 ph (b1 po ph od ra) pe) bg) idu ie) := best_eq hp po ph hi io is ih od ra pe _ bg idu ie
  have HD : Hid (Bd (bF hi io is ih (bB hp hi (if ph then hpr % 4 else spk % 4) (b2 ph (b1 po ph od ra) pe) bg) idu ie)) := best_bd hp po ph hi io is ih od ra pe _ bg idu ie ⟨by omega, by omega⟩ ⟨by omega, by omega⟩ ⟨by omega, by omega⟩ ⟨by omega, by omega⟩ ⟨by omega, by omega⟩ ⟨by omega, by omega⟩
  clear hP hU hT hb
  have k0 := IB.out.cell 0 (.bool hp) rfl
  go_upto_if 10 with fail
  clear k0
  go_cut [4] from 5 (fun s4 wx => ∃ x, x = bB hp hi (if ph then hpr % 4 else spk % 4) (b2 ph (b1 po ph od ra) pe) bg ∧ s4 = .int .i64 x ∧ W1 = wx)
  case first =>
    cases hp
    · go_wp2_with fail
      go_meet
      case rel => exact ⟨_, rfl, rfl, rfl⟩
    · have k1 := IB.out.cell 1 (.bool po) rfl
      go_upto_if 12 with fail
      clear k1
      go_cut [4] from 5 (fun s4 wx => ∃ x, x = b1 po ph od ra ∧ s4 = .int .i64 x ∧ W1 = wx)
      case first =>
        have k2 := IB.out.cell 2 (.int .i32 od) rfl
        have k3 := IB.out.cell 3 (.bool ph) rfl
        have k5 := IB.out.cell 5 (.int .i32 ra) rfl
        have r1 : IntKind.i64.wrap od = od := by rw [IntKind.wrap_i64]; omega
        have r2 : IntKind.i64.wrap ra = ra := by rw [IntKind.wrap_i64]; omega
        cases po
        · cases ph
          · go_wp2_with fail
            go_meet
            case rel => exact ⟨_, rfl, rfl, rfl⟩
          · go_wp2_with (go_at_call 5; refine (min_any _ _ _).mono ?_; rintro e W2 ⟨rfl, hw2⟩; have hw2' := hw2.symm; subst hw2')
            go_meet
            case rel => exact ⟨_, rfl, rfl, rfl⟩
        · go_wp2_with (go_at_call 5; refine (min_any _ _ _).mono ?_; rintro e W2 ⟨rfl, hw2⟩; have hw2' := hw2.symm; subst hw2')
          go_meet
          case rel => exact ⟨_, rfl, rfl, rfl⟩
      case rest =>
        obtain ⟨x1, hx1, e4, ew⟩ := hcut
        subst e4
        subst ew
        have X1 : Hid (x1 = b1 po ph od ra) := hx1
        clear hx1
        have k3 := IB.out.cell 3 (.bool ph) rfl
        go_upto_if 26 with fail
        clear k3
        go_cut [4] from 5 (fun s4 wx => ∃ x, x = b2 ph x1 pe ∧ s4 = .int .i64 x ∧ W1 = wx)
        case first =>
          have k6 := IB.out.cell 6 (.int .i32 pe) rfl
          have r3 : IntKind.i64.wrap pe = pe := by rw [IntKind.wrap_i64]; omega
          cases ph
          · go_wp2_with fail
            go_meet
            case rel => exact ⟨_, rfl, rfl, rfl⟩
          · go_wp2_with (go_at_call 5; refine (min_any _ _ _).mono ?_; rintro e W2 ⟨rfl, hw2⟩; have hw2' := hw2.symm; subst hw2')
            go_meet
            case rel => exact ⟨_, rfl, rfl, rfl⟩
        case rest =>
          obtain ⟨x2, hx2, e4, ew⟩ := hcut
          subst e4
          subst ew
          have X2 : Hid (x2 = b2 ph x1 pe) := hx2
          clear hx2
          have k7 := IB.out.cell 7 (.int .u8 spk) rfl
          have k3 := IB.out.cell 3 (.bool ph) rfl
          have hsm : spk.tmod 4 = spk % 4 := Int.tmod_eq_emod_of_nonneg bspk.1
          go_upto_if 36 with fail
          clear k3
          go_cut [5] from 5 (fun s5 wx => ∃ s, s = (if ph then hpr % 4 else spk % 4) ∧ s5 = .int .u8 s ∧ W1 = wx)
          case first =>
            have k4 := IB.out.cell 4 (.int .u8 hpr) rfl
            have hsm2 : hpr.tmod 4 = hpr % 4 := Int.tmod_eq_emod_of_nonneg bhpr.1
            cases ph
            · go_wp2_with fail
              go_meet
              case rel => exact ⟨_, rfl, rfl, rfl⟩
            · go_wp2_with fail
              go_meet
              case rel => exact ⟨_, rfl, rfl, rfl⟩
          case rest =>
            obtain ⟨s, hs, e5, ew⟩ := hcut
            subst e5
            subst ew
            have HS : Hid (s = (if ph then hpr % 4 else spk % 4)) := hs
            clear hs hsm k7
            have hall : Hid (bB true hi (if ph then hpr % 4 else spk % 4) (b2 ph (b1 po ph od ra) pe) bg = bB true hi s x2 bg) := by
              rw [X2.out, X1.out, HS.out]
              exact rfl
            have k8 := IB.out.cell 8 (.int .i32 bg) rfl
            have k9 := IB.out.cell 9 (.bool hi) rfl
            have r4 : IntKind.i64.wrap bg = bg := by rw [IntKind.wrap_i64]; omega
            have r5 : IntKind.i64.wrap (bg + 3) = bg + 3 := by rw [IntKind.wrap_i64]; omega
            cases hi
            · by_cases hz : s = 0
              · have hzb : (s == 0) = true := by simpa using hz
                have HZ : Hid (s = 0) := hz
                clear hz
                go_wp2_with (go_at_call 5; refine (min_any _ _ _).mono ?_; rintro e W2 ⟨rfl, hw2⟩; have hw2' := hw2.symm; subst hw2')
                go_meet
                case rel => exact ⟨_, hall.out.symm, by simp [bB, hzb], rfl⟩
              · have hzb : (s == 0) = false := by simpa using hz
                have HZ : Hid (¬ s = 0) := hz
                clear hz
                go_wp2_with fail
                go_meet
                case rel => exact ⟨_, hall.out.symm, by simp [bB, hzb], rfl⟩
            · go_wp2_with fail
              go_meet
              case rel => exact ⟨_, hall.out.symm, by simp [bB], rfl⟩
  case rest =>
    obtain ⟨x, hx, e4, ew⟩ := hcut
    subst e4
    subst ew
    have HX : Hid (x = bB hp hi (if ph then hpr % 4 else spk % 4) (b2 ph (b1 po ph od ra) pe) bg) := hx
    clear hx
    rw [← HX.out] at HE HD
    have k9 := IB.out.cell 9 (.bool hi) rfl
    go_upto_if 54 with fail
    clear k9
    go_cut [4] from 5 (fun s4 wx => ∃ y, y = bF hi io is ih x idu ie ∧ s4 = .int .i64 y ∧ W1 = wx)
    case first =>
      cases hi
      · go_wp2_with fail
        go_meet
        case rel => exact ⟨_, rfl, rfl, rfl⟩
      · have k10 := IB.out.cell 10 (.bool io) rfl
        have k11 := IB.out.cell 11 (.bool is) rfl
        go_upto_region 16 with fail
        go_cut [62] from 5 (fun s62 wx => ∃ t, t = (!io || !is) ∧ s62 = .bool t ∧ W1 = wx)
        case first =>
          cases io
          · go_wp2_with fail
            go_meet
            case rel => exact ⟨_, rfl, rfl, rfl⟩
          · cases is
            · go_wp2_with fail
              go_meet
              case rel => exact ⟨_, rfl, rfl, rfl⟩
            · go_wp2_with fail
              go_meet
              case rel => exact ⟨_, rfl, rfl, rfl⟩
        case rest =>
          clear k10 k11
          obtain ⟨t, ht, e62, ew⟩ := hcut
          subst e62
          subst ew
          have HTT : Hid (t = (!io || !is)) := ht
          clear ht
          go_upto_if 62 with fail
          go_cut [4] from 5 (fun s4 wx => ∃ y, y = c1 io is x idu ∧ s4 = .int .i64 y ∧ W1 = wx)
          case first =>
            have k12 := IB.out.cell 12 (.int .i32 idu) rfl
            have r6 : IntKind.i64.wrap idu = idu := by rw [IntKind.wrap_i64]; omega
            cases t
            · have hc : Hid (c1 io is x idu = x) := by unfold c1; rw [← HTT.out]; exact rfl
              go_wp2_with fail
              go_meet
              case rel => exact ⟨_, hc.out.symm, rfl, rfl⟩
            · have hc : Hid (c1 io is x idu = zmin x idu) := by unfold c1; rw [← HTT.out]; exact rfl
              go_wp2_with (go_at_call 5; refine (min_any _ _ _).mono ?_; rintro e W2 ⟨rfl, hw2⟩; have hw2' := hw2.symm; subst hw2')
              go_meet
              case rel => exact ⟨_, hc.out.symm, rfl, rfl⟩
          case rest =>
            obtain ⟨y, hy, e4, ew⟩ := hcut
            subst e4
            subst ew
            have HY : Hid (y = c1 io is x idu) := hy
            clear hy
            have k13 := IB.out.cell 13 (.bool ih) rfl
            have k14 := IB.out.cell 14 (.int .i32 ie) rfl
            have r7 : IntKind.i64.wrap ie = ie := by rw [IntKind.wrap_i64]; omega
            have hall : Hid (bF true io is ih x idu ie = b2 ih y ie) := by rw [HY.out]; exact rfl
            cases ih
            · go_wp2_with fail
              go_meet
              case rel => exact ⟨_, hall.out.symm, rfl, rfl⟩
            · go_wp2_with (go_at_call 5; refine (min_any _ _ _).mono ?_; rintro e W2 ⟨rfl, hw2⟩; have hw2' := hw2.symm; subst hw2')
              go_meet
              case rel => exact ⟨_, hall.out.symm, rfl, rfl⟩
    case rest =>
      obtain ⟨y, hy, e4, ew⟩ := hcut
      subst e4
      subst ew
      rw [← hy] at HE HD
      clear hy HX IB
      have hM := mwake_any mb hp po ph hi io is ih od (hpr % 4) ra pe (spk % 4) bg idu ie W1 HM.out.1 HM.out.2.1 HM.out.2.2 (by omega) (by omega)
      rw [HE.out] at hM
      have HMC : Hid (Calls Yba.prog 6 #[.pointer (some ⟨mb, 0, none⟩)] W1 fun e w' => e = .returned (.agg #[.int .u64 0, .int .i64 y, .pointer none]) ∧ Below W1.heap.size W1 w') := hM
      clear hM HM HE
      by_cases hy0 : y = 0
      · have hyb : (y == 0) = true := by simpa using hy0
        have HY0 : Hid (y = 0) := hy0
        clear hy0
        go_wp2_with (go_at_call 6; refine HMC.out.mono ?_; rintro e W2 ⟨rfl, hb2⟩; have HB2 : Hid (Below W1.heap.size W1 W2) := hb2; clear hb2)
        refine (isZero_any y _).mono ?_
        rintro e W3 ⟨rfl, hb3⟩
        rw [hyb]
        have HR : Hid (Below w.heap.size w W3) := ((bel.out.trans (HB2.out.mono bel.out.size)).alloc (Nat.le_trans bel.out.size HB2.out.size) _).trans (hb3.mono (by simp; exact Nat.le_trans (Nat.le_trans bel.out.size HB2.out.size) (Nat.le_succ _)))
        clear hb3
        go_wp2_with fail
        exact bodyPost_ret (v := .bool true) (by simp [results, Yba.results3, go_sem]) rfl ⟨rfl, HR.out⟩
      · have hyb : (y == 0) = false := by simpa using hy0
        have HY0 : Hid (¬ y = 0) := hy0
        clear hy0
        go_wp2_with (go_at_call 6; refine HMC.out.mono ?_; rintro e W2 ⟨rfl, hb2⟩; have HB2 : Hid (Below W1.heap.size W1 W2) := hb2; clear hb2)
        obtain ⟨WB, hWB⟩ : ∃ WB, WB = W2.alloc (.cells #[.int .u64 0, .int .i64 y, .pointer none] 30) := ⟨_, rfl⟩
        obtain ⟨bb, hbb⟩ : ∃ bb, bb = W2.heap.size := ⟨_, rfl⟩
        rw [← hWB, ← hbb]
        have HT : Hid (TBox WB bb y) := by rw [hWB, hbb]; exact TBox.new _ _
        have HBB : Hid (Below w.heap.size w WB) := by rw [hWB]; exact (bel.out.trans (HB2.out.mono bel.out.size)).alloc (Nat.le_trans bel.out.size HB2.out.size) _
        clear hWB hbb
        obtain ⟨t0, t1, t2⟩ := HT.out.cells
        have hct := ct_any y WB.drew HD.out.1 HD.out.2
        have F : Hid (∀ w2, Below WB.drew.heap.size WB.drew w2 → w2.cell? ⟨bb, 0, none⟩ = some (.int .u64 0) ∧ w2.cell? ⟨bb, 1, none⟩ = some (.int .i64 y) ∧ w2.cell? ⟨bb, 2, none⟩ = some (.pointer none)) := fun w2 h => (HT.out.later (below_drew h)).cells
        go_region_with (first | (go_at_call 9; refine hct.mono ?_; rintro e w2 ⟨rfl, hb2⟩; obtain ⟨q0, q1, q2⟩ := F.out w2 hb2) | (go_at_call 8; refine (equal_same y _).mono ?_; rintro e w3 ⟨rfl, hb3⟩))
        all_goals have HR : Hid (Below w.heap.size w w3) := HBB.out.trans ((below_drew hb2).mono HBB.out.size |>.trans (hb3.mono (Nat.le_trans HBB.out.size hb2.size)))
        all_goals clear hb2 hb3 q0 q1 q2 t0 t1 t2 hct F
        all_goals go_wp2_with fail
        all_goals exact bodyPost_ret (v := .bool true) (by simp [results, Yba.results3, go_sem]) rfl ⟨rfl, HR.out⟩

end Go.Proofs.Ybulkbtsc
