/-
  zzs3512cbuild, walked: the mapper that it hands back lies in memory as the data say.
-/
import Derived.Test.YbulkbtscMem
import Derived.Deep.RegionWith
import Derived.BigRegion
import Derived.Outline
namespace Go.Proofs.Ybulkbtsc
open Go.RowKit

theorem CliG.store {w W : World} {mb cb : Nat} {g : Nat → Value} {out held : Bool} {due proto renew exp sp : Int} (h : CliG w mb cb g out held due proto renew exp sp) (hb : Below w.heap.size w W) (o : Nat) (ho : o < 31) (ob : Obj) : (W.alloc ob).cell? ⟨cb, o, none⟩ = some (g o) ∧ (W.alloc ob).frozen? ⟨cb, o, none⟩ = false := by
  have k := (h.later hb).row.alloc ob
  exact ⟨k.cell ho, k.frozen o⟩
theorem below_drew {w W : World} (hb : Below w.drew.heap.size w.drew W) : Below w.heap.size w W := ⟨hb.os, hb.tape, hb.output, hb.size, hb.block⟩

structure IgS (w P W : World) (mb : Nat) (C : Array Value) (f : Nat → Value) (bg : Int) (gb : Nat) (g : Nat → Value) (io is ih : Bool) (idu ie : Int) : Prop where
  igd : IgdG W mb gb g io is ih idu ie
  bld : Bld w W mb C f bg
  high : P.heap.size ≤ gb
  bel : Below P.heap.size P W
theorem igs_start {w P W : World} {mb : Nat} {C : Array Value} {f : Nat → Value} {bg : Int} (is : Bool) (idu ie : Int) (hB : Bld w W mb C f bg) (hP : Below P.heap.size P W) (c : Array Value) (hsz : c.size = 23) (h13 : c[13]! = .pointer none) (h20 : c[20]! = .pointer none) (hT : TFn (fun i => c[i]!) 14 idu) :
    ∃ gb g, Value.pointer (some ⟨W.heap.size, 0, none⟩) = .pointer (some ⟨gb, 0, none⟩) ∧ IgS w P (W.alloc (.cells c 73)) mb C f bg gb g false is false idu ie := by
  refine ⟨W.heap.size, fun i => c[i]!, rfl, ⟨?_, hB.row.lt, Or.inl ⟨rfl, h13⟩, Or.inl ⟨rfl, h20⟩, hT⟩, hB.later ((Below.refl _ _).alloc (Nat.le_refl _) _), hP.size, hP.alloc hP.size _⟩
  have h := row_lit W c 73
  rwa [hsz] at h
theorem igs_out {w P W : World} {mb gb : Nat} {C : Array Value} {f g : Nat → Value} {bg idu ie : Int} {is : Bool} (h : IgS w P W mb C f bg gb g false is false idu ie) (c : Array Value) (h2 : c[2]! = .bool is) (hsz : c.size = 3) :
    ∃ g, IgS w P ((W.alloc (.cells c 76)).setCell ⟨gb, 13, none⟩ (.pointer (some ⟨W.heap.size, 0, none⟩))) mb C f bg gb g true is false idu ie := by
  obtain ⟨g', h1, h3⟩ := igd_out h.igd h.bld c h2 hsz
  exact ⟨g', h1, h3, h.high, (h.bel.alloc h.bel.size _).setCell h.high _⟩
theorem IgS.later {w P W W' : World} {mb gb : Nat} {C : Array Value} {f g : Nat → Value} {bg idu ie : Int} {io is ih : Bool} (h : IgS w P W mb C f bg gb g io is ih idu ie) (hb : Below W.heap.size W W') : IgS w P W' mb C f bg gb g io is ih idu ie := by
  refine ⟨⟨h.igd.row.of_block (hb.block _ h.igd.row.lt), h.igd.lt, ?_, h.igd.held.later hb, h.igd.due⟩, h.bld.later hb, h.high, h.bel.trans (hb.mono h.bel.size)⟩
  rcases h.igd.out with h | ⟨e, xb, h1, h2, h3⟩
  · exact Or.inl h
  · exact Or.inr ⟨e, xb, h1, h2, cell_later hb h3⟩
theorem igs_held {w P W : World} {mb gb : Nat} {C : Array Value} {f g : Nat → Value} {bg idu ie : Int} {io is : Bool} (h : IgS w P W mb C f bg gb g io is false idu ie) (c : Array Value) (hT : TFn (fun i => c[i]!) 6 ie) (h0 : c[0]! = .int .u8 3) (hsz : c.size = 9) :
    ∃ g, IgS w P ((W.alloc (.cells c 67)).setCell ⟨gb, 20, none⟩ (.pointer (some ⟨W.heap.size, 0, none⟩))) mb C f bg gb g io is true idu ie := by
  obtain ⟨g', h1, h3⟩ := igd_held h.igd h.bld c hT h0 hsz
  exact ⟨g', h1, h3, h.high, (h.bel.alloc h.bel.size _).setCell h.high _⟩
theorem IgS.store {w P W W' : World} {mb gb : Nat} {C : Array Value} {f g : Nat → Value} {bg idu ie : Int} {io is ih : Bool} (h : IgS w P W mb C f bg gb g io is ih idu ie) (hb : Below W.heap.size W W') (o : Nat) (ho : o < 23) (ob : Obj) : (W'.alloc ob).cell? ⟨gb, o, none⟩ = some (g o) ∧ (W'.alloc ob).frozen? ⟨gb, o, none⟩ = false := by
  have k := (h.later hb).igd.row.alloc ob
  exact ⟨k.cell ho, k.frozen o⟩
def UpnpG (w : World) (mb : Nat) (f : Nat → Value) (hi io is ih : Bool) (idu ie : Int) : Prop :=
  (hi = false ∧ f 12 = .pointer none) ∨ (hi = true ∧ ∃ gb g, f 12 = .pointer (some ⟨gb, 0, none⟩) ∧ IgdG w mb gb g io is ih idu ie)
theorem PcpG.setM {w : World} {mb : Nat} {f : Nat → Value} {hp out held : Bool} {due proto renew exp sp : Int} (h : PcpG w mb f hp out held due proto renew exp sp) (v : Value) : PcpG (w.setCell ⟨mb, 12, none⟩ v) mb (fun j => if j = 12 then v else f j) hp out held due proto renew exp sp := by
  rcases h with ⟨e, h1⟩ | ⟨e, cb, g, h1, h2⟩
  · exact Or.inl ⟨e, h1⟩
  · exact Or.inr ⟨e, cb, g, h1, h2.kept (grown_setM _ _ _ _)⟩
theorem built {w W : World} {mb : Nat} {C : Array Value} {f : Nat → Value} {bg : Int} {hp po ph hi io is ih : Bool} {od hpr ra pe spk idu ie : Int} (hB : Bld w W mb C f bg) (hP : PcpG W mb f hp po ph od hpr ra pe spk) (hU : UpnpG W mb f hi io is ih idu ie) :
    PcpAt W mb hp po ph od hpr ra pe spk ∧ UpnpAt W mb hi io is ih idu ie ∧ TAt W mb 8 bg ∧ Below w.heap.size w W := by
  refine ⟨?_, ?_, hB.began.at hB.row (by omega), hB.bel⟩
  · rcases hP with ⟨e, h1⟩ | ⟨e, cb, g, h1, h2⟩
    · exact Or.inl ⟨e, by rw [hB.row.cell (by omega), h1]⟩
    · exact Or.inr ⟨e, cb, by rw [hB.row.cell (by omega), h1], h2.cli⟩
  · rcases hU with ⟨e, h1⟩ | ⟨e, gb, g, h1, h2⟩
    · exact Or.inl ⟨e, by rw [hB.row.cell (by omega), h1]⟩
    · exact Or.inr ⟨e, gb, by rw [hB.row.cell (by omega), h1], h2.igd⟩

set_option maxHeartbeats 4000000 in
set_option maxRecDepth 100000 in
theorem build_any (hp po : Bool) (od : Int) (ph : Bool) (hpr ra pe spk bg : Int) (hi io is : Bool) (idu : Int) (ih : Bool) (ie : Int) (w : World)
    (bod : -2147483648 ≤ od ∧ od ≤ 2147483647) (bra : -2147483648 ≤ ra ∧ ra ≤ 2147483647) (bpe : -2147483648 ≤ pe ∧ pe ≤ 2147483647) (bbg : -2147483648 ≤ bg ∧ bg ≤ 2147483647)
    (bidu : -2147483648 ≤ idu ∧ idu ≤ 2147483647) (bie : -2147483648 ≤ ie ∧ ie ≤ 2147483647) (bhpr : 0 ≤ hpr ∧ hpr ≤ 255) (bspk : 0 ≤ spk ∧ spk ≤ 255) :
    Calls Yba.prog 4 #[.agg #[.bool hp, .bool po, .int .i32 od, .bool ph, .int .u8 hpr, .int .i32 ra, .int .i32 pe, .int .u8 spk, .int .i32 bg, .bool hi, .bool io, .bool is, .int .i32 idu, .bool ih, .int .i32 ie]] w fun e w' =>
      ∃ mb, e = .returned (.pointer (some ⟨mb, 0, none⟩)) ∧ PcpAt w' mb hp po ph od (hpr % 4) ra pe (spk % 4) ∧ UpnpAt w' mb hi io is ih idu ie ∧ TAt w' mb 8 bg ∧ Below w.heap.size w w' := by
  go_enter Yba.func4, Yba.ntmps4
  go_wp2_with fail
  refine (ct_any bg _ (by omega) (by omega)).mono ?_
  rintro e W1 ⟨rfl, hb1⟩
  have IB1 : Hid (Blk W1 w.heap.size (inCells hp po od ph hpr ra pe spk bg hi io is idu ih ie) 23) := (Blk.new w _ 23).later hb1
  have bel1 : Hid (Below w.heap.size w W1) := ((Below.refl _ w).alloc (Nat.le_refl _) _).trans (hb1.mono (by simp))
  have hs1 : w.heap.size < W1.heap.size := IB1.out.lt
  clear hb1
  have c0' : ∀ o, (W1.alloc o).cell? ⟨w.heap.size, 0, none⟩ = some (.bool hp) := fun o => (IB1.out.later ((Below.refl _ _).alloc (Nat.le_refl _) o)).cell 0 (.bool hp) rfl
  go_upto_if 13 with fail
  obtain ⟨WA, hWA⟩ : ∃ WA, WA = W1.alloc (.cells #[.int .u16 0, .int .u64 0, .int .u64 0, .pointer none, .int .u64 0, .int .u64 0, .pointer none, .pointer none, .int .u64 0, .int .i64 bg, .pointer none, .bool false, .pointer none] 47) := ⟨_, rfl⟩
  obtain ⟨mb, hmb⟩ : ∃ mb, mb = W1.heap.size := ⟨_, rfl⟩
  rw [← hWA, ← hmb]
  have BA : Hid (∃ f, Bld w WA mb (inCells hp po od ph hpr ra pe spk bg hi io is idu ih ie) f bg ∧ f 12 = .pointer none ∧ f 7 = .pointer none) := by
    rw [hWA, hmb]
    exact bld_start w W1 _ bg IB1.out bel1.out
  clear hWA hmb c0' IB1 bel1 hs1
  obtain ⟨C, hC⟩ : ∃ C, C = inCells hp po od ph hpr ra pe spk bg hi io is idu ih ie := ⟨_, rfl⟩
  rw [← hC] at BA
  have HC : Hid (C = inCells hp po od ph hpr ra pe spk bg hi io is idu ih ie) := hC
  clear hC
  obtain ⟨f, hB, hf12, hf7⟩ := BA.out
  have HB : Hid (Bld w WA mb C f bg) := hB
  have HF : Hid (f 12 = .pointer none ∧ f 7 = .pointer none) := ⟨hf12, hf7⟩
  clear BA hB hf12 hf7
  go_cut [4] from 14 (fun s4 wc => ∃ f, Bld w wc mb C f bg ∧ f 12 = .pointer none ∧ PcpG wc mb f hp po ph od (hpr % 4) ra pe (spk % 4))
  case first =>
    cases hp
    · go_wp2_with fail
      go_meet
      case rel => exact ⟨f, HB.out, HF.out.1, Or.inl ⟨rfl, HF.out.2⟩⟩
    · go_upto_region 3 with fail
      go_cut [4] from 14 (fun s4 wx => ∃ cb g, s4 = .pointer (some ⟨cb, 0, none⟩) ∧ CliG wx mb cb g false false od (hpr % 4) ra pe (spk % 4) ∧ Bld w wx mb C f bg)
      case first =>
        have c5 := HB.out.inb.cell 5 (.int .i32 ra) (by rw [HC.out]; rfl)
        have c7 := HB.out.inb.cell 7 (.int .u8 spk) (by rw [HC.out]; rfl)
        have hwr : IntKind.i64.wrap ra = ra := by rw [IntKind.wrap_i64]; omega
        have hsm : spk.tmod 4 = spk % 4 := Int.tmod_eq_emod_of_nonneg bspk.1
        have hct := ct_any ra WA.drew (by omega) (by omega)
        have F7 : Hid (∀ w2, Below WA.drew.heap.size WA.drew w2 → w2.cell? ⟨w.heap.size, 7, none⟩ = some (.int .u8 spk)) := fun w2 h => cell_later (w := WA.drew) h c7
        go_region_with (go_at_call 9; refine hct.mono ?_; rintro e w2 ⟨rfl, hb2⟩; have q7 := F7.out w2 hb2)
        all_goals clear hwr hsm c5 c7 q7 hct F7
        all_goals go_wp2_with fail
        all_goals go_meet
        all_goals exact cli_start od (hpr % 4) ra pe (spk % 4) (HB.out.later ⟨hb2.os, hb2.tape, hb2.output, hb2.size, hb2.block⟩) _ rfl rfl rfl ⟨rfl, rfl, rfl⟩ rfl
      case rest =>
        clear HB
        obtain ⟨cb, g, e4, hG, hB⟩ := hcut
        subst e4
        have HG : Hid (CliG wc mb cb g false false od (hpr % 4) ra pe (spk % 4)) := hG
        have HB : Hid (Bld w wc mb C f bg) := hB
        clear hG hB
        have c1 := HB.out.inb.cell 1 (.bool po) (by rw [HC.out]; rfl)
        go_upto_if 24 with fail
        clear c1
        go_cut [] from 14 (fun wx => ∃ g, CliG wx mb cb g po false od (hpr % 4) ra pe (spk % 4) ∧ Bld w wx mb C f bg)
        case first =>
          cases po
          · go_wp2_with fail
            go_meet
            case rel => exact ⟨g, HG.out, HB.out⟩
          · have c2 := HB.out.inb.cell 2 (.int .i32 od) (by rw [HC.out]; rfl)
            have hwr : IntKind.i64.wrap od = od := by rw [IntKind.wrap_i64]; omega
            go_wp2_with (go_at_call 9; refine (ct_any od wc (by omega) (by omega)).mono ?_; rintro e W2 ⟨rfl, hb2⟩; have q1 := fun ob => (HG.out.store hb2 23 (by omega) ob).1; have q2 := fun ob => (HG.out.store hb2 23 (by omega) ob).2)
            all_goals go_meet
            all_goals exact cli_out (HG.out.later hb2) (HB.out.later hb2) _ ⟨rfl, rfl, rfl⟩ rfl
        case rest =>
          clear HG HB
          obtain ⟨g1, hG, hB⟩ := hcut
          have HG : Hid (CliG wc mb cb g1 po false od (hpr % 4) ra pe (spk % 4)) := hG
          have HB : Hid (Bld w wc mb C f bg) := hB
          clear hG hB
          have c3 := HB.out.inb.cell 3 (.bool ph) (by rw [HC.out]; rfl)
          go_upto_if 35 with fail
          clear c3
          go_cut [] from 14 (fun wx => ∃ g, CliG wx mb cb g po ph od (hpr % 4) ra pe (spk % 4) ∧ Bld w wx mb C f bg)
          case first =>
            cases ph
            · go_wp2_with fail
              go_meet
              case rel => exact ⟨g1, HG.out, HB.out⟩
            · have c6 := HB.out.inb.cell 6 (.int .i32 pe) (by rw [HC.out]; rfl)
              have c4 := HB.out.inb.cell 4 (.int .u8 hpr) (by rw [HC.out]; rfl)
              have hwr : IntKind.i64.wrap pe = pe := by rw [IntKind.wrap_i64]; omega
              have hsm : hpr.tmod 4 = hpr % 4 := Int.tmod_eq_emod_of_nonneg bhpr.1
              have hct := ct_any pe wc.drew (by omega) (by omega)
              have F4 : Hid (∀ w2, Below wc.drew.heap.size wc.drew w2 → w2.cell? ⟨w.heap.size, 4, none⟩ = some (.int .u8 hpr)) := fun w2 h => cell_later (w := wc.drew) h c4
              go_wp2_with fail
              go_region_with (go_at_call 9; refine hct.mono ?_; rintro e w2 ⟨rfl, hb2⟩; have q4 := F4.out w2 hb2; have q1 := fun ob => (HG.out.store (below_drew hb2) 16 (by omega) ob).1; have q2 := fun ob => (HG.out.store (below_drew hb2) 16 (by omega) ob).2)
              all_goals clear hwr hsm c4 c6 q4 hct F4
              all_goals go_wp2_with fail
              all_goals go_meet
              all_goals exact cli_held (HG.out.later (below_drew hb2)) (HB.out.later (below_drew hb2)) _ ⟨rfl, rfl, rfl⟩ rfl rfl
          case rest =>
            clear HG HB
            obtain ⟨g2, hG, hB⟩ := hcut
            have HG : Hid (CliG wc mb cb g2 po ph od (hpr % 4) ra pe (spk % 4)) := hG
            have HB : Hid (Bld w wc mb C f bg) := hB
            clear hG hB
            have q1 := HB.out.row.cell (i := 7) (by omega)
            have q2 := HB.out.row.frozen 7
            go_wp2_with fail
            go_meet
            case rel => exact ⟨_, HB.out.setM (Or.inl (by omega)) _, HF.out.1, Or.inr ⟨rfl, cb, g2, rfl, HG.out.kept (grown_setM _ _ _ _)⟩⟩
  case rest =>
    clear HB HF
    obtain ⟨P, hP0⟩ : ∃ P, P = wc := ⟨_, rfl⟩
    rw [← hP0]
    rw [← hP0] at hcut
    clear hP0 wc
    obtain ⟨f1, hB, h12, hP⟩ := hcut
    have HB : Hid (Bld w P mb C f1 bg) := hB
    have HF : Hid (f1 12 = .pointer none) := h12
    have HP : Hid (PcpG P mb f1 hp po ph od (hpr % 4) ra pe (spk % 4)) := hP
    clear hB h12 hP
    have c9 := HB.out.inb.cell 9 (.bool hi) (by rw [HC.out]; rfl)
    go_upto_if 54 with fail
    clear c9
    go_cut [5] from 14 (fun s5 wx => ∃ f, Bld w wx mb C f bg ∧ PcpG wx mb f hp po ph od (hpr % 4) ra pe (spk % 4) ∧ UpnpG wx mb f hi io is ih idu ie)
    case first =>
      cases hi
      · go_wp2_with fail
        go_meet
        case rel => exact ⟨f1, HB.out, HP.out, Or.inl ⟨rfl, HF.out⟩⟩
      · go_upto_region 10 with fail
        go_cut [5] from 14 (fun s5 wx => ∃ gb g, s5 = .pointer (some ⟨gb, 0, none⟩) ∧ IgS w P wx mb C f1 bg gb g false is false idu ie)
        case first =>
          have c12 := HB.out.inb.cell 12 (.int .i32 idu) (by rw [HC.out]; rfl)
          have hwr : IntKind.i64.wrap idu = idu := by rw [IntKind.wrap_i64]; omega
          go_wp2_with (go_at_call 9; refine (ct_any idu P (by omega) (by omega)).mono ?_; rintro e W2 ⟨rfl, hb2⟩)
          all_goals go_meet
          all_goals exact igs_start is idu ie (HB.out.later hb2) hb2 _ rfl rfl rfl ⟨rfl, rfl, rfl⟩
        case rest =>
          clear HB
          obtain ⟨gb, g, e5, hI⟩ := hcut
          subst e5
          have HI : Hid (IgS w P wc mb C f1 bg gb g false is false idu ie) := hI
          clear hI
          have c10 := HI.out.bld.inb.cell 10 (.bool io) (by rw [HC.out]; rfl)
          go_upto_if 62 with fail
          clear c10
          go_cut [] from 14 (fun wx => ∃ g, IgS w P wx mb C f1 bg gb g io is false idu ie)
          case first =>
            cases io
            · go_wp2_with fail
              go_meet
              case rel => exact ⟨g, HI.out⟩
            · have c11 := HI.out.bld.inb.cell 11 (.bool is) (by rw [HC.out]; rfl)
              have q1 := fun ob => (HI.out.store (Below.refl _ _) 13 (by omega) ob).1
              have q2 := fun ob => (HI.out.store (Below.refl _ _) 13 (by omega) ob).2
              go_wp2_with fail
              all_goals go_meet
              all_goals exact igs_out HI.out _ rfl rfl
          case rest =>
            clear HI
            obtain ⟨g1, hI⟩ := hcut
            have HI : Hid (IgS w P wc mb C f1 bg gb g1 io is false idu ie) := hI
            clear hI
            have c13 := HI.out.bld.inb.cell 13 (.bool ih) (by rw [HC.out]; rfl)
            go_upto_if 71 with fail
            clear c13
            go_cut [] from 14 (fun wx => ∃ g, IgS w P wx mb C f1 bg gb g io is ih idu ie)
            case first =>
              cases ih
              · go_wp2_with fail
                go_meet
                case rel => exact ⟨g1, HI.out⟩
              · have c14 := HI.out.bld.inb.cell 14 (.int .i32 ie) (by rw [HC.out]; rfl)
                have hwr : IntKind.i64.wrap ie = ie := by rw [IntKind.wrap_i64]; omega
                go_wp2_with (go_at_call 9; refine (ct_any ie wc (by omega) (by omega)).mono ?_; rintro e W2 ⟨rfl, hb2⟩; have q1 := fun ob => (HI.out.store hb2 20 (by omega) ob).1; have q2 := fun ob => (HI.out.store hb2 20 (by omega) ob).2)
                all_goals go_meet
                all_goals exact igs_held (HI.out.later hb2) _ ⟨rfl, rfl, rfl⟩ rfl rfl
            case rest =>
              clear HI
              obtain ⟨g2, hI⟩ := hcut
              have HI : Hid (IgS w P wc mb C f1 bg gb g2 io is ih idu ie) := hI
              clear hI
              have q1 := HI.out.bld.row.cell (i := 12) (by omega)
              have q2 := HI.out.bld.row.frozen 12
              go_wp2_with fail
              go_meet
              case rel => exact ⟨_, HI.out.bld.setM (Or.inr (by omega)) _, (HP.out.later HI.out.bel).setM _, Or.inr ⟨rfl, gb, g2, rfl, HI.out.igd.kept (grown_setM _ _ _ _)⟩⟩
    case rest =>
      obtain ⟨f2, hB, hP, hU⟩ := hcut
      have HR : Hid (PcpAt wc mb hp po ph od (hpr % 4) ra pe (spk % 4) ∧ UpnpAt wc mb hi io is ih idu ie ∧ TAt wc mb 8 bg ∧ Below w.heap.size w wc) := built hB hP hU
      clear hB hP hU HB HP HF HC
      go_wp2_with fail
      refine bodyPost_ret (v := .pointer (some ⟨mb, 0, none⟩)) (by simp [results, Yba.results4, go_sem]) rfl ⟨mb, rfl, HR.out⟩

end Go.Proofs.Ybulkbtsc
