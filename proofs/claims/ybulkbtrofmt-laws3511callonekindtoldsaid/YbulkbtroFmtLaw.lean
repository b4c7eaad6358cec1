/-
  THE LAW's OWN WALK: marginwise.LawS3511CAllOneKind returns true at every input, and writes nothing that was there.
-/
import Derived.Test.YbulkbtroFmtMem
import Derived.Deep.Cut
import Derived.Deep.RegionWith
import Derived.BigRegion
namespace Go.Proofs.YbulkbtroFmt
open Go.RowKit

/-- A slice of ints that came in: its first n elements are ints. -/
def I64At (w : World) (a : Option Addr) (n : Nat) : Prop := ∀ i, i < n → ∃ b o x, a = some ⟨b, o, none⟩ ∧ w.cell? ⟨b, o + i, none⟩ = some (.int .i64 x)
theorem I64At.later {w w' : World} {a : Option Addr} {n : Nat} (h : I64At w a n) (hb : Below w.heap.size w w') : I64At w' a n := by
  intro i hi
  obtain ⟨b, o, x, e, h1⟩ := h i hi
  exact ⟨b, o, x, e, (hb.cell (block_lt h1)).trans h1⟩

/-- The positions as they lie when the first 'if' is behind: none, or a row of the call's own. -/
def PosOK (w : World) (A : Nat) (pa : Option Addr) (n : Nat) (K : Nat → Int) : Prop := n = 0 ∨ ∃ b, pa = some ⟨b, 0, none⟩ ∧ A < b ∧ PosRow w b n n K

def OrdOK (w : World) (A : Nat) (oa : Option Addr) (m : Nat) (K : Nat → Int) : Prop := m = 0 ∨ ∃ b, oa = some ⟨b, 0, none⟩ ∧ A < b ∧ OrdRow w b m m K
theorem PosOK.kept {w w' : World} {A : Nat} {pa : Option Addr} {n : Nat} {K : Nat → Int} (h : PosOK w A pa n K) (e : ∀ b, A < b → b < w.heap.size → w'.heap[b]? = w.heap[b]?) : PosOK w' A pa n K := by
  rcases h with h | ⟨b, rfl, hb, hr⟩
  · exact Or.inl h
  · exact Or.inr ⟨b, rfl, hb, hr.of_block (e b hb hr.lt)⟩

theorem acct_of {w : World} {A : Nat} {pa oa : Option Addr} {n m : Nat} {K : Nat → Int} (h1 : PosOK w A pa n K) (h2 : OrdOK w A oa m (fun j => K (n + j))) : Acct w pa oa n m K := by
  refine ⟨fun i hi => ?_, fun j hj => ?_⟩
  · rcases h1 with h | ⟨b, rfl, _, hr⟩
    · omega
    · have h3 := hr.at i hi
      rw [if_pos hi] at h3
      exact ⟨b, rfl, h3, hr.num i hi⟩
  · rcases h2 with h | ⟨b, rfl, _, hr⟩
    · omega
    · have h3 := hr.at j hj
      rw [if_pos hj] at h3
      exact ⟨b, rfl, h3⟩

set_option maxHeartbeats 4000000 in
set_option maxRecDepth 100000 in
theorem law_any (n c0 l c1 m c2 : Nat) (a0 a1 a2 : Option Addr) (f g : Nat → Int) (w : World) (h0 : U8At w a0 n f) (h1 : I64At w a1 l) (h2 : U8At w a2 m g) (hl : l ≤ 9223372036854775807) :
    Calls Ybaf.prog 3 #[.slice a0 n c0, .slice a1 l c1, .slice a2 m c2] w fun e w' => e = .returned (.bool true) ∧ Below w.heap.size w w' := by
  by_cases hA : 1024 < n
  · go_enter Ybaf.func3, Ybaf.ntmps3
    go_wp2
    go_ret
    exact ⟨rfl, Below.refl _ _⟩
  by_cases hB : 1024 < m
  · go_enter Ybaf.func3, Ybaf.ntmps3
    go_wp2
    go_ret
    exact ⟨rfl, Below.refl _ _⟩
  have H0 : Hid (U8At w a0 n f) := h0
  have H1 : Hid (I64At w a1 l) := h1
  have H2 : Hid (U8At w a2 m g) := h2
  clear h0 h1 h2
  have hmp := make_rows 28 40 31 n zc40 Ybaf.underlying28 info40 (by omega)
  have hmo := make_rows 29 44 23 m zc44 Ybaf.underlying29 info44 (by omega)
  go_enter Ybaf.func3, Ybaf.ntmps3
  go_upto_if 23 with fail
  obtain ⟨A, hAe⟩ : ∃ A, A = w.heap.size := ⟨_, rfl⟩
  have HAE : Hid (A = w.heap.size) := hAe
  go_cut [8] from 23 (fun s8 wc => ∃ (pa : Option Addr) (pc : Nat), Box wc w.heap.size (.slice pa n pc) (.slice none 0 0) ∧ PosOK wc w.heap.size pa n (kk f g n) ∧ Below w.heap.size w wc)
  case first =>
    by_cases hn0 : 0 < n
    · go_wp2
      rw [decide_eq_true hn0]
      go_loopw [8] (fun t wr => ∃ k : Nat, k ≤ n ∧ t = .int .i64 k ∧ Box wr w.heap.size (.slice (some ⟨w.heap.size + 1, 0, none⟩) n n) (.slice none 0 0) ∧ PosRow wr (w.heap.size + 1) n k (kk f g n) ∧ Below w.heap.size w wr) (fun t _ => n - (intOf t).toNat)
      case atStart =>
        refine ⟨0, Nat.zero_le _, rfl, ?_, ?_, ?_⟩
        · exact (Box.new w _ _).alloc _
        · have h := PosRow.made (w.alloc (.cells #[.int .i64 0, .int .i64 0, .pointer none, .int .i64 0, .slice (some ⟨w.heap.size + 1, 0, none⟩) n n, .slice none 0 0] 31)) n (kk f g n)
          simpa using h
        · exact ((Below.refl _ _).alloc (Nat.le_refl _) _).alloc (by simp) _
      case round =>
        obtain ⟨k, hk, rfl, hbox, hrow, hbel⟩ := hrel
        by_cases hlt : k < n
        · obtain ⟨b, o, rfl, hcell, hf0, hf1⟩ := H0.out.later hbel k hlt
          have HKk : Hid (kk f g n k = f k % 3 - 1) := kk_pos hlt
          obtain ⟨d, hd⟩ : ∃ d, f k = d := ⟨_, rfl⟩
          rw [hd] at hcell hf0 hf1 HKk
          clear hd
          have cA := hbox.cells.2.2.2.2.1
          have cP := hrow.at k hlt
          rw [if_neg (by omega)] at cP
          have fP := hrow.frozen (k * 31)
          have HBOX : Hid (Box wr w.heap.size (.slice (some ⟨w.heap.size + 1, 0, none⟩) n n) (.slice none 0 0)) := hbox
          have HROW : Hid (PosRow wr (w.heap.size + 1) n k (kk f g n)) := hrow
          clear hbox hrow
          go_wp2_with fail
          go_region
          obtain ⟨wa, hwa⟩ : ∃ wa, wa = (wr.setCell ⟨w.heap.size + 1, k * 31, none⟩ (.int .i64 (d % 3 - 1))).drew := ⟨_, rfl⟩
          rw [← hwa]
          have hbox : Box wa w.heap.size (.slice (some ⟨w.heap.size + 1, 0, none⟩) n n) (.slice none 0 0) := by rw [hwa]; exact HBOX.out.of_block (blk_set (by show w.heap.size ≠ w.heap.size + 1; omega))
          have hrow : PosRow wa (w.heap.size + 1) n (k + 1) (kk f g n) := by rw [hwa]; exact HROW.out.setKind HKk.out
          have hbel2 : Below w.heap.size w wa := by rw [hwa]; exact (hbel.setCell (by show w.heap.size ≤ w.heap.size + 1; omega) _).drew
          clear hwa HBOX HROW hbel cA cP fP hcell
          by_cases hkl : k < l
          · obtain ⟨b1, o1, x1, rfl, hc1⟩ := H1.out.later hbel2 k hkl
            have cA := hbox.cells.2.2.2.2.1
            obtain ⟨x2, cN⟩ := hrow.num k hlt
            have fN := hrow.frozen (k * 31 + 30)
            have HBOX : Hid (Box wa w.heap.size (.slice (some ⟨w.heap.size + 1, 0, none⟩) n n) (.slice none 0 0)) := hbox
            have HROW : Hid (PosRow wa (w.heap.size + 1) n (k + 1) (kk f g n)) := hrow
            clear hbox hrow
            go_wp2_with fail
            go_region
            go_wp2
            go_roundw
            case rel =>
              have hb2 : Box (wa.setCell ⟨w.heap.size + 1, k * 31 + 30, none⟩ (.int .i64 x1)) w.heap.size (.slice (some ⟨w.heap.size + 1, 0, none⟩) n n) (.slice none 0 0) := HBOX.out.of_block (blk_set (by show w.heap.size ≠ w.heap.size + 1; omega))
              exact ⟨k + 1, by omega, by go_num, hb2, HROW.out.setNum k x1, (hbel2.setCell (by show w.heap.size ≤ w.heap.size + 1; omega) _).drew⟩
            case measure => simp [intOf]; omega
          · have HBOX : Hid (Box wa w.heap.size (.slice (some ⟨w.heap.size + 1, 0, none⟩) n n) (.slice none 0 0)) := hbox
            have HROW : Hid (PosRow wa (w.heap.size + 1) n (k + 1) (kk f g n)) := hrow
            clear hbox hrow
            go_wp2
            go_roundw
            case rel => exact ⟨k + 1, by omega, by go_num, HBOX.out, HROW.out, hbel2⟩
            case measure => simp [intOf]; omega
        · obtain rfl : k = n := by omega
          go_wp2
          go_meet
          case rel => exact ⟨_, _, hbox, Or.inr ⟨_, rfl, Nat.lt_succ_self _, hrow⟩, hbel⟩
    · go_wp2
      go_meet
      case rel => exact ⟨_, _, (by obtain rfl : n = 0 := by omega
                                   exact Box.new w _ _), Or.inl (by omega), (Below.refl _ _).alloc (Nat.le_refl _) _⟩
  case rest =>
    obtain ⟨pa, pc, hbox, hpos, hbel⟩ := hcut
    have HPOS : Hid (PosOK wc w.heap.size pa n (kk f g n)) := hpos
    have HBOX : Hid (Box wc w.heap.size (.slice pa n pc) (.slice none 0 0)) := hbox
    clear hpos hbox
    go_upto_if 62 with fail
    go_cut [9] from 62 (fun s9 wd => ∃ (oa : Option Addr) (oc : Nat), Box wd w.heap.size (.slice pa n pc) (.slice oa m oc) ∧ PosOK wd w.heap.size pa n (kk f g n) ∧ OrdOK wd w.heap.size oa m (fun j => kk f g n (n + j)) ∧ Below w.heap.size w wd)
    case first =>
      by_cases hm0 : 0 < m
      · have lA := HBOX.out.lt
        have cA : ∀ o, (wc.alloc o).cell? ⟨w.heap.size, 5, none⟩ = some (.slice none 0 0) := fun o => (HBOX.out.alloc o).cells.2.2.2.2.2
        have fA : ∀ o, (wc.alloc o).frozen? ⟨w.heap.size, 5, none⟩ = false := fun o => (HBOX.out.alloc o).frozen 5
        go_wp2
        rw [decide_eq_true hm0]
        go_loopw [9] (fun t wr => ∃ k : Nat, k ≤ m ∧ t = .int .i64 k ∧ Box wr w.heap.size (.slice pa n pc) (.slice (some ⟨wc.heap.size, 0, none⟩) m m) ∧ Hid (∀ b, w.heap.size < b → b < wc.heap.size → wr.heap[b]? = wc.heap[b]?) ∧ OrdRow wr wc.heap.size m k (fun j => kk f g n (n + j)) ∧ Below w.heap.size w wr) (fun t _ => m - (intOf t).toNat)
        case atStart =>
          refine ⟨0, Nat.zero_le _, rfl, (HBOX.out.setOrd _).alloc _, ?_, ?_, ?_⟩
          · intro b hb hlt
            rw [Below.heap_alloc _ _ _ (by simpa using hlt)]
            exact blk_set (by show b ≠ w.heap.size; omega)
          · have h := OrdRow.made (wc.setCell ⟨w.heap.size, 5, none⟩ (.slice (some ⟨wc.heap.size, 0, none⟩) m m)) m (fun j => kk f g n (n + j))
            simpa using h
          · exact (hbel.setCell (Nat.le_refl _) _).alloc (by simpa using hbel.size) _
        case round =>
          obtain ⟨k, hk, rfl, hbox, hpos, hrow, hbel2⟩ := hrel
          by_cases hlt : k < m
          · obtain ⟨b, o, rfl, hcell, hf0, hf1⟩ := H2.out.later hbel2 k hlt
            have HKk : Hid (kk f g n (n + k) = g k % 3 - 1) := kk_ord k
            obtain ⟨d, hd⟩ : ∃ d, g k = d := ⟨_, rfl⟩
            rw [hd] at hcell hf0 hf1 HKk
            clear hd
            have c5 := hbox.cells.2.2.2.2.2
            have cP := hrow.at k hlt
            rw [if_neg (by omega)] at cP
            have fP := hrow.frozen (k * 23)
            have HB2 : Hid (Box wr w.heap.size (.slice pa n pc) (.slice (some ⟨wc.heap.size, 0, none⟩) m m)) := hbox
            have HR2 : Hid (OrdRow wr wc.heap.size m k (fun j => kk f g n (n + j))) := hrow
            clear hbox hrow cA fA
            go_wp2_with fail
            go_region
            go_wp2
            go_roundw
            case rel =>
              refine ⟨k + 1, by omega, by go_num, HB2.out.of_block ?_, (show Hid _ from ?_), HR2.out.setKind HKk.out, (hbel2.setCell hbel.size _).drew⟩
              · exact blk_set (by show w.heap.size ≠ wc.heap.size; omega)
              · intro b hb hlt
                exact (blk_set (by show b ≠ wc.heap.size; omega)).trans (hpos.out b hb hlt)
            case measure => simp [intOf]; omega
          · obtain rfl : k = m := by omega
            go_wp2
            go_meet
            case rel => exact ⟨_, _, hbox, HPOS.out.kept hpos.out, Or.inr ⟨_, rfl, lA, hrow⟩, hbel2⟩
      · go_wp2
        go_meet
        case rel => exact ⟨_, _, (by obtain rfl : m = 0 := by omega
                                     exact HBOX.out), HPOS.out, Or.inl (by omega), hbel⟩
    case rest =>
      clear hbel HPOS HBOX hmp hmo
      obtain ⟨oa, oc, hbox, hpos, hord, hbel⟩ := hcut
      have hacct := acct_of hpos hord
      have hchk := check_any n m pc oc pa oa (.int .i64 0) (.int .i64 0) (.pointer none) (.int .i64 0) (kk f g n) wc hacct (by omega) (by omega)
      have HACC : Hid (Acct wc pa oa n m (kk f g n)) := hacct
      have HBOX : Hid (Box wc w.heap.size (.slice pa n pc) (.slice oa m oc)) := hbox
      obtain ⟨b0, b1, b2, b3, b4, b5⟩ := hbox.cells
      clear hpos hord hacct hbox
      go_wp2_with fail
      refine hchk.mono ?_
      rintro e w1 ⟨hor, hb1⟩
      clear hchk b0 b1 b2 b3 b4 b5
      obtain ⟨v, he, hv⟩ : ∃ v, e = .returned v ∧ ((sameB (kk f g n) (n + m) = true ∧ v = .nilIface) ∨ (sameB (kk f g n) (n + m) = false ∧ ∃ a, v = .iface 59 (.pointer (some a)))) := by
        rcases hor with ⟨h, rfl⟩ | ⟨h, a, rfl⟩
        · exact ⟨_, rfl, Or.inl ⟨h, rfl⟩⟩
        · exact ⟨_, rfl, Or.inr ⟨h, a, rfl⟩⟩
      subst he
      have HV : Hid ((sameB (kk f g n) (n + m) = true ∧ v = .nilIface) ∨ (sameB (kk f g n) (n + m) = false ∧ ∃ a, v = .iface 59 (.pointer (some a)))) := hv
      clear hor hv
      have HB1 : Hid (Box w1 w.heap.size (.slice pa n pc) (.slice oa m oc)) := HBOX.out.of_block (hb1.block _ HBOX.out.lt)
      have HA1 : Hid (Acct w1 pa oa n m (kk f g n)) := HACC.out.later hb1
      have bel1 : Below w.heap.size w w1 := hbel.trans (hb1.mono hbel.size)
      clear HBOX HACC hb1 hbel
      go_upto_region 19 with fail
      go_cut [93] from 88 (fun s93 wx => s93 = .bool false ∧ Box wx w.heap.size (.slice pa n pc) (.slice oa m oc) ∧ Acct wx pa oa n m (kk f g n) ∧ Below w.heap.size w wx)
      case first =>
        have hall := allsame_any n m c0 c2 a0 a2 f g w1.drew (H0.out.later bel1.drew) (H2.out.later bel1.drew) (by omega) (by omega)
        rcases HV.out with ⟨hs, rfl⟩ | ⟨hs, a, rfl⟩
        · rw [hs] at hall
          clear HV hs
          go_region_with (go_at_call 5; refine hall.mono ?_; rintro e w2 ⟨rfl, hb2⟩)
          go_wp2_with fail
          go_meet
          case rel =>
            have hb3 : Below w1.heap.size w1 w2 := ⟨hb2.os, hb2.tape, hb2.output, hb2.size, hb2.block⟩
            exact ⟨rfl, HB1.out.of_block (hb3.block _ HB1.out.lt), HA1.out.later hb3, bel1.trans (hb3.mono bel1.size)⟩
        · rw [hs] at hall
          clear HV hs
          go_region_with (go_at_call 5; refine hall.mono ?_; rintro e w2 ⟨rfl, hb2⟩)
          go_wp2_with fail
          go_meet
          case rel =>
            have hb3 : Below w1.heap.size w1 w2 := ⟨hb2.os, hb2.tape, hb2.output, hb2.size, hb2.block⟩
            exact ⟨rfl, HB1.out.of_block (hb3.block _ HB1.out.lt), HA1.out.later hb3, bel1.trans (hb3.mono bel1.size)⟩
      case rest =>
        clear HV HB1 HA1 bel1
        obtain ⟨rfl, hbox, hacc, hbel⟩ := hcut
        have HBX : Hid (Box wc w.heap.size (.slice pa n pc) (.slice oa m oc)) := hbox
        have HAC : Hid (Acct wc pa oa n m (kk f g n)) := hacc
        clear hbox hacc
        go_wp2
        go_loopw [11] (fun t wq => ∃ k q : Nat, k ≤ n ∧ t = .int .i64 k ∧ wq = wc.drewN q) (fun t _ => n - (intOf t).toNat)
        case atStart => exact ⟨0, 0, Nat.zero_le _, rfl, rfl⟩
        case round =>
          obtain ⟨k, q, hk, rfl, rfl⟩ := hrel
          by_cases hlt : k < n
          · obtain ⟨b, o, rfl, hcell, hf0, hf1⟩ := H0.out.later hbel k hlt
            obtain ⟨b2, rfl, hck, _⟩ := HAC.out.pos k hlt
            rw [kk_pos hlt] at hck
            obtain ⟨d, hd⟩ : ∃ d, f k = d := ⟨_, rfl⟩
            rw [hd] at hcell hf0 hf1 hck
            clear hd
            have cA := HBX.out.cells.2.2.2.2.1
            go_wp2_with fail
            go_region
            go_wp2
            go_roundw
            case rel => exact ⟨k + 1, q + 1, by omega, by go_num, rfl⟩
            case measure => simp [intOf]; omega
          · go_wp2
            go_loopw [12] (fun t wq => ∃ k q : Nat, k ≤ m ∧ t = .int .i64 k ∧ wq = wc.drewN q) (fun t _ => m - (intOf t).toNat)
            case atStart => exact ⟨0, q, Nat.zero_le _, rfl, rfl⟩
            case round =>
              obtain ⟨j, q2, hj, rfl, rfl⟩ := hrel
              by_cases hlt2 : j < m
              · obtain ⟨b, o, rfl, hcell, hf0, hf1⟩ := H2.out.later hbel j hlt2
                obtain ⟨b2, rfl, hck⟩ := HAC.out.ord j hlt2
                rw [kk_ord j] at hck
                obtain ⟨d, hd⟩ : ∃ d, g j = d := ⟨_, rfl⟩
                rw [hd] at hcell hf0 hf1 hck
                clear hd
                have cA := HBX.out.cells.2.2.2.2.2
                go_wp2_with fail
                go_region
                go_wp2
                go_roundw
                case rel => exact ⟨j + 1, q2 + 1, by omega, by go_num, rfl⟩
                case measure => simp [intOf]; omega
              · go_wp2
                go_ret
                exact ⟨rfl, hbel.trans ⟨rfl, rfl, rfl, Nat.le_refl _, fun _ _ => rfl⟩⟩

end Go.Proofs.YbulkbtroFmt
