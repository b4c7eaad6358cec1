/-
  THE CLOSURE 'earliest' (of Mapper.Wake and of Client.Wake), walked: the captured time becomes the lesser of the two that are not zero; and the law's own zzs3512cmin.
-/
import Derived.Test.YbulkbtscTime
namespace Go.Proofs.Ybulkbtsc
open Go.RowKit

/-- The lesser of two, 0 standing for none. -/
def zmin (b t : Int) : Int := if t ≠ 0 ∧ (b = 0 ∨ t < b) then t else b
theorem zmin_none (b : Int) : zmin b 0 = b := by unfold zmin; rw [if_neg (by omega)]
theorem zmin_first (t : Int) : zmin 0 t = t := by
  unfold zmin
  by_cases h : t = 0
  · subst h; rfl
  · rw [if_pos ⟨h, Or.inl rfl⟩]
theorem zmin_take {b t : Int} (h : t ≠ 0) (h2 : b = 0 ∨ t < b) : zmin b t = t := if_pos ⟨h, h2⟩
theorem zmin_keep {b t : Int} (h2 : b ≠ 0) (h3 : ¬ t < b) : zmin b t = b := if_neg (by omega)
theorem zmin_assoc (a b c : Int) : zmin (zmin a b) c = zmin a (zmin b c) := by
  unfold zmin
  repeat' split
  all_goals omega
theorem zmin_bd {a b L U : Int} (ha : L ≤ a ∧ a ≤ U) (hb : L ≤ b ∧ b ≤ U) : L ≤ zmin a b ∧ zmin a b ≤ U := by
  unfold zmin
  split
  · exact hb
  · exact ha

set_option maxHeartbeats 400000 in
theorem min_any (b k : Int) (w : World) : Calls Yba.prog 5 #[.int .i64 b, .int .i64 k] w fun e w' => e = .returned (.int .i64 (zmin b k)) ∧ w' = w := by
  by_cases h : k = 0
  · subst h
    rw [zmin_none]
    go_enter Yba.func5, Yba.ntmps5
    go_wp2
    go_ret
    exact ⟨rfl, rfl⟩
  · have hk : (k != 0) = true := by simpa using h
    by_cases hb : b = 0
    · subst hb
      rw [zmin_first]
      go_enter Yba.func5, Yba.ntmps5
      go_wp2
      go_ret
      exact ⟨rfl, rfl⟩
    · have hb' : (b == 0) = false := by simpa using hb
      by_cases hl : k < b
      · rw [zmin_take h (Or.inr hl)]
        clear h hb
        go_enter Yba.func5, Yba.ntmps5
        go_wp2
        go_ret
        exact ⟨rfl, rfl⟩
      · rw [zmin_keep hb hl]
        clear h hb
        go_enter Yba.func5, Yba.ntmps5
        go_wp2
        go_ret
        exact ⟨rfl, rfl⟩

/-- A BLOCK THAT HOLDS ONE TIME. -/
def TBox (w : World) (b : Nat) (n : Int) : Prop := w.heap[b]? = some (.cells #[.int .u64 0, .int .i64 n, .pointer none] 30 (0, 0))
theorem TBox.lt {w : World} {b : Nat} {n : Int} (h : TBox w b n) : b < w.heap.size := (Array.getElem?_eq_some_iff.1 h).1
theorem TBox.of_block {w w' : World} {b : Nat} {n : Int} (h : TBox w b n) (e : w'.heap[b]? = w.heap[b]?) : TBox w' b n := e.trans h
theorem TBox.new (w : World) (n : Int) : TBox (w.alloc (.cells #[.int .u64 0, .int .i64 n, .pointer none] 30)) w.heap.size n := (MapKept.heap_alloc w _).1
theorem TBox.alloc {w : World} {b : Nat} {n : Int} (h : TBox w b n) (o : Obj) : TBox (w.alloc o) b n := h.of_block (Below.heap_alloc w o b h.lt)
theorem TBox.later {w w' : World} {b : Nat} {n : Int} (h : TBox w b n) (hb : Below w.heap.size w w') : TBox w' b n := h.of_block (hb.block _ h.lt)
theorem TBox.cells {w : World} {b : Nat} {n : Int} (h : TBox w b n) : w.cell? ⟨b, 0, none⟩ = some (.int .u64 0) ∧ w.cell? ⟨b, 1, none⟩ = some (.int .i64 n) ∧ w.cell? ⟨b, 2, none⟩ = some (.pointer none) := by
  unfold TBox at h
  simp [World.cell?, h]
theorem TBox.frozen {w : World} {b : Nat} {n : Int} (h : TBox w b n) (o : Nat) : w.frozen? ⟨b, o, none⟩ = false := by
  unfold TBox at h
  simp [World.frozen?, h]
theorem TBox.set3 {w : World} {b : Nat} {n : Int} (h : TBox w b n) (t : Int) : TBox (((w.setCell ⟨b, 0, none⟩ (.int .u64 0)).setCell ⟨b, 1, none⟩ (.int .i64 t)).setCell ⟨b, 2, none⟩ (.pointer none)) b t := by
  unfold TBox at h ⊢
  simp [World.setCell, Array.getElem?_modify, h]

theorem grown_of_below {w w' : World} (h : Below w.heap.size w w') (row : Option Nat) : w.grownBy w' row := ⟨h.os, h.tape, h.output, h.size, fun k hk _ => h.block k hk⟩
theorem grown_set {w w' : World} {b o : Nat} (h : w.grownBy w' (some b)) (v : Value) : w.grownBy (w'.setCell ⟨b, o, none⟩ v) (some b) :=
  ⟨h.os, h.tape, h.output, by simpa using h.size, fun k hk hne => (Below.heap_setCell w' _ v k (fun e => hne (by rw [e]))).trans (h.block k hk hne)⟩

set_option maxHeartbeats 1000000 in
theorem early10 (ab : Nat) (b t : Int) (w : World) (hbox : TBox w ab b) :
    Calls Yba.prog 10 #[.agg #[.int .u64 0, .int .i64 t, .pointer none], .pointer (some ⟨ab, 0, none⟩)] w fun e w' => e = .returned (.tuple #[]) ∧ TBox w' ab (zmin b t) ∧ w.grownBy w' (some ab) := by
  have HB : Hid (TBox w ab b) := hbox
  have hab := hbox.lt
  clear hbox
  by_cases h0 : t = 0
  · subst h0
    rw [zmin_none]
    go_enter Yba.func10, Yba.ntmps10
    go_wp2_with fail
    refine (isZero_any _ _).mono ?_
    rintro e w1 ⟨rfl, hb1⟩
    go_wp2
    go_end0
    have B : Below w.heap.size w w1 := ((Below.refl _ w).alloc (Nat.le_refl _) _).trans (hb1.mono (by simp))
    exact ⟨rfl, HB.out.later B, grown_of_below B _⟩
  · have ht : (t == 0) = false := by simpa using h0
    have HT : Hid (¬ t = 0) := h0
    clear h0
    go_enter Yba.func10, Yba.ntmps10
    go_wp2_with fail
    refine (isZero_any _ _).mono ?_
    rintro e w1 ⟨rfl, hb1⟩
    have B1 : Below w.heap.size w w1 := ((Below.refl _ w).alloc (Nat.le_refl _) _).trans (hb1.mono (by simp))
    have HT1 : Hid (TBox w1 w.heap.size t) := (TBox.new w t).later hb1
    clear hb1
    have HB1 : Hid (TBox w1 ab b) := HB.out.later B1
    obtain ⟨t0, t1, t2⟩ := HT1.out.cells
    obtain ⟨b0, b1, b2⟩ := HB1.out.cells
    by_cases hb0 : b = 0
    · subst hb0
      go_wp2_with fail
      refine (isZero_any _ _).mono ?_
      rintro e w2 ⟨rfl, hb2⟩
      clear t0 t1 t2 b0 b1 b2
      have HB2 : Hid (TBox w2 ab 0) := HB1.out.later hb2
      obtain ⟨t0, t1, t2⟩ := (HT1.out.later hb2).cells
      obtain ⟨b0, b1, b2⟩ := HB2.out.cells
      have f0 := HB2.out.frozen 0
      have f1 := HB2.out.frozen 1
      have f2 := HB2.out.frozen 2
      have hne : ¬ ab = w.heap.size := by omega
      go_wp2
      go_end0
      exact ⟨rfl, by rw [zmin_first]; exact HB2.out.set3 t, grown_set (grown_set (grown_set (grown_of_below (B1.trans (hb2.mono B1.size)) _) _) _) _⟩
    · have hbb : (b == 0) = false := by simpa using hb0
      have HB0 : Hid (¬ b = 0) := hb0
      clear hb0
      go_wp2_with fail
      refine (isZero_any _ _).mono ?_
      rintro e w2 ⟨rfl, hb2⟩
      clear t0 t1 t2 b0 b1 b2
      have HB2 : Hid (TBox w2 ab b) := HB1.out.later hb2
      have HT2 : Hid (TBox w2 w.heap.size t) := HT1.out.later hb2
      have B2 : Below w.heap.size w w2 := B1.trans (hb2.mono B1.size)
      obtain ⟨t0, t1, t2⟩ := HT2.out.cells
      obtain ⟨b0, b1, b2⟩ := HB2.out.cells
      clear hb2 HT1 HB1 B1
      go_wp2_with fail
      refine (before_any _ _ _).mono ?_
      rintro e w3 ⟨rfl, hb3⟩
      clear t0 t1 t2 b0 b1 b2
      have HB3 : Hid (TBox w3 ab b) := HB2.out.later hb3
      have B3 : Below w.heap.size w w3 := B2.trans (hb3.mono B2.size)
      by_cases hlt : t < b
      · obtain ⟨t0, t1, t2⟩ := (HT2.out.later hb3).cells
        obtain ⟨b0, b1, b2⟩ := HB3.out.cells
        have f0 := HB3.out.frozen 0
        have f1 := HB3.out.frozen 1
        have f2 := HB3.out.frozen 2
        have hne : ¬ ab = w.heap.size := by omega
        go_wp2
        go_end0
        exact ⟨rfl, by rw [zmin_take HT.out (Or.inr hlt)]; exact HB3.out.set3 t, grown_set (grown_set (grown_set (grown_of_below B3 _) _) _) _⟩
      · have HLT : Hid (zmin b t = b) := zmin_keep HB0.out hlt
        go_wp2
        go_end0
        exact ⟨rfl, by rw [HLT.out]; exact HB3.out, grown_of_below B3 _⟩

set_option maxHeartbeats 1000000 in
theorem early19 (ab : Nat) (b t : Int) (w : World) (hbox : TBox w ab b) :
    Calls Yba.prog 19 #[.agg #[.int .u64 0, .int .i64 t, .pointer none], .pointer (some ⟨ab, 0, none⟩)] w fun e w' => e = .returned (.tuple #[]) ∧ TBox w' ab (zmin b t) ∧ w.grownBy w' (some ab) := by
  have HB : Hid (TBox w ab b) := hbox
  have hab := hbox.lt
  clear hbox
  by_cases h0 : t = 0
  · subst h0
    rw [zmin_none]
    go_enter Yba.func19, Yba.ntmps19
    go_wp2_with fail
    refine (isZero_any _ _).mono ?_
    rintro e w1 ⟨rfl, hb1⟩
    go_wp2
    go_end0
    have B : Below w.heap.size w w1 := ((Below.refl _ w).alloc (Nat.le_refl _) _).trans (hb1.mono (by simp))
    exact ⟨rfl, HB.out.later B, grown_of_below B _⟩
  · have ht : (t == 0) = false := by simpa using h0
    have HT : Hid (¬ t = 0) := h0
    clear h0
    go_enter Yba.func19, Yba.ntmps19
    go_wp2_with fail
    refine (isZero_any _ _).mono ?_
    rintro e w1 ⟨rfl, hb1⟩
    have B1 : Below w.heap.size w w1 := ((Below.refl _ w).alloc (Nat.le_refl _) _).trans (hb1.mono (by simp))
    have HT1 : Hid (TBox w1 w.heap.size t) := (TBox.new w t).later hb1
    clear hb1
    have HB1 : Hid (TBox w1 ab b) := HB.out.later B1
    obtain ⟨t0, t1, t2⟩ := HT1.out.cells
    obtain ⟨b0, b1, b2⟩ := HB1.out.cells
    by_cases hb0 : b = 0
    · subst hb0
      go_wp2_with fail
      refine (isZero_any _ _).mono ?_
      rintro e w2 ⟨rfl, hb2⟩
      clear t0 t1 t2 b0 b1 b2
      have HB2 : Hid (TBox w2 ab 0) := HB1.out.later hb2
      obtain ⟨t0, t1, t2⟩ := (HT1.out.later hb2).cells
      obtain ⟨b0, b1, b2⟩ := HB2.out.cells
      have f0 := HB2.out.frozen 0
      have f1 := HB2.out.frozen 1
      have f2 := HB2.out.frozen 2
      have hne : ¬ ab = w.heap.size := by omega
      go_wp2
      go_end0
      exact ⟨rfl, by rw [zmin_first]; exact HB2.out.set3 t, grown_set (grown_set (grown_set (grown_of_below (B1.trans (hb2.mono B1.size)) _) _) _) _⟩
    · have hbb : (b == 0) = false := by simpa using hb0
      have HB0 : Hid (¬ b = 0) := hb0
      clear hb0
      go_wp2_with fail
      refine (isZero_any _ _).mono ?_
      rintro e w2 ⟨rfl, hb2⟩
      clear t0 t1 t2 b0 b1 b2
      have HB2 : Hid (TBox w2 ab b) := HB1.out.later hb2
      have HT2 : Hid (TBox w2 w.heap.size t) := HT1.out.later hb2
      have B2 : Below w.heap.size w w2 := B1.trans (hb2.mono B1.size)
      obtain ⟨t0, t1, t2⟩ := HT2.out.cells
      obtain ⟨b0, b1, b2⟩ := HB2.out.cells
      clear hb2 HT1 HB1 B1
      go_wp2_with fail
      refine (before_any _ _ _).mono ?_
      rintro e w3 ⟨rfl, hb3⟩
      clear t0 t1 t2 b0 b1 b2
      have HB3 : Hid (TBox w3 ab b) := HB2.out.later hb3
      have B3 : Below w.heap.size w w3 := B2.trans (hb3.mono B2.size)
      by_cases hlt : t < b
      · obtain ⟨t0, t1, t2⟩ := (HT2.out.later hb3).cells
        obtain ⟨b0, b1, b2⟩ := HB3.out.cells
        have f0 := HB3.out.frozen 0
        have f1 := HB3.out.frozen 1
        have f2 := HB3.out.frozen 2
        have hne : ¬ ab = w.heap.size := by omega
        go_wp2
        go_end0
        exact ⟨rfl, by rw [zmin_take HT.out (Or.inr hlt)]; exact HB3.out.set3 t, grown_set (grown_set (grown_set (grown_of_below B3 _) _) _) _⟩
      · have HLT : Hid (zmin b t = b) := zmin_keep HB0.out hlt
        go_wp2
        go_end0
        exact ⟨rfl, by rw [HLT.out]; exact HB3.out, grown_of_below B3 _⟩

end Go.Proofs.Ybulkbtsc
