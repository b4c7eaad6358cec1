/-
  'Rows.LawS3512CEarliestSaid', proved. The frame is the shell that the kit's tool writes; the walk is YbulkbtscLaw.lean's.
-/
import Derived.Test.YbulkbtscRows
import Derived.WalkKit
import Derived.ProofKit
import Derived.OpenShut
import Derived.ShutString
import Derived.ChangeOld
import Derived.Below
import Derived.Test.YbulkbtscLaw
namespace Go.Proofs.Ybulkbtsc.lawS3512CEarliest
open Go.ChangeShapes Go.WideShapes Go.ChangeAt Go.RowKit
set_option linter.unusedVariables false

theorem own : ownKnob Yba.prog.godebug = none := by kernel_rfl
theorem laidOut : laidOutB Yba.prog = true := by kernel_rfl
theorem cells23 : Yba.prog.cellsOf 23 = 15 := by kernel_rfl
theorem cells4 : Yba.prog.cellsOf 4 = 1 := by kernel_rfl
theorem cells5 : Yba.prog.cellsOf 5 = 1 := by kernel_rfl
theorem cells21 : Yba.prog.cellsOf 21 = 1 := by kernel_rfl

theorem array15 {α : Type} {cs : Array α} (h : cs.size = 15) : ∃ c0 c1 c2 c3 c4 c5 c6 c7 c8 c9 c10 c11 c12 c13 c14, cs = #[c0, c1, c2, c3, c4, c5, c6, c7, c8, c9, c10, c11, c12, c13, c14] := by
  obtain ⟨l⟩ := cs
  match l, h with
  | [c0, c1, c2, c3, c4, c5, c6, c7, c8, c9, c10, c11, c12, c13, c14], _ => exact ⟨c0, c1, c2, c3, c4, c5, c6, c7, c8, c9, c10, c11, c12, c13, c14, rfl⟩

section
variable {H : Type} {enc : TypeId × Value → H} {w : World} {base : Nat} {spare : Nat → Bool} {held : Bool}
theorem rd_bool {n i : Nat} {c : Value} {xs : List (DataW H × List MemPlace)} (hi : i < xs.length) (h : DataW.trod enc Yba.prog w base spare held n 4 [c] = xs[i]?) : ∃ b, c = .bool b := by
  rw [List.getElem?_eq_getElem hi] at h
  obtain ⟨b, hb, _⟩ := DataW.trod_bool Yba.underlying4 h
  exact ⟨b, by simpa using hb⟩
theorem rd_i32 {n i : Nat} {c : Value} {xs : List (DataW H × List MemPlace)} (hi : i < xs.length) (h : DataW.trod enc Yba.prog w base spare held n 21 [c] = xs[i]?) : ∃ z, c = .int .i32 z ∧ -2147483648 ≤ z ∧ z ≤ 2147483647 := by
  rw [List.getElem?_eq_getElem hi] at h
  obtain ⟨z, hz, _, hw⟩ := DataW.trod_int Yba.underlying21 h
  exact ⟨z, by simpa using hz, bounds_i32 hw⟩
theorem rd_u8 {n i : Nat} {c : Value} {xs : List (DataW H × List MemPlace)} (hi : i < xs.length) (h : DataW.trod enc Yba.prog w base spare held n 5 [c] = xs[i]?) : ∃ z, c = .int .u8 z ∧ 0 ≤ z ∧ z ≤ 255 := by
  rw [List.getElem?_eq_getElem hi] at h
  obtain ⟨z, hz, _, hw⟩ := DataW.trod_int Yba.underlying5 h
  exact ⟨z, by simpa using hz, bounds_u8 hw⟩


set_option maxHeartbeats 1000000 in
set_option maxRecDepth 100000 in
/-- THE ARGUMENT, OPENED: fifteen fields, each of one cell. -/
theorem open_in {r : Reach} {b0 : Nat} {v : Value} {d : DataW H} {p : List MemPlace} (hv : Value.okWide Yba.prog w r b0 23 v) (h : DataW.Trod enc Yba.prog w base spare held 23 v d p) :
    ∃ (hp : Bool) (po : Bool) (od : Int) (ph : Bool) (hpr : Int) (ra : Int) (pe : Int) (spk : Int) (bg : Int) (hi : Bool) (io : Bool) (is : Bool) (idu : Int) (ih : Bool) (ie : Int), v = .agg #[.bool hp, .bool po, .int .i32 od, .bool ph, .int .u8 hpr, .int .i32 ra, .int .i32 pe, .int .u8 spk, .int .i32 bg, .bool hi, .bool io, .bool is, .int .i32 idu, .bool ih, .int .i32 ie] ∧ (-2147483648 ≤ od ∧ od ≤ 2147483647) ∧ (-2147483648 ≤ ra ∧ ra ≤ 2147483647) ∧ (-2147483648 ≤ pe ∧ pe ≤ 2147483647) ∧ (-2147483648 ≤ bg ∧ bg ≤ 2147483647) ∧ (-2147483648 ≤ idu ∧ idu ≤ 2147483647) ∧ (-2147483648 ≤ ie ∧ ie ≤ 2147483647) ∧ (0 ≤ hpr ∧ hpr ≤ 255) ∧ (0 ≤ spk ∧ spk ≤ 255) := by
  obtain ⟨cs, rfl, hsz⟩ := okWide_struct Yba.underlying23 hv
  obtain ⟨c0, c1, c2, c3, c4, c5, c6, c7, c8, c9, c10, c11, c12, c13, c14, rfl⟩ := array15 (hsz.trans cells23)
  obtain ⟨fuel, hf0⟩ := h
  obtain ⟨xs, n, _, _, _, hlen, hf⟩ := DataW.trod_struct Yba.underlying23 hf0
  have hlen' : xs.length = 15 := hlen
  have g0 : DataW.trod enc Yba.prog w base spare held n 4 (List.take (Yba.prog.cellsOf 4) (List.drop 0 [c0, c1, c2, c3, c4, c5, c6, c7, c8, c9, c10, c11, c12, c13, c14])) = xs[0]? := hf 0 _ rfl
  rw [cells4] at g0
  have g1 : DataW.trod enc Yba.prog w base spare held n 4 (List.take (Yba.prog.cellsOf 4) (List.drop 1 [c0, c1, c2, c3, c4, c5, c6, c7, c8, c9, c10, c11, c12, c13, c14])) = xs[1]? := hf 1 _ rfl
  rw [cells4] at g1
  have g2 : DataW.trod enc Yba.prog w base spare held n 21 (List.take (Yba.prog.cellsOf 21) (List.drop 2 [c0, c1, c2, c3, c4, c5, c6, c7, c8, c9, c10, c11, c12, c13, c14])) = xs[2]? := hf 2 _ rfl
  rw [cells21] at g2
  have g3 : DataW.trod enc Yba.prog w base spare held n 4 (List.take (Yba.prog.cellsOf 4) (List.drop 3 [c0, c1, c2, c3, c4, c5, c6, c7, c8, c9, c10, c11, c12, c13, c14])) = xs[3]? := hf 3 _ rfl
  rw [cells4] at g3
  have g4 : DataW.trod enc Yba.prog w base spare held n 5 (List.take (Yba.prog.cellsOf 5) (List.drop 4 [c0, c1, c2, c3, c4, c5, c6, c7, c8, c9, c10, c11, c12, c13, c14])) = xs[4]? := hf 4 _ rfl
  rw [cells5] at g4
  have g5 : DataW.trod enc Yba.prog w base spare held n 21 (List.take (Yba.prog.cellsOf 21) (List.drop 5 [c0, c1, c2, c3, c4, c5, c6, c7, c8, c9, c10, c11, c12, c13, c14])) = xs[5]? := hf 5 _ rfl
  rw [cells21] at g5
  have g6 : DataW.trod enc Yba.prog w base spare held n 21 (List.take (Yba.prog.cellsOf 21) (List.drop 6 [c0, c1, c2, c3, c4, c5, c6, c7, c8, c9, c10, c11, c12, c13, c14])) = xs[6]? := hf 6 _ rfl
  rw [cells21] at g6
  have g7 : DataW.trod enc Yba.prog w base spare held n 5 (List.take (Yba.prog.cellsOf 5) (List.drop 7 [c0, c1, c2, c3, c4, c5, c6, c7, c8, c9, c10, c11, c12, c13, c14])) = xs[7]? := hf 7 _ rfl
  rw [cells5] at g7
  have g8 : DataW.trod enc Yba.prog w base spare held n 21 (List.take (Yba.prog.cellsOf 21) (List.drop 8 [c0, c1, c2, c3, c4, c5, c6, c7, c8, c9, c10, c11, c12, c13, c14])) = xs[8]? := hf 8 _ rfl
  rw [cells21] at g8
  have g9 : DataW.trod enc Yba.prog w base spare held n 4 (List.take (Yba.prog.cellsOf 4) (List.drop 9 [c0, c1, c2, c3, c4, c5, c6, c7, c8, c9, c10, c11, c12, c13, c14])) = xs[9]? := hf 9 _ rfl
  rw [cells4] at g9
  have g10 : DataW.trod enc Yba.prog w base spare held n 4 (List.take (Yba.prog.cellsOf 4) (List.drop 10 [c0, c1, c2, c3, c4, c5, c6, c7, c8, c9, c10, c11, c12, c13, c14])) = xs[10]? := hf 10 _ rfl
  rw [cells4] at g10
  have g11 : DataW.trod enc Yba.prog w base spare held n 4 (List.take (Yba.prog.cellsOf 4) (List.drop 11 [c0, c1, c2, c3, c4, c5, c6, c7, c8, c9, c10, c11, c12, c13, c14])) = xs[11]? := hf 11 _ rfl
  rw [cells4] at g11
  have g12 : DataW.trod enc Yba.prog w base spare held n 21 (List.take (Yba.prog.cellsOf 21) (List.drop 12 [c0, c1, c2, c3, c4, c5, c6, c7, c8, c9, c10, c11, c12, c13, c14])) = xs[12]? := hf 12 _ rfl
  rw [cells21] at g12
  have g13 : DataW.trod enc Yba.prog w base spare held n 4 (List.take (Yba.prog.cellsOf 4) (List.drop 13 [c0, c1, c2, c3, c4, c5, c6, c7, c8, c9, c10, c11, c12, c13, c14])) = xs[13]? := hf 13 _ rfl
  rw [cells4] at g13
  have g14 : DataW.trod enc Yba.prog w base spare held n 21 (List.take (Yba.prog.cellsOf 21) (List.drop 14 [c0, c1, c2, c3, c4, c5, c6, c7, c8, c9, c10, c11, c12, c13, c14])) = xs[14]? := hf 14 _ rfl
  rw [cells21] at g14
  obtain ⟨hp, rfl⟩ := rd_bool (by omega) g0
  obtain ⟨po, rfl⟩ := rd_bool (by omega) g1
  obtain ⟨od, rfl, hod⟩ := rd_i32 (by omega) g2
  obtain ⟨ph, rfl⟩ := rd_bool (by omega) g3
  obtain ⟨hpr, rfl, hhpr⟩ := rd_u8 (by omega) g4
  obtain ⟨ra, rfl, hra⟩ := rd_i32 (by omega) g5
  obtain ⟨pe, rfl, hpe⟩ := rd_i32 (by omega) g6
  obtain ⟨spk, rfl, hspk⟩ := rd_u8 (by omega) g7
  obtain ⟨bg, rfl, hbg⟩ := rd_i32 (by omega) g8
  obtain ⟨hi, rfl⟩ := rd_bool (by omega) g9
  obtain ⟨io, rfl⟩ := rd_bool (by omega) g10
  obtain ⟨is, rfl⟩ := rd_bool (by omega) g11
  obtain ⟨idu, rfl, hidu⟩ := rd_i32 (by omega) g12
  obtain ⟨ih, rfl⟩ := rd_bool (by omega) g13
  obtain ⟨ie, rfl, hie⟩ := rd_i32 (by omega) g14
  exact ⟨hp, po, od, ph, hpr, ra, pe, spk, bg, hi, io, is, idu, ih, ie, rfl, hod, hra, hpe, hbg, hidu, hie, hhpr, hspk⟩
end

/-! ### THE ROW's STEP -/
set_option maxRecDepth 100000 in
theorem lifted (os : Os) (started : os.Started) (H : Type) (enc : TypeId × Value → H) :
    ReturnsInHanded {} Yba.checked os 3 .any (Rows.lawS3512CEarliestSpec.pre6 enc Yba.prog Yba.f3 Rows.lawS3512CEarliestRow.domain false) (Rows.lawS3512CEarliestSpec.post enc Yba.prog Yba.f3 false true false false) := by
  refine returnsInHanded_of_change (C := Yba.checked) own started (by kernel_rfl) Yba.func3
    (ChangeSpec.witness6 (enc := enc) (C := Yba.checked) false ⟨#[], #[.agg #[.bool false, .bool false, .int .i32 0, .bool false, .int .u8 0, .int .i32 0, .int .i32 0, .int .u8 0, .int .i32 0, .bool false, .bool false, .bool false, .int .i32 0, .bool false, .int .i32 0]], []⟩ 8 (by kernel_rfl) (by kernel_rfl) (by kernel_rfl) (by kernel_rfl)) ?_
  intro W base args ds gs before hval0 hW hcnd _
  have hval : ∀ (j : Nat) t v, Yba.f3.params[j]? = some t → args[j]? = some v → Value.okWide Yba.prog W .any base t v := hval0
  have hW' := hW
  obtain ⟨p, q, hA0, hV, rfl, hfz, hnd⟩ := hW
  have hA : DataW.TrodAll enc Yba.prog W 0 (fun _ => true) true Yba.f3.params.toList args.toList ds p := hA0
  rw [Yba.params3] at hA hval
  obtain ⟨v0, vs0, d0, ds0, p0, q0, hargs, rfl, rfl, h0, r0⟩ := trodAll_cons hA
  obtain ⟨rfl, rfl, rfl⟩ := trodAll_nil r0
  obtain rfl : args = #[v0] := by cases args; simp_all
  obtain ⟨rfl, rfl⟩ := trodVars_none hV
  have lt0 : ∀ x ∈ p0, x.block < W.heap.size := by obtain ⟨m, hm⟩ := h0; exact DataW.trod_lt m _ _ _ hm
  obtain ⟨hp, po, od, ph, hpr, ra, pe, spk, bg, hi, io, is, idu, ih, ie, rfl, hod, hra, hpe, hbg, hidu, hie, hhpr, hspk⟩ := open_in (hval 0 23 v0 rfl rfl) h0
  clear hA0 hval0
  refine (law_any hp po od ph hpr ra pe spk bg hi io is idu ih ie W hod hra hpe hbg hidu hie hhpr hspk).mono fun e W' ⟨he, bel⟩ => ?_
  subst he
  exact ⟨_, rfl, _, _, _, [], _, [], hW', trodAll_mk1 (shut_bool Yba.underlying4 _), (trodAll_cons_mk (Below.trod laidOut (by kernel_rfl) (of_decide_eq_true (by kernel_rfl)) h0 bel lt0) trodAll_mk0), rfl, bel.frame _, fun h => by cases h⟩

theorem over : Rows.lawS3512CEarliestRow.holds Yba.pinned (OpenSpec.ofChange Rows.lawS3512CEarliestSpec) :=
  OpenClaim.holds_of_wide 3 Yba.f3 rfl rfl rfl rfl rfl rfl rfl ⟨rfl, rfl, rfl, rfl, rfl⟩ rfl rfl rfl rfl rfl (by kernel_rfl) Yba.func3 (by kernel_rfl)
    (of_decide_eq_true (by kernel_rfl)) (by unfold Func.isWrapper; first | (rw [if_pos (by decide +kernel)]; kernel_rfl) | (rw [if_neg (by decide +kernel)]; exact ⟨rfl, rfl⟩))
    (fun os started H enc _ => lifted os started H enc)

/-- ████ THE STATEMENT ████ -/
theorem proved : Rows.LawS3512CEarliestSaid := over
#print axioms proved
end Go.Proofs.Ybulkbtsc.lawS3512CEarliest
