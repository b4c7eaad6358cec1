/-
  'Rows.LawS3513BMatchesEncodingSaid', proved. The frame is the shell that the kit's tool wrote; the walk is ours.
-/
import Derived.Test.YbulkbtsqRows
import Derived.WalkKit
import Derived.ProofKit
import Derived.OpenShut
import Derived.ShutString
import Derived.Below
import Derived.Test.YbulkbtsqApp
namespace Go.Proofs.Ybulkbtsq.lawS3513BMatchesEncoding
open Go.ChangeShapes Go.WideShapes Go.ChangeAt Go.RowKit
open Go.ChangeMaps (open_string shut_string)
set_option linter.unusedVariables false      -- a walk need not use every 'w<i>' (that an integer argument fits its kind)

theorem own : ownKnob Yba.prog.godebug = none := by kernel_rfl

/-! ### STEP 1: THE WALK: the Go text returns true. -/
theorem uvl_neg {x : Int} (h : x < 0) : uvl x = 1 := uvl_small (by omega)

theorem shape {w : World} {B n : Nat} {v : Value} {xs : List Value} (h : w.ownsRow B 5 1 v n xs) (hn : 1 ≤ n) : ∃ g cap, v = .slice (some ⟨g, 0, none⟩) n cap := by
  rcases h.2 with ⟨_, h0⟩ | ⟨g, cap, cur, hv, _⟩
  · omega
  · exact ⟨g, cap, hv⟩

set_option maxHeartbeats 1000000 in
theorem walk (a0 : Int) (w0 : (Lit.int .i64 a0).wf = true) (w : World) :
    Calls Yba.prog 3 #[.int .i64 a0] w fun e w' => e = .returned (.bool true) ∧ Below w.heap.size w w' := by
  have hb := bounds_i64 w0
  by_cases hn : a0 < 0
  · have hu := uvl_neg hn
    have hc := uvarintLen_any a0 w (by omega)
    rw [hu] at hc
    clear hu
    go_enter Yba.func3, Yba.ntmps3
    go_wp2_with (go_at_call 7; refine hc.mono ?_; rintro e w' ⟨rfl, rfl⟩)
    go_ret
    exact ⟨rfl, Below.refl _ _⟩
  · obtain ⟨k, rfl⟩ : ∃ k : Nat, a0 = k := ⟨a0.toNat, by omega⟩
    have hk : k ≤ 9223372036854775807 := by omega
    have hc := uvarintLen_any k w (by omega)
    have hbd := uvl_bd k
    have hmk : ∀ w, (Instr.makeSlice 23 (.int .i64 0) (.int .i64 16)).run Yba.prog w = .ok (.slice (some ⟨w.heap.size, 0, none⟩) 0 16) (w.alloc (.cells (Array.replicate 16 (.int .u8 0)) 5)) := fun _ => by kernel_rfl
    have hown : (w.alloc (.cells (Array.replicate 16 (.int .u8 0)) 5)).ownsRow w.heap.size 5 1 (.slice (some ⟨w.heap.size, 0, none⟩) 0 16) 0 [] := World.ownsRow_made w _ 16 (Nat.le_refl _) (by unfold maxLen; omega) (by simp)
    have hap := appendUvarint_any w.heap.size k hk _ _ hown (by simp)
    clear hown
    go_enter Yba.func3, Yba.ntmps3
    go_wp2_with (go_at_call 7; refine hc.mono ?_; rintro e w' ⟨rfl, rfl⟩)
    refine hap.mono ?_
    rintro e w' ⟨v', n, xs, rfl, hn', hown', hbel⟩
    obtain ⟨g, cap, rfl⟩ := shape hown' (by omega)
    have HN : Hid ((n : Int) = uvl k) := hn'
    clear hn' hap hc hown'
    go_wp2
    go_ret
    refine ⟨?_, ((Below.refl _ _).alloc (Nat.le_refl _) _).trans hbel⟩
    have e : (uvl k == (n : Int)) = true := by rw [HN.out]; simp
    exact congrArg (fun b => Ending.returned (Value.bool b)) e

/-! ### THE ROW's STEP: WRITTEN OUT: LEAVE IT -/
set_option maxRecDepth 100000 in
theorem lifted (os : Os) (started : os.Started) (H : Type) (enc : TypeId × Value → H) :
    ReturnsInHanded {} Yba.checked os 3 .any (Rows.lawS3513BMatchesEncodingSpec.pre6 enc Yba.prog Yba.f3 Rows.lawS3513BMatchesEncodingRow.domain false) (Rows.lawS3513BMatchesEncodingSpec.post enc Yba.prog Yba.f3 false true false false) := by
  refine returnsInHanded_of_change (C := Yba.checked) own started (by kernel_rfl) Yba.func3
    (ChangeSpec.witness6 (enc := enc) (C := Yba.checked) false ⟨#[], #[.int .i64 0], []⟩ 8 (by kernel_rfl) (by kernel_rfl) (by kernel_rfl) (by kernel_rfl)) ?_
  intro W base args ds gs before hval0 hW hcnd _
  have hval : ∀ (j : Nat) t v, Yba.f3.params[j]? = some t → args[j]? = some v → Value.okWide Yba.prog W .any base t v := hval0
  have hW' := hW
  obtain ⟨p, q, hA0, hV, rfl, hfz, hnd⟩ := hW
  have hA : DataW.TrodAll enc Yba.prog W 0 (fun _ => true) true Yba.f3.params.toList args.toList ds p := hA0
  rw [Yba.params3] at hA hval
  obtain ⟨v0, vs0, d0, ds0, p0, q0, hargs, rfl, rfl, h0, r0⟩ := trodAll_cons hA
  obtain ⟨rfl, rfl, rfl⟩ := trodAll_nil r0
  obtain rfl : args = #[v0] := by cases args; simp_all
  obtain ⟨rfl, rfl⟩ := trodVars_none hV
  obtain ⟨a0, rfl, rfl, rfl, w0⟩ := open_int Yba.underlying3 (hval 0 3 v0 rfl rfl) h0
  clear hA0 hval0
  simp only [List.append_nil] at hW'
  refine (walk a0 w0 W).mono fun e W' ⟨he, hg⟩ => ?_
  subst he
  exact ⟨_, rfl, _, _, _, [], [], [], hW', trodAll_mk1 (shut_bool Yba.underlying4 _), trodAll_cons_mk (shut_int Yba.underlying3 w0) trodAll_mk0, rfl, hg.frame _, fun h => by cases h⟩

theorem over : Rows.lawS3513BMatchesEncodingRow.holds Yba.pinned (OpenSpec.ofChange Rows.lawS3513BMatchesEncodingSpec) :=
  OpenClaim.holds_of_wide 3 Yba.f3 rfl rfl rfl rfl rfl rfl rfl ⟨rfl, rfl, rfl, rfl, rfl⟩ rfl rfl rfl rfl rfl (by kernel_rfl) Yba.func3 (by kernel_rfl)
    (of_decide_eq_true (by kernel_rfl)) (by unfold Func.isWrapper; first | (rw [if_pos (by decide +kernel)]; kernel_rfl) | (rw [if_neg (by decide +kernel)]; exact ⟨rfl, rfl⟩))
    (fun os started H enc _ => lifted os started H enc)

/-- ████ THE STATEMENT ████ -/
theorem proved : Rows.LawS3513BMatchesEncodingSaid :=
  over
#print axioms proved
end Go.Proofs.Ybulkbtsq.lawS3513BMatchesEncoding
