/-
  (*Mapper).Wake, walked.
-/
import Derived.Test.YbulkbtscIgd
namespace Go.Proofs.Ybulkbtsc
open Go.RowKit

def PcpAt (w : World) (mb : Nat) (hp out held : Bool) (due proto renew exp sp : Int) : Prop :=
  (hp = false ∧ w.cell? ⟨mb, 7, none⟩ = some (.pointer none)) ∨ (hp = true ∧ ∃ cb, w.cell? ⟨mb, 7, none⟩ = some (.pointer (some ⟨cb, 0, none⟩)) ∧ CliAt w cb out held due proto renew exp sp)
def UpnpAt (w : World) (mb : Nat) (hi out sent held : Bool) (due exp : Int) : Prop :=
  (hi = false ∧ w.cell? ⟨mb, 12, none⟩ = some (.pointer none)) ∨ (hi = true ∧ ∃ gb, w.cell? ⟨mb, 12, none⟩ = some (.pointer (some ⟨gb, 0, none⟩)) ∧ IgdAt w gb out sent held due exp)

/-- When the mapper wakes, the parts given: 'cw', what the one client calls for; 's', the protocol that the router speaks; 'iw', what the other calls for. -/
def mwake (hp hi : Bool) (cw s began iw : Int) : Int :=
  let x := if hp then (if !hi && s == 0 then zmin cw (began + 3) else cw) else 0
  if hi then zmin x iw else x

set_option maxHeartbeats 2000000 in
theorem mwake_any (mb : Nat) (hp out held hi iout sent iheld : Bool) (due proto renew exp sp began idue iexp : Int) (w : World) (h1 : PcpAt w mb hp out held due proto renew exp sp) (h2 : UpnpAt w mb hi iout sent iheld idue iexp) (h3 : TAt w mb 8 began)
    (hb1 : -4294967296 ≤ began) (hb2 : began ≤ 4294967296) :
    Calls Yba.prog 6 #[.pointer (some ⟨mb, 0, none⟩)] w fun e w' =>
      e = .returned (.agg #[.int .u64 0, .int .i64 (mwake hp hi (cwake out held due renew exp) (if held then proto else sp) began (iwake iout sent iheld idue iexp)), .pointer none]) ∧ Below w.heap.size w w' := by
  obtain ⟨b0, b1, b2⟩ := h3
  have hmb := block_lt b0
  simp only [] at b1 b2 hmb
  have WS := Wk.start w
  obtain ⟨s, hs⟩ : ∃ s : Int, (if held then proto else sp) = s := ⟨_, rfl⟩
  obtain ⟨cw, hcw⟩ : ∃ x, cwake out held due renew exp = x := ⟨_, rfl⟩
  obtain ⟨iw, hiw⟩ : ∃ x, iwake iout sent iheld idue iexp = x := ⟨_, rfl⟩
  rw [hs, hcw, hiw]
  have HCW : Hid (cwake out held due renew exp = cw) := hcw
  have HIW : Hid (iwake iout sent iheld idue iexp = iw) := hiw
  have HS : Hid ((if held then proto else sp) = s) := hs
  clear hs hcw hiw
  have ADD : Hid (∀ W, Calls Yba.prog 14 #[.agg #[.int .u64 0, .int .i64 began, .pointer none], .int .i64 3000000000] W fun e W' => e = .returned (.agg #[.int .u64 0, .int .i64 (began + 3), .pointer none]) ∧ Below W.heap.size W W') := fun W => add_any began 3000000000 3 W (by decide) (by decide) (by omega) (by omega) (by omega) (by omega)
  rcases h1 with ⟨rfl, p1⟩ | ⟨rfl, cb, p1, hC⟩
  · rcases h2 with ⟨rfl, q1⟩ | ⟨rfl, gb, q1, hG⟩
    · have HW : Hid (Wk w ((w.alloc (.cells #[.int .u64 0, .int .i64 0, .pointer none] 30)).alloc (.cells #[.int .u64 0, .int .i64 0, .pointer none] 30)) 0) := WS
      clear WS
      go_enter Yba.func6, Yba.ntmps6
      go_wp2
      exact bodyPost_ret (v := .agg #[.int .u64 0, .int .i64 (mwake false false cw s began iw), .pointer none]) (by simp [results, Yba.results6, go_sem, mwake]) rfl ⟨rfl, HW.out.bel⟩
    · have hgb := block_lt hG.due.1
      simp only [] at hgb
      have HG : Hid (IgdAt w gb iout sent iheld idue iexp) := hG
      clear hG
      have hI0 := iwake_any gb iout sent iheld idue iexp _ (HG.out.later WS.bel)
      rw [HIW.out] at hI0
      go_enter Yba.func6, Yba.ntmps6
      go_wp2_with fail
      refine hI0.mono ?_
      rintro e W1 ⟨rfl, B1⟩
      have K1 := WS.below B1
      clear WS B1 hI0
      go_wp2_with fail
      refine (K1.earlyM iw).mono ?_
      rintro e W2 ⟨rfl, K2⟩
      have hl := K2.lt
      obtain ⟨A0, A1, A2⟩ := K2.now.cells
      obtain ⟨r0, r1, r2⟩ := K2.res.cells
      have f0 := K2.res.frozen 0
      have f1 := K2.res.frozen 1
      have f2 := K2.res.frozen 2
      go_wp2
      refine bodyPost_ret (v := .agg #[.int .u64 0, .int .i64 (mwake false true cw s began iw), .pointer none]) (by simp [results, Yba.results6, go_sem, mwake, r0, r1, r2]) rfl ⟨rfl, ?_⟩
      exact K2.fin _
  · have hcb := block_lt hC.speaks
    simp only [] at hcb
    have HC : Hid (CliAt w cb out held due proto renew exp sp) := hC
    clear hC
    have hC0 := cwake_any cb out held due proto renew exp sp _ (HC.out.later WS.bel)
    rw [HCW.out] at hC0
    rcases h2 with ⟨rfl, q1⟩ | ⟨rfl, gb, q1, hG⟩
    · go_enter Yba.func6, Yba.ntmps6
      go_wp2_with fail
      refine hC0.mono ?_
      rintro e W1 ⟨rfl, B1⟩
      have K1 := WS.below B1
      clear WS B1 hC0
      go_wp2_with fail
      refine (K1.earlyM cw).mono ?_
      rintro e W2 ⟨rfl, K2⟩
      clear K1
      have hc := K2.old
      have hl := K2.lt
      have hsp := speaks_any cb out held due proto renew exp sp W2 (HC.out.later K2.bel)
      rw [HS.out] at hsp
      by_cases hs0 : s = 0
      · have hsb : (s == 0) = true := by simpa using hs0
        have HS0 : Hid (s = 0) := hs0
        clear hs0
        go_wp2_with fail
        refine hsp.mono ?_
        rintro e w1 ⟨rfl, hw1⟩
        have hw1' := hw1.symm
        subst hw1'
        clear hsp
        go_wp2_with fail
        refine (ADD.out _).mono ?_
        rintro e W3 ⟨rfl, B3⟩
        have K3 := K2.below B3
        clear K2 B3 hc hl
        go_wp2_with fail
        refine (K3.earlyM (began + 3)).mono ?_
        rintro e W4 ⟨rfl, K4⟩
        clear K3
        have hc := K4.old
        have hl := K4.lt
        obtain ⟨A0, A1, A2⟩ := K4.now.cells
        obtain ⟨r0, r1, r2⟩ := K4.res.cells
        have f0 := K4.res.frozen 0
        have f1 := K4.res.frozen 1
        have f2 := K4.res.frozen 2
        go_wp2
        refine bodyPost_ret (v := .agg #[.int .u64 0, .int .i64 (mwake true false cw s began iw), .pointer none]) (by simp [results, Yba.results6, go_sem, mwake, r0, r1, r2, zmin_first, HS0.out]) rfl ⟨rfl, ?_⟩
        exact K4.fin _
      · have hsb : (s == 0) = false := by simpa using hs0
        have HS0 : Hid (¬ s = 0) := hs0
        clear hs0
        go_wp2_with fail
        refine hsp.mono ?_
        rintro e w1 ⟨rfl, hw1⟩
        have hw1' := hw1.symm
        subst hw1'
        clear hsp
        have hl := K2.lt
        obtain ⟨A0, A1, A2⟩ := K2.now.cells
        obtain ⟨r0, r1, r2⟩ := K2.res.cells
        have f0 := K2.res.frozen 0
        have f1 := K2.res.frozen 1
        have f2 := K2.res.frozen 2
        go_wp2
        refine bodyPost_ret (v := .agg #[.int .u64 0, .int .i64 (mwake true false cw s began iw), .pointer none]) (by simp [results, Yba.results6, go_sem, mwake, r0, r1, r2, zmin_first, HS0.out]) rfl ⟨rfl, ?_⟩
        exact K2.fin _
    · have hgb := block_lt hG.due.1
      simp only [] at hgb
      have HG : Hid (IgdAt w gb iout sent iheld idue iexp) := hG
      clear hG
      go_enter Yba.func6, Yba.ntmps6
      go_wp2_with fail
      refine hC0.mono ?_
      rintro e W1 ⟨rfl, B1⟩
      have K1 := WS.below B1
      clear WS B1 hC0
      go_wp2_with fail
      refine (K1.earlyM cw).mono ?_
      rintro e W2 ⟨rfl, K2⟩
      clear K1
      have hc := K2.old
      have hl := K2.lt
      have hI0 := iwake_any gb iout sent iheld idue iexp W2 (HG.out.later K2.bel)
      rw [HIW.out] at hI0
      go_wp2_with fail
      refine hI0.mono ?_
      rintro e W3 ⟨rfl, B3⟩
      have K3 := K2.below B3
      clear K2 B3 hI0 hc hl
      go_wp2_with fail
      refine (K3.earlyM iw).mono ?_
      rintro e W4 ⟨rfl, K4⟩
      clear K3
      have hl := K4.lt
      obtain ⟨A0, A1, A2⟩ := K4.now.cells
      obtain ⟨r0, r1, r2⟩ := K4.res.cells
      have f0 := K4.res.frozen 0
      have f1 := K4.res.frozen 1
      have f2 := K4.res.frozen 2
      go_wp2
      refine bodyPost_ret (v := .agg #[.int .u64 0, .int .i64 (mwake true true cw s began iw), .pointer none]) (by simp [results, Yba.results6, go_sem, mwake, r0, r1, r2, zmin_first]) rfl ⟨rfl, ?_⟩
      exact K4.fin _

end Go.Proofs.Ybulkbtsc
