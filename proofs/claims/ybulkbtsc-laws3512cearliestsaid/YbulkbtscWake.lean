/-
  (*Client).Speaks, (*Client).Wake, (*IGDClient).Wake, walked over a memory that lies as the law's own zzs3512cbuild lays it.
-/
import Derived.Test.YbulkbtscEarly
namespace Go.Proofs.Ybulkbtsc
open Go.RowKit

/-- A TIME AMONG A BLOCK's CELLS. -/
def TAt (w : World) (b o : Nat) (n : Int) : Prop := w.cell? ⟨b, o, none⟩ = some (.int .u64 0) ∧ w.cell? ⟨b, o + 1, none⟩ = some (.int .i64 n) ∧ w.cell? ⟨b, o + 2, none⟩ = some (.pointer none)

theorem block_lt {w : World} {a : Addr} {v : Value} (h : w.cell? a = some v) : a.block < w.heap.size := by
  unfold World.cell? at h
  split at h
  · rename_i c e fr hb
    exact (Array.getElem?_eq_some_iff.1 hb).1
  · simp at h
theorem cell_later {w w' : World} {a : Addr} {v : Value} (hb : Below w.heap.size w w') (h : w.cell? a = some v) : w'.cell? a = some v := (hb.cell (block_lt h)).trans h
theorem TAt.later {w w' : World} {b o : Nat} {n : Int} (h : TAt w b o n) (hb : Below w.heap.size w w') : TAt w' b o n := ⟨cell_later hb h.1, cell_later hb h.2.1, cell_later hb h.2.2⟩

/-- THE CLIENT THAT ASKS BY PCP, as it lies in memory: none; or a block with its request (or none), its mapping (or none), its times. -/
def OutAt (w : World) (cb : Nat) (out : Bool) (due : Int) : Prop :=
  (out = false ∧ w.cell? ⟨cb, 23, none⟩ = some (.pointer none)) ∨ (out = true ∧ ∃ rb, w.cell? ⟨cb, 23, none⟩ = some (.pointer (some ⟨rb, 0, none⟩)) ∧ TAt w rb 5 due)
def HeldAt (w : World) (cb o : Nat) (held : Bool) (proto exp : Int) : Prop :=
  (held = false ∧ w.cell? ⟨cb, o, none⟩ = some (.pointer none)) ∨ (held = true ∧ ∃ hb, w.cell? ⟨cb, o, none⟩ = some (.pointer (some ⟨hb, 0, none⟩)) ∧ w.cell? ⟨hb, 0, none⟩ = some (.int .u8 proto) ∧ TAt w hb 6 exp)
theorem OutAt.later {w w' : World} {cb : Nat} {out : Bool} {due : Int} (h : OutAt w cb out due) (hb : Below w.heap.size w w') : OutAt w' cb out due := by
  rcases h with ⟨e, h⟩ | ⟨e, rb, h, ht⟩
  · exact Or.inl ⟨e, cell_later hb h⟩
  · exact Or.inr ⟨e, rb, cell_later hb h, ht.later hb⟩
theorem HeldAt.later {w w' : World} {cb o : Nat} {held : Bool} {proto exp : Int} (h : HeldAt w cb o held proto exp) (hb : Below w.heap.size w w') : HeldAt w' cb o held proto exp := by
  rcases h with ⟨e, h⟩ | ⟨e, rb, h, h2, ht⟩
  · exact Or.inl ⟨e, cell_later hb h⟩
  · exact Or.inr ⟨e, rb, cell_later hb h, cell_later hb h2, ht.later hb⟩

structure CliAt (w : World) (cb : Nat) (out held : Bool) (due proto renew exp speaks : Int) : Prop where
  out : OutAt w cb out due
  held : HeldAt w cb 16 held proto exp
  renew : TAt w cb 19 renew
  speaks : w.cell? ⟨cb, 24, none⟩ = some (.int .u8 speaks)
theorem CliAt.later {w w' : World} {cb : Nat} {out held : Bool} {due proto renew exp speaks : Int} (h : CliAt w cb out held due proto renew exp speaks) (hb : Below w.heap.size w w') : CliAt w' cb out held due proto renew exp speaks :=
  ⟨h.out.later hb, h.held.later hb, h.renew.later hb, cell_later hb h.speaks⟩

set_option maxHeartbeats 400000 in
theorem speaks_any (cb : Nat) (out held : Bool) (due proto renew exp sp : Int) (w : World) (h : CliAt w cb out held due proto renew exp sp) :
    Calls Yba.prog 13 #[.pointer (some ⟨cb, 0, none⟩)] w fun e w' => e = .returned (.int .u8 (if held then proto else sp)) ∧ w' = w := by
  have hs := h.speaks
  rcases h.held with ⟨rfl, h1⟩ | ⟨rfl, hb, h1, h2, _⟩
  · clear h
    go_enter Yba.func13, Yba.ntmps13
    go_wp2
    go_ret
    exact ⟨rfl, rfl⟩
  · clear h
    go_enter Yba.func13, Yba.ntmps13
    go_wp2
    go_ret
    exact ⟨rfl, rfl⟩

/-- When the client that asks by PCP wakes. -/
def cwake (out held : Bool) (due renew exp : Int) : Int :=
  let x := if out then due else if held then renew else 0
  if held then zmin x exp else x

/-- WHILE A Wake RUNS: its result's block and, behind it, the block of its variable 'at', which holds x; nothing old has turned. -/
structure Wk (w W : World) (x : Int) : Prop where
  now : TBox W (w.heap.size + 1) x
  res : TBox W w.heap.size 0
  bel : Below w.heap.size w W
theorem Wk.start (w : World) : Wk w ((w.alloc (.cells #[.int .u64 0, .int .i64 0, .pointer none] 30)).alloc (.cells #[.int .u64 0, .int .i64 0, .pointer none] 30)) 0 := by
  refine ⟨?_, (TBox.new w 0).alloc _, ((Below.refl _ _).alloc (Nat.le_refl _) _).alloc (by simp) _⟩
  have h := TBox.new (w.alloc (.cells #[.int .u64 0, .int .i64 0, .pointer none] 30)) 0
  simpa using h
theorem Wk.step {w W W' : World} {x y : Int} (h : Wk w W x) (hg : W.grownBy W' (some (w.heap.size + 1))) (ht : TBox W' (w.heap.size + 1) y) : Wk w W' y :=
  ⟨ht, h.res.of_block (hg.block _ h.res.lt (by simp)), h.bel.grown hg h.bel.size (fun k hk => by cases hk; omega)⟩
theorem Wk.below {w W W' : World} {x : Int} (h : Wk w W x) (hb : Below W.heap.size W W') : Wk w W' x := ⟨h.now.later hb, h.res.later hb, h.bel.trans (hb.mono h.bel.size)⟩
theorem Wk.old {w W : World} {x : Int} (h : Wk w W x) : ∀ b o, b < w.heap.size → W.cell? ⟨b, o, none⟩ = w.cell? ⟨b, o, none⟩ := fun b o hb => h.bel.cell (p := ⟨b, o, none⟩) hb
theorem Wk.fin {w W : World} {x : Int} (h : Wk w W x) (y : Int) : Below w.heap.size w (((W.setCell ⟨w.heap.size, 0, none⟩ (.int .u64 0)).setCell ⟨w.heap.size, 1, none⟩ (.int .i64 y)).setCell ⟨w.heap.size, 2, none⟩ (.pointer none)) :=
  ((h.bel.setCell (Nat.le_refl _) _).setCell (Nat.le_refl _) _).setCell (Nat.le_refl _) _
theorem Wk.lt {w W : World} {x : Int} (h : Wk w W x) : w.heap.size + 1 < W.heap.size := h.now.lt
theorem Wk.early {w W : World} {x : Int} (h : Wk w W x) (t : Int) : Calls Yba.prog 19 #[.agg #[.int .u64 0, .int .i64 t, .pointer none], .pointer (some ⟨w.heap.size + 1, 0, none⟩)] W fun e W' => e = .returned (.tuple #[]) ∧ Wk w W' (zmin x t) :=
  (early19 _ x t W h.now).mono fun _ _ ⟨he, ht, hg⟩ => ⟨he, h.step hg ht⟩
theorem Wk.earlyM {w W : World} {x : Int} (h : Wk w W x) (t : Int) : Calls Yba.prog 10 #[.agg #[.int .u64 0, .int .i64 t, .pointer none], .pointer (some ⟨w.heap.size + 1, 0, none⟩)] W fun e W' => e = .returned (.tuple #[]) ∧ Wk w W' (zmin x t) :=
  (early10 _ x t W h.now).mono fun _ _ ⟨he, ht, hg⟩ => ⟨he, h.step hg ht⟩

set_option maxHeartbeats 1000000 in
theorem cwake_any (cb : Nat) (out held : Bool) (due proto renew exp sp : Int) (w : World) (h : CliAt w cb out held due proto renew exp sp) :
    Calls Yba.prog 12 #[.pointer (some ⟨cb, 0, none⟩)] w fun e w' => e = .returned (.agg #[.int .u64 0, .int .i64 (cwake out held due renew exp), .pointer none]) ∧ Below w.heap.size w w' := by
  have hcb := block_lt h.speaks
  have WS := Wk.start w
  rcases h.out with ⟨rfl, o1⟩ | ⟨rfl, rb, o1, o2⟩
  · rcases h.held with ⟨rfl, e1⟩ | ⟨rfl, hb, e1, e2, e3⟩
    · clear h WS
      go_enter Yba.func12, Yba.ntmps12
      go_wp2
      exact bodyPost_ret (v := .agg #[.int .u64 0, .int .i64 (cwake false false due renew exp), .pointer none]) (by simp [results, Yba.results12, go_sem, cwake]) rfl ⟨rfl, ((Below.refl _ _).alloc (Nat.le_refl _) _).alloc (by simp) _⟩
    · obtain ⟨n0, n1, n2⟩ := h.renew
      obtain ⟨x0, x1, x2⟩ := e3
      have hhb := block_lt e2
      simp only [] at n1 n2 x1 x2 hcb hhb
      clear h e2
      go_enter Yba.func12, Yba.ntmps12
      go_wp2_with fail
      refine (WS.early renew).mono ?_
      rintro e W1 ⟨rfl, K1⟩
      clear WS
      have hc := K1.old
      have hl := K1.lt
      go_wp2_with fail
      refine (K1.early exp).mono ?_
      rintro e W2 ⟨rfl, K2⟩
      clear hc hl
      have hl := K2.lt
      obtain ⟨a0, a1, a2⟩ := K2.now.cells
      obtain ⟨r0, r1, r2⟩ := K2.res.cells
      have f0 := K2.res.frozen 0
      have f1 := K2.res.frozen 1
      have f2 := K2.res.frozen 2
      go_wp2
      refine bodyPost_ret (v := .agg #[.int .u64 0, .int .i64 (cwake false true due renew exp), .pointer none]) (by simp [results, Yba.results12, go_sem, cwake, r0, r1, r2, zmin_first]) rfl ⟨rfl, ?_⟩
      exact K2.fin _
  · obtain ⟨d0, d1, d2⟩ := o2
    have hrb := block_lt d0
    rcases h.held with ⟨rfl, e1⟩ | ⟨rfl, hb, e1, e2, e3⟩
    · simp only [] at d1 d2 hcb hrb
      clear h
      go_enter Yba.func12, Yba.ntmps12
      go_wp2_with fail
      refine (WS.early due).mono ?_
      rintro e W2 ⟨rfl, K2⟩
      clear WS
      have hc := K2.old
      have hl := K2.lt
      obtain ⟨a0, a1, a2⟩ := K2.now.cells
      obtain ⟨r0, r1, r2⟩ := K2.res.cells
      have f0 := K2.res.frozen 0
      have f1 := K2.res.frozen 1
      have f2 := K2.res.frozen 2
      go_wp2
      refine bodyPost_ret (v := .agg #[.int .u64 0, .int .i64 (cwake true false due renew exp), .pointer none]) (by simp [results, Yba.results12, go_sem, cwake, r0, r1, r2, zmin_first]) rfl ⟨rfl, ?_⟩
      exact K2.fin _
    · obtain ⟨x0, x1, x2⟩ := e3
      have hhb := block_lt e2
      simp only [] at d1 d2 x1 x2 hcb hrb hhb
      clear h e2
      go_enter Yba.func12, Yba.ntmps12
      go_wp2_with fail
      refine (WS.early due).mono ?_
      rintro e W1 ⟨rfl, K1⟩
      clear WS
      have hc := K1.old
      have hl := K1.lt
      go_wp2_with fail
      refine (K1.early exp).mono ?_
      rintro e W2 ⟨rfl, K2⟩
      clear hc hl
      have hl := K2.lt
      obtain ⟨a0, a1, a2⟩ := K2.now.cells
      obtain ⟨r0, r1, r2⟩ := K2.res.cells
      have f0 := K2.res.frozen 0
      have f1 := K2.res.frozen 1
      have f2 := K2.res.frozen 2
      go_wp2
      refine bodyPost_ret (v := .agg #[.int .u64 0, .int .i64 (cwake true true due renew exp), .pointer none]) (by simp [results, Yba.results12, go_sem, cwake, r0, r1, r2, zmin_first]) rfl ⟨rfl, ?_⟩
      exact K2.fin _

end Go.Proofs.Ybulkbtsc
