/-
  THE MEMORY OF THE ACCOUNT THAT THE LAW BUILDS: a row of positions (31 cells each: the kind at 0, the number at 30), a row of orders (23 cells each: the kind at 0). No walk here.
-/
import Derived.Test.YbulkbtroFmtSame
import Derived.Deep.OwnRows
namespace Go.Proofs.YbulkbtroFmt
open Go.RowKit

/-- The zero position's, the zero order's cells. -/
def zc40 : Array Value := #[.int .i64 0, .int .i64 0, .int .i64 0, .pointer none, .int .i64 0, .int .i64 0, .pointer none, .int .i64 0, .int .i64 0, .pointer none, .int .i64 0, .int .i64 0, .pointer none, .int .i64 0, .int .i64 0, .pointer none,
  .int .i64 0, .int .i64 0, .pointer none, .int .i64 0, .int .i64 0, .pointer none, .int .i64 0, .slice none 0 0, .bool false, .int .i64 0, .bool false, .int .i64 0, .pointer none, .int .i64 0, .int .i64 0]
def zc44 : Array Value := #[.int .i64 0, .int .i64 0, .int .i64 0, .pointer none, .int .i64 0, .int .i64 0, .pointer none, .int .i64 0, .int .i64 0, .pointer none, .int .i64 0, .int .i64 0, .pointer none, .int .i64 0, .int .i64 0, .pointer none,
  .int .i64 0, .int .i64 0, .pointer none, .int .i64 0, .int .i64 0, .pointer none, .int .i64 0]

theorem info40 : (Ybaf.prog.info? 40).map (fun i => (i.zero, i.size, decide (i.bytes ≤ 4096))) = some (some (.agg zc40), 31, true) := by kernel_rfl
theorem info44 : (Ybaf.prog.info? 44).map (fun i => (i.zero, i.size, decide (i.bytes ≤ 4096))) = some (some (.agg zc44), 23, true) := by kernel_rfl

theorem make_rows (t e size n : Nat) (zc : Array Value) (ht : Ybaf.prog.underlying t = some (.slice e)) (hinfo : (Ybaf.prog.info? e).map (fun i => (i.zero, i.size, decide (i.bytes ≤ 4096))) = some (some (.agg zc), size, true)) (hn : n ≤ 1024) (w : World) :
    (Instr.makeSlice t (.int .i64 (n : Int)) (.int .i64 (n : Int))).run Ybaf.prog w = .ok (.slice (some ⟨w.heap.size, 0, none⟩) n n) (w.alloc (.cells (madeCells zc (n * size)) e)) := by
  obtain ⟨i, hi, hzz⟩ := Option.map_eq_some_iff.1 hinfo
  simp only [Prod.mk.injEq, decide_eq_true_eq] at hzz
  obtain ⟨hz, hs, hb⟩ := hzz
  have hb2 : (i.bytes : Int) * (n : Int) ≤ 4096 * 1024 := Int.mul_le_mul (by omega) (by omega) (by omega) (by omega)
  have h := run_make (P := Ybaf.prog) w t e i (.agg zc) ht hi hz .i64 .i64 n n (by omega) (Int.le_refl _) (by omega) (by omega)
  rw [hs, Int.toNat_natCast] at h
  exact h

theorem made_at (zc : Array Value) (N o : Nat) (h : o < N) : (madeCells zc N)[o]? = some zc[o % zc.size]! := by simp [madeCells, h]

/-- THE POSITIONS' ROW at block P, k of the n kinds laid. -/
def PosRow (w : World) (P n k : Nat) (K : Nat → Int) : Prop :=
  ∃ f, w.rowIs P 40 (n * 31) f ∧ (∀ i, i < n → f (i * 31) = .int .i64 (if i < k then K i else 0)) ∧ ∀ i, i < n → ∃ x, f (i * 31 + 30) = .int .i64 x
/-- THE ORDERS' ROW at block O, k of the m kinds laid. -/
def OrdRow (w : World) (O m k : Nat) (K : Nat → Int) : Prop :=
  ∃ f, w.rowIs O 44 (m * 23) f ∧ ∀ i, i < m → f (i * 23) = .int .i64 (if i < k then K i else 0)

theorem PosRow.made (w : World) (n : Nat) (K : Nat → Int) : PosRow (w.alloc (.cells (madeCells zc40 (n * 31)) 40)) w.heap.size n 0 K := by
  refine ⟨fun o => zc40[o % 31]!, ?_, fun i hi => ?_, fun i hi => ⟨0, ?_⟩⟩
  · have h := World.rowIs_alloc w (madeCells zc40 (n * 31)) 40 (fun o => zc40[o % 31]!) (fun i hi => made_at zc40 (n * 31) i (by simpa [size_madeCells] using hi))
    rwa [size_madeCells] at h
  · show zc40[i * 31 % 31]! = _
    rw [show i * 31 % 31 = 0 by omega]
    rfl
  · show zc40[(i * 31 + 30) % 31]! = _
    rw [show (i * 31 + 30) % 31 = 30 by omega]
    rfl
theorem OrdRow.made (w : World) (m : Nat) (K : Nat → Int) : OrdRow (w.alloc (.cells (madeCells zc44 (m * 23)) 44)) w.heap.size m 0 K := by
  refine ⟨fun o => zc44[o % 23]!, ?_, fun i hi => ?_⟩
  · have h := World.rowIs_alloc w (madeCells zc44 (m * 23)) 44 (fun o => zc44[o % 23]!) (fun i hi => made_at zc44 (m * 23) i (by simpa [size_madeCells] using hi))
    rwa [size_madeCells] at h
  · show zc44[i * 23 % 23]! = _
    rw [show i * 23 % 23 = 0 by omega]
    rfl

theorem PosRow.of_block {w w' : World} {P n k : Nat} {K : Nat → Int} (h : PosRow w P n k K) (e : w'.heap[P]? = w.heap[P]?) : PosRow w' P n k K := by
  obtain ⟨f, h1, h2⟩ := h
  exact ⟨f, h1.of_block e, h2⟩
theorem OrdRow.of_block {w w' : World} {P n k : Nat} {K : Nat → Int} (h : OrdRow w P n k K) (e : w'.heap[P]? = w.heap[P]?) : OrdRow w' P n k K := by
  obtain ⟨f, h1, h2⟩ := h
  exact ⟨f, h1.of_block e, h2⟩
theorem PosRow.lt {w : World} {P n k : Nat} {K : Nat → Int} (h : PosRow w P n k K) : P < w.heap.size := h.elim fun _ h => h.1.lt
theorem OrdRow.lt {w : World} {P n k : Nat} {K : Nat → Int} (h : OrdRow w P n k K) : P < w.heap.size := h.elim fun _ h => h.1.lt
theorem PosRow.frozen {w : World} {P n k : Nat} {K : Nat → Int} (h : PosRow w P n k K) (o : Nat) : w.frozen? ⟨P, o, none⟩ = false := h.elim fun _ h => h.1.frozen o
theorem OrdRow.frozen {w : World} {P n k : Nat} {K : Nat → Int} (h : OrdRow w P n k K) (o : Nat) : w.frozen? ⟨P, o, none⟩ = false := h.elim fun _ h => h.1.frozen o
theorem PosRow.at {w : World} {P n k : Nat} {K : Nat → Int} (h : PosRow w P n k K) (i : Nat) (hi : i < n) : w.cell? ⟨P, i * 31, none⟩ = some (.int .i64 (if i < k then K i else 0)) := by
  obtain ⟨f, h1, h2, _⟩ := h
  rw [h1.cell (by omega), h2 i hi]
theorem PosRow.num {w : World} {P n k : Nat} {K : Nat → Int} (h : PosRow w P n k K) (i : Nat) (hi : i < n) : ∃ x, w.cell? ⟨P, i * 31 + 30, none⟩ = some (.int .i64 x) := by
  obtain ⟨f, h1, _, h3⟩ := h
  obtain ⟨x, hx⟩ := h3 i hi
  exact ⟨x, by rw [h1.cell (by omega), hx]⟩
theorem OrdRow.at {w : World} {P n k : Nat} {K : Nat → Int} (h : OrdRow w P n k K) (i : Nat) (hi : i < n) : w.cell? ⟨P, i * 23, none⟩ = some (.int .i64 (if i < k then K i else 0)) := by
  obtain ⟨f, h1, h2⟩ := h
  rw [h1.cell (by omega), h2 i hi]

theorem PosRow.setKind {w : World} {P n k : Nat} {K : Nat → Int} (h : PosRow w P n k K) {x : Int} (hx : K k = x) : PosRow (w.setCell ⟨P, k * 31, none⟩ (.int .i64 x)) P n (k + 1) K := by
  obtain ⟨f, h1, h2, h3⟩ := h
  refine ⟨_, h1.set (k * 31) _, fun i hi => ?_, fun i hi => ?_⟩
  · by_cases e : i = k
    · subst e
      simp [hx]
    · rw [if_neg (by omega), h2 i hi]
      by_cases e2 : i < k
      · rw [if_pos e2, if_pos (by omega)]
      · rw [if_neg e2, if_neg (by omega)]
  · rw [if_neg (by omega)]
    exact h3 i hi
theorem PosRow.setNum {w : World} {P n k : Nat} {K : Nat → Int} (h : PosRow w P n k K) (j : Nat) (x : Int) : PosRow (w.setCell ⟨P, j * 31 + 30, none⟩ (.int .i64 x)) P n k K := by
  obtain ⟨f, h1, h2, h3⟩ := h
  refine ⟨_, h1.set (j * 31 + 30) _, fun i hi => ?_, fun i hi => ?_⟩
  · rw [if_neg (by omega)]
    exact h2 i hi
  · by_cases e : i = j
    · subst e
      exact ⟨x, by simp⟩
    · rw [if_neg (by omega)]
      exact h3 i hi
theorem OrdRow.setKind {w : World} {P n k : Nat} {K : Nat → Int} (h : OrdRow w P n k K) {x : Int} (hx : K k = x) : OrdRow (w.setCell ⟨P, k * 23, none⟩ (.int .i64 x)) P n (k + 1) K := by
  obtain ⟨f, h1, h2⟩ := h
  refine ⟨_, h1.set (k * 23) _, fun i hi => ?_⟩
  by_cases e : i = k
  · subst e
    simp [hx]
  · rw [if_neg (by omega), h2 i hi]
    by_cases e2 : i < k
    · rw [if_pos e2, if_pos (by omega)]
    · rw [if_neg e2, if_neg (by omega)]

/-- THE ACCOUNT's OWN BLOCK. -/
def Box (w : World) (A : Nat) (pv ov : Value) : Prop := w.heap[A]? = some (.cells #[.int .i64 0, .int .i64 0, .pointer none, .int .i64 0, pv, ov] 31 (0, 0))
theorem Box.of_block {w w' : World} {A : Nat} {pv ov : Value} (h : Box w A pv ov) (e : w'.heap[A]? = w.heap[A]?) : Box w' A pv ov := e.trans h
theorem Box.lt {w : World} {A : Nat} {pv ov : Value} (h : Box w A pv ov) : A < w.heap.size := (Array.getElem?_eq_some_iff.1 h).1
theorem Box.frozen {w : World} {A : Nat} {pv ov : Value} (h : Box w A pv ov) (o : Nat) : w.frozen? ⟨A, o, none⟩ = false := by
  unfold Box at h
  simp [World.frozen?, h]
theorem Box.cells {w : World} {A : Nat} {pv ov : Value} (h : Box w A pv ov) : w.cell? ⟨A, 0, none⟩ = some (.int .i64 0) ∧ w.cell? ⟨A, 1, none⟩ = some (.int .i64 0) ∧ w.cell? ⟨A, 2, none⟩ = some (.pointer none) ∧ w.cell? ⟨A, 3, none⟩ = some (.int .i64 0) ∧ w.cell? ⟨A, 4, none⟩ = some pv ∧ w.cell? ⟨A, 5, none⟩ = some ov := by
  unfold Box at h
  simp [World.cell?, h]
theorem Box.setPos {w : World} {A : Nat} {pv ov : Value} (h : Box w A pv ov) (v : Value) : Box (w.setCell ⟨A, 4, none⟩ v) A v ov := by
  unfold Box at h ⊢
  simp [World.setCell, Array.getElem?_modify, h]
theorem Box.setOrd {w : World} {A : Nat} {pv ov : Value} (h : Box w A pv ov) (v : Value) : Box (w.setCell ⟨A, 5, none⟩ v) A pv v := by
  unfold Box at h ⊢
  simp [World.setCell, Array.getElem?_modify, h]

theorem Box.new (w : World) (pv ov : Value) : Box (w.alloc (.cells #[.int .i64 0, .int .i64 0, .pointer none, .int .i64 0, pv, ov] 31)) w.heap.size pv ov := (MapKept.heap_alloc w _).1
theorem Box.alloc {w : World} {A : Nat} {pv ov : Value} (h : Box w A pv ov) (o : Obj) : Box (w.alloc o) A pv ov := h.of_block (Below.heap_alloc w o A h.lt)
theorem blk_set {w : World} {a : Addr} {v : Value} {k : Nat} (h : k ≠ a.block) : (w.setCell a v).heap[k]? = w.heap[k]? := Below.heap_setCell w a v k h

end Go.Proofs.YbulkbtroFmt
