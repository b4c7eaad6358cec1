/-
  THE MEMORY THAT zzs3512cbuild LAYS, step by step. No walk here.
-/
import Derived.Test.YbulkbtscMapper
import Derived.Deep.OwnRows
namespace Go.Proofs.Ybulkbtsc
open Go.RowKit

/-- THE LAW's INPUT: fifteen cells. -/
def inCells (hp po : Bool) (od : Int) (ph : Bool) (hpr ra pe spk bg : Int) (hi io is : Bool) (idu : Int) (ih : Bool) (ie : Int) : Array Value :=
  #[.bool hp, .bool po, .int .i32 od, .bool ph, .int .u8 hpr, .int .i32 ra, .int .i32 pe, .int .u8 spk, .int .i32 bg, .bool hi, .bool io, .bool is, .int .i32 idu, .bool ih, .int .i32 ie]

/-- Block ib holds the cells c. -/
def Blk (w : World) (ib : Nat) (c : Array Value) (t : TypeId) : Prop := w.heap[ib]? = some (.cells c t (0, 0))
theorem Blk.lt {w : World} {b : Nat} {c : Array Value} {t : TypeId} (h : Blk w b c t) : b < w.heap.size := (Array.getElem?_eq_some_iff.1 h).1
theorem Blk.new (w : World) (c : Array Value) (t : TypeId) : Blk (w.alloc (.cells c t)) w.heap.size c t := (MapKept.heap_alloc w _).1
theorem Blk.of_block {w w' : World} {b : Nat} {c : Array Value} {t : TypeId} (h : Blk w b c t) (e : w'.heap[b]? = w.heap[b]?) : Blk w' b c t := e.trans h
theorem Blk.later {w w' : World} {b : Nat} {c : Array Value} {t : TypeId} (h : Blk w b c t) (hb : Below w.heap.size w w') : Blk w' b c t := h.of_block (hb.block _ h.lt)
theorem Blk.cell {w : World} {b : Nat} {c : Array Value} {t : TypeId} (h : Blk w b c t) (o : Nat) (v : Value) (hv : c[o]? = some v) : w.cell? ⟨b, o, none⟩ = some v := by
  unfold Blk at h
  simp [World.cell?, h, hv]
theorem row_lit (w : World) (c : Array Value) (t : TypeId) : (w.alloc (.cells c t)).rowIs w.heap.size t c.size (fun i => c[i]!) :=
  World.rowIs_alloc w c t _ (fun i hi => by simp [hi])

theorem TAt.kept {w w' : World} {b o B : Nat} {n : Int} (h : TAt w b o n) (hg : w.grownBy w' (some B)) (hne : b ≠ B) : TAt w' b o n :=
  ⟨hg.cell h.1 (fun e => hne (Option.some.inj e)), hg.cell h.2.1 (fun e => hne (Option.some.inj e)), hg.cell h.2.2 (fun e => hne (Option.some.inj e))⟩

/-- A block's time, told by the row's function. -/
def TFn (g : Nat → Value) (o : Nat) (n : Int) : Prop := g o = .int .u64 0 ∧ g (o + 1) = .int .i64 n ∧ g (o + 2) = .pointer none
theorem TFn.at {w : World} {b : Nat} {t : TypeId} {k : Nat} {g : Nat → Value} {o : Nat} {n : Int} (h : TFn g o n) (hr : w.rowIs b t k g) (ho : o + 2 < k) : TAt w b o n :=
  ⟨by rw [hr.cell (by omega), h.1], by rw [hr.cell (by omega), h.2.1], by rw [hr.cell (by omega), h.2.2]⟩

/-- THE REQUEST (or none) behind a row's pointer; THE MAPPING (or none): blocks made later than the row's own. -/
def OutG (w : World) (g : Nat → Value) (cb : Nat) (out : Bool) (due : Int) : Prop :=
  (out = false ∧ g 23 = .pointer none) ∨ (out = true ∧ ∃ rb, g 23 = .pointer (some ⟨rb, 0, none⟩) ∧ cb < rb ∧ TAt w rb 5 due)
def HeldG (w : World) (g : Nat → Value) (o cb : Nat) (held : Bool) (proto exp : Int) : Prop :=
  (held = false ∧ g o = .pointer none) ∨ (held = true ∧ ∃ hb, g o = .pointer (some ⟨hb, 0, none⟩) ∧ cb < hb ∧ w.cell? ⟨hb, 0, none⟩ = some (.int .u8 proto) ∧ TAt w hb 6 exp)
theorem OutG.kept {w w' : World} {g g' : Nat → Value} {cb B : Nat} {out : Bool} {due : Int} (h : OutG w g cb out due) (hg : w.grownBy w' (some B)) (hB : B ≤ cb) (e : g' 23 = g 23) : OutG w' g' cb out due := by
  rcases h with ⟨h, h1⟩ | ⟨h, rb, h1, h2, h3⟩
  · exact Or.inl ⟨h, e.trans h1⟩
  · exact Or.inr ⟨h, rb, e.trans h1, h2, h3.kept hg (by omega)⟩
theorem HeldG.kept {w w' : World} {g g' : Nat → Value} {o cb B : Nat} {held : Bool} {proto exp : Int} (h : HeldG w g o cb held proto exp) (hg : w.grownBy w' (some B)) (hB : B ≤ cb) (e : g' o = g o) : HeldG w' g' o cb held proto exp := by
  rcases h with ⟨h, h1⟩ | ⟨h, rb, h1, h2, h3, h4⟩
  · exact Or.inl ⟨h, e.trans h1⟩
  · exact Or.inr ⟨h, rb, e.trans h1, h2, hg.cell h3 (fun e => by have := Option.some.inj e; simp at this; omega), h4.kept hg (by omega)⟩
theorem OutG.later {w w' : World} {g : Nat → Value} {cb : Nat} {out : Bool} {due : Int} (h : OutG w g cb out due) (hb : Below w.heap.size w w') : OutG w' g cb out due := by
  rcases h with ⟨h, h1⟩ | ⟨h, rb, h1, h2, h3⟩
  · exact Or.inl ⟨h, h1⟩
  · exact Or.inr ⟨h, rb, h1, h2, h3.later hb⟩
theorem HeldG.later {w w' : World} {g : Nat → Value} {o cb : Nat} {held : Bool} {proto exp : Int} (h : HeldG w g o cb held proto exp) (hb : Below w.heap.size w w') : HeldG w' g o cb held proto exp := by
  rcases h with ⟨h, h1⟩ | ⟨h, rb, h1, h2, h3, h4⟩
  · exact Or.inl ⟨h, h1⟩
  · exact Or.inr ⟨h, rb, h1, h2, cell_later hb h3, h4.later hb⟩

structure CliG (w : World) (mb cb : Nat) (g : Nat → Value) (out held : Bool) (due proto renew exp sp : Int) : Prop where
  row : w.rowIs cb 58 31 g
  lt : mb < cb
  out : OutG w g cb out due
  held : HeldG w g 16 cb held proto exp
  renew : TFn g 19 renew
  sp : g 24 = .int .u8 sp
theorem CliG.later {w w' : World} {mb cb : Nat} {g : Nat → Value} {out held : Bool} {due proto renew exp sp : Int} (h : CliG w mb cb g out held due proto renew exp sp) (hb : Below w.heap.size w w') : CliG w' mb cb g out held due proto renew exp sp :=
  ⟨h.row.of_block (hb.block _ h.row.lt), h.lt, h.out.later hb, h.held.later hb, h.renew, h.sp⟩
theorem CliG.kept {w w' : World} {mb cb : Nat} {g : Nat → Value} {out held : Bool} {due proto renew exp sp : Int} (h : CliG w mb cb g out held due proto renew exp sp) (hg : w.grownBy w' (some mb)) : CliG w' mb cb g out held due proto renew exp sp :=
  ⟨h.row.of_block (hg.block _ h.row.lt (fun e => by have := Option.some.inj e; have := h.lt; omega)), h.lt, h.out.kept hg (Nat.le_of_lt h.lt) rfl, h.held.kept hg (Nat.le_of_lt h.lt) rfl, h.renew, h.sp⟩
theorem CliG.cli {w : World} {mb cb : Nat} {g : Nat → Value} {out held : Bool} {due proto renew exp sp : Int} (h : CliG w mb cb g out held due proto renew exp sp) : CliAt w cb out held due proto renew exp sp := by
  refine ⟨?_, ?_, h.renew.at h.row (by omega), by rw [h.row.cell (by omega), h.sp]⟩
  · rcases h.out with ⟨e, h1⟩ | ⟨e, rb, h1, _, h3⟩
    · exact Or.inl ⟨e, by rw [h.row.cell (by omega), h1]⟩
    · exact Or.inr ⟨e, rb, by rw [h.row.cell (by omega), h1], h3⟩
  · rcases h.held with ⟨e, h1⟩ | ⟨e, rb, h1, _, h3, h4⟩
    · exact Or.inl ⟨e, by rw [h.row.cell (by omega), h1]⟩
    · exact Or.inr ⟨e, rb, by rw [h.row.cell (by omega), h1], h3, h4⟩

def XOutG (w : World) (g : Nat → Value) (gb : Nat) (out sent : Bool) : Prop :=
  (out = false ∧ g 13 = .pointer none) ∨ (out = true ∧ ∃ xb, g 13 = .pointer (some ⟨xb, 0, none⟩) ∧ gb < xb ∧ w.cell? ⟨xb, 2, none⟩ = some (.bool sent))
structure IgdG (w : World) (mb gb : Nat) (g : Nat → Value) (out sent held : Bool) (due exp : Int) : Prop where
  row : w.rowIs gb 73 23 g
  lt : mb < gb
  out : XOutG w g gb out sent
  held : HeldG w g 20 gb held 3 exp
  due : TFn g 14 due
theorem IgdG.kept {w w' : World} {mb gb : Nat} {g : Nat → Value} {out sent held : Bool} {due exp : Int} (h : IgdG w mb gb g out sent held due exp) (hg : w.grownBy w' (some mb)) : IgdG w' mb gb g out sent held due exp := by
  refine ⟨h.row.of_block (hg.block _ h.row.lt (fun e => by have := Option.some.inj e; have := h.lt; omega)), h.lt, ?_, h.held.kept hg (Nat.le_of_lt h.lt) rfl, h.due⟩
  rcases h.out with ⟨e, h1⟩ | ⟨e, xb, h1, h2, h3⟩
  · exact Or.inl ⟨e, h1⟩
  · exact Or.inr ⟨e, xb, h1, h2, hg.cell h3 (fun e => by have := Option.some.inj e; simp at this; have := h.lt; omega)⟩
theorem IgdG.igd {w : World} {mb gb : Nat} {g : Nat → Value} {out sent held : Bool} {due exp : Int} (h : IgdG w mb gb g out sent held due exp) : IgdAt w gb out sent held due exp := by
  refine ⟨?_, ?_, h.due.at h.row (by omega)⟩
  · rcases h.out with ⟨e, h1⟩ | ⟨e, xb, h1, _, h3⟩
    · exact Or.inl ⟨e, by rw [h.row.cell (by omega), h1]⟩
    · exact Or.inr ⟨e, xb, by rw [h.row.cell (by omega), h1], h3⟩
  · rcases h.held with ⟨e, h1⟩ | ⟨e, rb, h1, _, h3, h4⟩
    · exact Or.inl ⟨e, by rw [h.row.cell (by omega), h1]⟩
    · exact Or.inr ⟨e, rb, by rw [h.row.cell (by omega), h1], h3, h4⟩

/-- WHILE THE BUILDER RUNS: the input's block, the mapper's row, the time of its beginning; nothing old has turned. -/
structure Bld (w W : World) (mb : Nat) (C : Array Value) (f : Nat → Value) (bg : Int) : Prop where
  inb : Blk W w.heap.size C 23
  row : W.rowIs mb 47 13 f
  lt : w.heap.size < mb
  began : TFn f 8 bg
  bel : Below w.heap.size w W
theorem Bld.later {w W W' : World} {mb : Nat} {C : Array Value} {f : Nat → Value} {bg : Int} (h : Bld w W mb C f bg) (hb : Below W.heap.size W W') : Bld w W' mb C f bg :=
  ⟨h.inb.later hb, h.row.of_block (hb.block _ h.row.lt), h.lt, h.began, h.bel.trans (hb.mono h.bel.size)⟩
theorem Bld.kept {w W W' : World} {mb B : Nat} {C : Array Value} {f : Nat → Value} {bg : Int} (h : Bld w W mb C f bg) (hg : W.grownBy W' (some B)) (hB : mb < B) : Bld w W' mb C f bg :=
  ⟨h.inb.of_block (hg.block _ h.inb.lt (fun e => by have := Option.some.inj e; have := h.lt; omega)), h.row.of_block (hg.block _ h.row.lt (fun e => by have := Option.some.inj e; omega)), h.lt, h.began,
    h.bel.grown hg h.bel.size (fun k hk => by cases hk; have := h.lt; omega)⟩
theorem Bld.setM {w W : World} {mb o : Nat} {C : Array Value} {f : Nat → Value} {bg : Int} (h : Bld w W mb C f bg) (ho : o < 8 ∨ 10 < o) (v : Value) : Bld w (W.setCell ⟨mb, o, none⟩ v) mb C (fun j => if j = o then v else f j) bg := by
  refine ⟨h.inb.of_block (Below.heap_setCell W _ v _ (by show w.heap.size ≠ mb; have := h.lt; omega)), h.row.set o v, h.lt, ⟨?_, ?_, ?_⟩, h.bel.setCell (by show w.heap.size ≤ mb; have := h.lt; omega) _⟩
  · simp only []; rw [if_neg (by omega)]; exact h.began.1
  · simp only []; rw [if_neg (by omega)]; exact h.began.2.1
  · simp only []; rw [if_neg (by omega)]; exact h.began.2.2
theorem grown_setM (W : World) (mb o : Nat) (v : Value) : W.grownBy (W.setCell ⟨mb, o, none⟩ v) (some mb) := grown_set (grown_of_below (Below.refl _ W) _) v

def PcpG (w : World) (mb : Nat) (f : Nat → Value) (hp out held : Bool) (due proto renew exp sp : Int) : Prop :=
  (hp = false ∧ f 7 = .pointer none) ∨ (hp = true ∧ ∃ cb g, f 7 = .pointer (some ⟨cb, 0, none⟩) ∧ CliG w mb cb g out held due proto renew exp sp)
theorem PcpG.later {w w' : World} {mb : Nat} {f : Nat → Value} {hp out held : Bool} {due proto renew exp sp : Int} (h : PcpG w mb f hp out held due proto renew exp sp) (hb : Below w.heap.size w w') : PcpG w' mb f hp out held due proto renew exp sp := by
  rcases h with h | ⟨e, cb, g, h1, h2⟩
  · exact Or.inl h
  · exact Or.inr ⟨e, cb, g, h1, h2.later hb⟩

theorem bld_start (w W : World) (C : Array Value) (bg : Int) (hib : Blk W w.heap.size C 23) (hbel : Below w.heap.size w W) :
    ∃ f, Bld w (W.alloc (.cells #[.int .u16 0, .int .u64 0, .int .u64 0, .pointer none, .int .u64 0, .int .u64 0, .pointer none, .pointer none, .int .u64 0, .int .i64 bg, .pointer none, .bool false, .pointer none] 47)) W.heap.size C f bg ∧ f 12 = .pointer none ∧ f 7 = .pointer none :=
  ⟨fun i => (#[.int .u16 0, .int .u64 0, .int .u64 0, .pointer none, .int .u64 0, .int .u64 0, .pointer none, .pointer none, .int .u64 0, .int .i64 bg, .pointer none, .bool false, .pointer none] : Array Value)[i]!,
    ⟨hib.later ((Below.refl _ _).alloc (Nat.le_refl _) _), row_lit W _ 47, hib.lt, ⟨rfl, rfl, rfl⟩, hbel.alloc hbel.size _⟩, rfl, rfl⟩

theorem cli_start {w W : World} {mb : Nat} {C : Array Value} {f : Nat → Value} {bg : Int} (od pr ra pe sp : Int) (hB : Bld w W mb C f bg) (c : Array Value) (hsz : c.size = 31) (h23 : c[23]! = .pointer none) (h16 : c[16]! = .pointer none)
    (hT : TFn (fun i => c[i]!) 19 ra) (h24 : c[24]! = .int .u8 sp) :
    ∃ cb g, Value.pointer (some ⟨W.heap.size, 0, none⟩) = .pointer (some ⟨cb, 0, none⟩) ∧ CliG (W.alloc (.cells c 58)) mb cb g false false od pr ra pe sp ∧ Bld w (W.alloc (.cells c 58)) mb C f bg := by
  refine ⟨W.heap.size, fun i => c[i]!, rfl, ⟨?_, hB.row.lt, Or.inl ⟨rfl, h23⟩, Or.inl ⟨rfl, h16⟩, hT, h24⟩, hB.later ((Below.refl _ _).alloc (Nat.le_refl _) _)⟩
  have h := row_lit W c 58
  rwa [hsz] at h

/-- A new block behind a store into an older one. -/
theorem grown_store (W : World) (cb o : Nat) (v : Value) (ob : Obj) : W.grownBy ((W.alloc ob).setCell ⟨cb, o, none⟩ v) (some cb) :=
  grown_set (grown_of_below ((Below.refl _ W).alloc (Nat.le_refl _) ob) _) v
theorem new_row (W : World) (cb o : Nat) (v : Value) (c : Array Value) (t : TypeId) (hcb : cb < W.heap.size) : ((W.alloc (.cells c t)).setCell ⟨cb, o, none⟩ v).rowIs W.heap.size t c.size (fun i => c[i]!) :=
  (row_lit W c t).setOther (by show W.heap.size ≠ cb; omega) v
theorem new_time (W : World) (cb o : Nat) (v : Value) (c : Array Value) (t : TypeId) (p : Nat) (n : Int) (hcb : cb < W.heap.size) (hT : TFn (fun i => c[i]!) p n) (hp : p + 2 < c.size) :
    TAt ((W.alloc (.cells c t)).setCell ⟨cb, o, none⟩ v) W.heap.size p n := hT.at (new_row W cb o v c t hcb) hp

theorem cli_out {w W : World} {mb cb : Nat} {C : Array Value} {f g : Nat → Value} {bg od pr ra pe sp : Int} (hC : CliG W mb cb g false false od pr ra pe sp) (hB : Bld w W mb C f bg) (c : Array Value) (hT : TFn (fun i => c[i]!) 5 od) (hsz : c.size = 8) :
    ∃ g, CliG ((W.alloc (.cells c 62)).setCell ⟨cb, 23, none⟩ (.pointer (some ⟨W.heap.size, 0, none⟩))) mb cb g true false od pr ra pe sp ∧ Bld w ((W.alloc (.cells c 62)).setCell ⟨cb, 23, none⟩ (.pointer (some ⟨W.heap.size, 0, none⟩))) mb C f bg := by
  have hg := grown_store W cb 23 (.pointer (some ⟨W.heap.size, 0, none⟩)) (.cells c 62)
  refine ⟨_, ⟨(hC.row.alloc _).set 23 _, hC.lt, Or.inr ⟨rfl, W.heap.size, rfl, hC.row.lt, new_time W cb 23 _ c 62 5 od hC.row.lt hT (by omega)⟩, hC.held.kept hg (Nat.le_refl _) rfl, hC.renew, hC.sp⟩, hB.kept hg hC.lt⟩

theorem cli_held {w W : World} {mb cb : Nat} {C : Array Value} {f g : Nat → Value} {bg od pr ra pe sp : Int} {po : Bool} (hC : CliG W mb cb g po false od pr ra pe sp) (hB : Bld w W mb C f bg) (c : Array Value) (hT : TFn (fun i => c[i]!) 6 pe) (h0 : c[0]! = .int .u8 pr) (hsz : c.size = 9) :
    ∃ g, CliG ((W.alloc (.cells c 67)).setCell ⟨cb, 16, none⟩ (.pointer (some ⟨W.heap.size, 0, none⟩))) mb cb g po true od pr ra pe sp ∧ Bld w ((W.alloc (.cells c 67)).setCell ⟨cb, 16, none⟩ (.pointer (some ⟨W.heap.size, 0, none⟩))) mb C f bg := by
  have hg := grown_store W cb 16 (.pointer (some ⟨W.heap.size, 0, none⟩)) (.cells c 67)
  have hr := new_row W cb 16 (.pointer (some ⟨W.heap.size, 0, none⟩)) c 67 hC.row.lt
  refine ⟨_, ⟨(hC.row.alloc _).set 16 _, hC.lt, hC.out.kept hg (Nat.le_refl _) rfl, Or.inr ⟨rfl, W.heap.size, rfl, hC.row.lt, by rw [hr.cell (by omega), h0], new_time W cb 16 _ c 67 6 pe hC.row.lt hT (by omega)⟩, hC.renew, hC.sp⟩, hB.kept hg hC.lt⟩

theorem igd_start {w W : World} {mb : Nat} {C : Array Value} {f : Nat → Value} {bg : Int} (is : Bool) (idu ie : Int) (hB : Bld w W mb C f bg) (c : Array Value) (hsz : c.size = 23) (h13 : c[13]! = .pointer none) (h20 : c[20]! = .pointer none) (hT : TFn (fun i => c[i]!) 14 idu) :
    ∃ gb g, Value.pointer (some ⟨W.heap.size, 0, none⟩) = .pointer (some ⟨gb, 0, none⟩) ∧ IgdG (W.alloc (.cells c 73)) mb gb g false is false idu ie ∧ Bld w (W.alloc (.cells c 73)) mb C f bg := by
  refine ⟨W.heap.size, fun i => c[i]!, rfl, ⟨?_, hB.row.lt, Or.inl ⟨rfl, h13⟩, Or.inl ⟨rfl, h20⟩, hT⟩, hB.later ((Below.refl _ _).alloc (Nat.le_refl _) _)⟩
  have h := row_lit W c 73
  rwa [hsz] at h

theorem igd_out {w W : World} {mb gb : Nat} {C : Array Value} {f g : Nat → Value} {bg idu ie : Int} {is : Bool} (hG : IgdG W mb gb g false is false idu ie) (hB : Bld w W mb C f bg) (c : Array Value) (h2 : c[2]! = .bool is) (hsz : c.size = 3) :
    ∃ g, IgdG ((W.alloc (.cells c 76)).setCell ⟨gb, 13, none⟩ (.pointer (some ⟨W.heap.size, 0, none⟩))) mb gb g true is false idu ie ∧ Bld w ((W.alloc (.cells c 76)).setCell ⟨gb, 13, none⟩ (.pointer (some ⟨W.heap.size, 0, none⟩))) mb C f bg := by
  have hg := grown_store W gb 13 (.pointer (some ⟨W.heap.size, 0, none⟩)) (.cells c 76)
  have hr := new_row W gb 13 (.pointer (some ⟨W.heap.size, 0, none⟩)) c 76 hG.row.lt
  refine ⟨_, ⟨(hG.row.alloc _).set 13 _, hG.lt, Or.inr ⟨rfl, W.heap.size, rfl, hG.row.lt, by rw [hr.cell (by omega), h2]⟩, hG.held.kept hg (Nat.le_refl _) rfl, hG.due⟩, hB.kept hg hG.lt⟩

theorem XOutG.kept {w w' : World} {g g' : Nat → Value} {gb : Nat} {out sent : Bool} (h : XOutG w g gb out sent) (hg : w.grownBy w' (some gb)) (e : g' 13 = g 13) : XOutG w' g' gb out sent := by
  rcases h with ⟨h, h1⟩ | ⟨h, xb, h1, h2, h3⟩
  · exact Or.inl ⟨h, e.trans h1⟩
  · exact Or.inr ⟨h, xb, e.trans h1, h2, hg.cell h3 (fun e => by have := Option.some.inj e; simp at this; omega)⟩

theorem igd_held {w W : World} {mb gb : Nat} {C : Array Value} {f g : Nat → Value} {bg idu ie : Int} {io is : Bool} (hG : IgdG W mb gb g io is false idu ie) (hB : Bld w W mb C f bg) (c : Array Value) (hT : TFn (fun i => c[i]!) 6 ie) (h0 : c[0]! = .int .u8 3) (hsz : c.size = 9) :
    ∃ g, IgdG ((W.alloc (.cells c 67)).setCell ⟨gb, 20, none⟩ (.pointer (some ⟨W.heap.size, 0, none⟩))) mb gb g io is true idu ie ∧ Bld w ((W.alloc (.cells c 67)).setCell ⟨gb, 20, none⟩ (.pointer (some ⟨W.heap.size, 0, none⟩))) mb C f bg := by
  have hg := grown_store W gb 20 (.pointer (some ⟨W.heap.size, 0, none⟩)) (.cells c 67)
  have hr := new_row W gb 20 (.pointer (some ⟨W.heap.size, 0, none⟩)) c 67 hG.row.lt
  refine ⟨_, ⟨(hG.row.alloc _).set 20 _, hG.lt, hG.out.kept hg rfl, Or.inr ⟨rfl, W.heap.size, rfl, hG.row.lt, by rw [hr.cell (by omega), h0], new_time W gb 20 _ c 67 6 ie hG.row.lt hT (by omega)⟩, hG.due⟩, hB.kept hg hG.lt⟩

end Go.Proofs.Ybulkbtsc
