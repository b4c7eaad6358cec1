/-
  FROM THE SORT's WORDS ('Holds', 'putRow', 'grow') TO THE LAW's ('ownsRow', 'grownBy', cells): slices.Sort, slices.Equal as the law's walk meets them.
-/
import Derived.Test.YbulkbtraSrtTop
import Derived.Test.YbulkbtraCalls
import Derived.Test.YbulkbtraPlain
namespace Go.Proofs.Ybulkbtra
open Go.RowKit Go.Sort

/-- A cell that is there lies in a block that is there. -/
theorem block_lt {w : World} {a : Addr} {v : Value} (h : w.cell? a = some v) : a.block < w.heap.size := by
  unfold World.cell? at h
  split at h
  · rename_i c e fr hb
    exact (Array.getElem?_eq_some_iff.1 hb).1
  · simp at h

theorem owns_cell {w : World} {base b n cap : Nat} {xs : List Value} (h : w.ownsRow base 24 1 (.slice (some ⟨b, 0, none⟩) n cap) n xs) (j : Nat) (u : Value) (hj : xs[j]? = some u) : w.cell? ⟨b, j, none⟩ = some u := by
  have := h.cells (g := b) rfl j u hj
  rwa [Addr.add_lit, Nat.zero_add] at this

theorem holds_owned {w : World} {base b n cap : Nat} {F : List Int} (h : w.ownsRow base 24 1 (.slice (some ⟨b, 0, none⟩) n cap) n (F.map (Value.int .u32))) : Holds (Value.int .u32) w b 0 F.toArray ∧ b < w.heap.size := by
  rcases h.2 with ⟨h0, _⟩ | ⟨g, cap', cur, hv, _, hb, _⟩
  · cases h0
  · cases hv
    refine ⟨fun j hj => ⟨?_, by simp [World.frozen?, hb]⟩, (Array.getElem?_eq_some_iff.1 hb).1⟩
    have hj' : j < F.length := by simpa using hj
    rw [Nat.zero_add]
    exact owns_cell h j _ (by simp [hj'])

theorem grownBy_sortU {w : World} {g n : Nat} {os : Array Obj} (d : Array Int) : w.grownBy (grow (putRow (Value.int .u32) (Sort.ahead w n) g 0 d) os) (some g) := by
  refine ⟨rfl, rfl, rfl, by simp, fun k hk hne => ?_⟩
  rw [heap_grow_old _ _ (by simpa using hk)]
  have : g ≠ k := fun e => hne (by rw [e])
  simp [putRow, mapBlock, Sort.ahead, Array.getElem?_modify, this]

/-- slices.Sort on a row of the call's own. -/
theorem sort_any (base b n cap : Nat) (F : List Int) (w : World) (hown : w.ownsRow base 24 1 (.slice (some ⟨b, 0, none⟩) n cap) n (F.map (Value.int .u32))) (hn : n ≤ 1024) (hF : ∀ x ∈ F, 0 ≤ x) :
    Calls Yba.prog 4 #[.slice (some ⟨b, 0, none⟩) n cap] w fun e w' => e = .returned (.tuple #[]) ∧ w.grownBy w' (some b) ∧ ∀ j, j < n → w'.cell? ⟨b, j, none⟩ = some (.int .u32 (gth F j : Nat)) := by
  have hl : F.length = n := by have := hown.1; simpa using this
  subst hl
  obtain ⟨hH, hb⟩ := holds_owned hown
  refine (u32_slices_Sort b 0 cap F w hH hb (by omega)).mono ?_
  rintro e w' ⟨rfl, m, os, rfl⟩
  refine ⟨rfl, grownBy_sortU _, fun j hj => ?_⟩
  have hs : (srt F).toArray.size = F.toArray.size := by simp [srt_length]
  have h2 := holds_grow (Value.int .u32) _ os b 0 _ (by simpa using hb) (holds_putRow (Value.int .u32) (Sort.ahead w m) b 0 F.toArray (srt F).toArray (holds_ahead _ _ _ _ _ _ hH) hs)
  have h3 := (h2 j (by simpa [srt_length] using hj)).1
  rw [Nat.zero_add] at h3
  refine Eq.trans h3 ?_
  rw [gth_cast F hF j hj]
  have hj2 : j < (srt F).length := by rw [srt_length]; exact hj
  simp [hj2]

/-- slices.Equal of what slices.Clone gave and of the row that it was taken of. -/
theorem equal_keep (base b n cap : Nat) (v : Value) (g : Nat → Nat) (w : World) (hn : n ≤ 1024) (hown : w.ownsRow base 24 1 v n ((List.range n).map fun j => Value.int .u32 (g j : Nat)))
    (hc : ∀ j, j < n → w.cell? ⟨b, j, none⟩ = some (.int .u32 (g j : Nat))) :
    Calls Yba.prog 7 #[v, .slice (some ⟨b, 0, none⟩) n cap] w fun e w' => e = .returned (.bool true) ∧ ∃ q, w' = w.drewN q := by
  rcases hown.2 with ⟨rfl, rfl⟩ | ⟨g1, cap1, cur, rfl, _⟩
  · exact equal_none _ _ _ _ _
  · exact equal_any g1 cap1 b cap n hn (fun j => (g j : Nat)) w (fun j hj => owns_cell hown j _ (by simp [hj])) hc

end Go.Proofs.Ybulkbtra
