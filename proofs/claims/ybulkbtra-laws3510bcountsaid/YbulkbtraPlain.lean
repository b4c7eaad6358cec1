/-
  THE PLAIN MATHEMATICS OF LawS3510BCount: no Go in sight: the running sums, the sorted picks.
-/
namespace Go.Proofs.Ybulkbtra

/-- The sum of the first k deltas. -/
def pre (z : List Int) (k : Nat) : Int := (z.take k).sum

theorem pre_zero (z : List Int) : pre z 0 = 0 := rfl
theorem pre_succ (z : List Int) (k : Nat) (h : k < z.length) : pre z (k + 1) = pre z k + z.getD k 0 := by
  unfold pre
  rw [List.take_succ_eq_append_getElem h, List.sum_append]
  simp [h]
theorem pre_step (z : List Int) (hz : ∀ n ∈ z, 0 ≤ n) (k : Nat) : pre z k ≤ pre z (k + 1) := by
  by_cases h : k < z.length
  · rw [pre_succ z k h]
    have := hz (z.getD k 0) (by simp [h])
    omega
  · unfold pre
    rw [List.take_of_length_le (by omega), List.take_of_length_le (by omega)]
    exact Int.le_refl _
theorem pre_mono (z : List Int) (hz : ∀ n ∈ z, 0 ≤ n) {i j : Nat} (h : i ≤ j) : pre z i ≤ pre z j := by
  obtain ⟨d, rfl⟩ := Nat.exists_eq_add_of_le h
  clear h
  induction d with
  | zero => exact Int.le_refl _
  | succ d ih => exact Int.le_trans ih (pre_step z hz _)
theorem pre_bd (z : List Int) (hz : ∀ n ∈ z, 0 ≤ n ∧ n ≤ 255) (k : Nat) : 0 ≤ pre z k ∧ pre z k ≤ 255 * k := by
  induction k with
  | zero => simp [pre_zero]
  | succ k ih =>
    by_cases h : k < z.length
    · rw [pre_succ z k h]
      have := hz (z.getD k 0) (by simp [h])
      omega
    · have e : pre z (k + 1) = pre z k := by
        unfold pre
        rw [List.take_of_length_le (by omega), List.take_of_length_le (by omega)]
      rw [e]
      omega

/-- The picks, each brought below n. -/
def picked (z : List Int) (n : Nat) (k : Nat) : List Int := (z.take k).map fun p => p % (n : Int)
theorem picked_zero (z : List Int) (n : Nat) : picked z n 0 = [] := rfl
theorem picked_succ (z : List Int) (n k : Nat) (h : k < z.length) : picked z n (k + 1) = picked z n k ++ [z.getD k 0 % (n : Int)] := by
  unfold picked
  rw [List.take_succ_eq_append_getElem h, List.map_append]
  simp [h]
theorem picked_length (z : List Int) (n k : Nat) (h : k ≤ z.length) : (picked z n k).length = k := by
  unfold picked
  rw [List.length_map, List.length_take]
  omega
theorem picked_mem (z : List Int) (n k : Nat) (hn : 0 < n) : ∀ x ∈ picked z n k, 0 ≤ x ∧ x < n := by
  intro x hx
  unfold picked at hx
  obtain ⟨p, _, rfl⟩ := List.mem_map.1 hx
  exact ⟨Int.emod_nonneg _ (by omega), Int.emod_lt_of_pos _ (by omega)⟩

/-- The picks in order. -/
def srt (F : List Int) : List Int := F.mergeSort fun x y => decide (x ≤ y)
theorem srt_length (F : List Int) : (srt F).length = F.length := List.length_mergeSort F
theorem srt_mem {F : List Int} {p : Int → Prop} (h : ∀ x ∈ F, p x) : ∀ x ∈ srt F, p x := fun x hx => h x (by simpa [srt] using hx)
theorem srt_pairwise (F : List Int) : (srt F).Pairwise fun x y => x ≤ y := by
  have h := List.pairwise_mergeSort (le := fun x y : Int => decide (x ≤ y)) (by intro a b c h1 h2; simp at *; omega) (by intro a b; simp; omega) F
  unfold srt
  simpa using h
theorem srt_mono (F : List Int) {i j : Nat} (h : i ≤ j) (hj : j < (srt F).length) : (srt F).getD i 0 ≤ (srt F).getD j 0 := by
  by_cases e : i = j
  · subst e; exact Int.le_refl _
  · have := List.pairwise_iff_getElem.1 (srt_pairwise F) i j (by omega) hj (by omega)
    simpa [show i < (srt F).length by omega, hj] using this

/-- The sorted picks as natural numbers. -/
def gth (F : List Int) (j : Nat) : Nat := ((srt F).getD j 0).toNat
theorem gth_cast (F : List Int) (hF : ∀ x ∈ F, 0 ≤ x) (j : Nat) (hj : j < F.length) : ((gth F j : Nat) : Int) = (srt F).getD j 0 := by
  have hl := srt_length F
  have := srt_mem hF ((srt F).getD j 0) (by simp [hl, hj])
  unfold gth
  omega
theorem gth_lt (F : List Int) (n : Nat) (hF : ∀ x ∈ F, 0 ≤ x ∧ x < n) (j : Nat) (hj : j < F.length) : gth F j < n := by
  have hl := srt_length F
  have := srt_mem hF ((srt F).getD j 0) (by simp [hl, hj])
  unfold gth
  omega
theorem gth_mono (F : List Int) {i j : Nat} (h : i ≤ j) (hj : j < F.length) : gth F i ≤ gth F j := by
  have := srt_mono F h (by rw [srt_length]; exact hj)
  unfold gth
  omega

end Go.Proofs.Ybulkbtra
