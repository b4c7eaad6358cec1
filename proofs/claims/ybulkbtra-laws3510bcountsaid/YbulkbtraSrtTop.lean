/-
  THE SORT AT uint32 (slices.Sort[[]uint32,uint32] and what it calls), over this seat's program: slices.Sort.
  Turned from the guide's own walks over []int (Derived.Sort.WalkA14, Assembly; toys/so): this program's numbers, the element's kind u32. The plain lemmas are imported.
-/
import Derived.Test.YbulkbtraSrtA
import Derived.Test.YbulkbtraSrtA6
import Derived.Test.YbulkbtraSrt7
import Derived.Test.YbulkbtraSrt11
import Derived.Test.YbulkbtraSrtC
import Derived.Test.YbulkbtraSrtC4
import Derived.Test.YbulkbtraSrt13
import Derived.Test.YbulkbtraSrtLen
import Derived.Sort.AssemblyPlain
import Derived.Sort.WalkA14
namespace Go.Proofs.Ybulkbtra
open Go.RowKit Go.Sort

def pdqWalkU : Prop := ∀ (blk off cap a b limit : Nat) (d : Array Int) (w : World), Holds (Value.int .u32) w blk off d → blk < w.heap.size → a ≤ b → b ≤ d.size → d.size < 4611686018427387904 → limit < 4611686018427387904 → Below ltInt a b d →
  Calls Yba.prog 8 #[.slice (some ⟨blk, off, none⟩) d.size cap, .int .i64 a, .int .i64 b, .int .i64 limit] w fun e w' =>
    e = .returned (.tuple #[]) ∧ ∃ n os, w' = grow (putRow (Value.int .u32) (Sort.ahead w n) blk off (Sort.pdq ltInt d a b limit true true)) os

set_option maxRecDepth 100000 in
theorem u32_Sort (hpdq : pdqWalkU) (blk off cap : Nat) (d : Array Int) (w : World) (hH : Holds (Value.int .u32) w blk off d) (hblk : blk < w.heap.size) (hsz : d.size < 4611686018427387904) :
    Calls Yba.prog 4 #[.slice (some ⟨blk, off, none⟩) d.size cap] w fun e w' => e = .returned (.tuple #[]) ∧ ∃ n os, w' = grow (putRow (Value.int .u32) (Sort.ahead w n) blk off (Sort.sort ltInt d)) os := by
  have HH : Hid (Holds (Value.int .u32) w blk off d) := hH
  clear hH
  have hLen : ∀ w, Calls Yba.prog 9 #[.int .u64 (d.size : Int)] w fun e w' => e = .returned (.int .i64 (bitsLen d.size : Nat)) ∧ w' = w := fun w => by
    have h := u32_bits_Len (d.size : Int) w (by omega) (by omega)
    rwa [Int.toNat_natCast, bitLen_eq _ (by omega)] at h
  have hk : bitsLen d.size ≤ 62 := (bitsLen_le_iff d.size 62).2 (by omega)
  go_enter Yba.func4, Yba.ntmps4
  go_wp2_with (first
    | (go_at_call 9; refine (hLen _).mono ?_; rintro e w' ⟨rfl, rfl⟩)
    | (go_at_call 8; refine (hpdq blk off cap 0 d.size (bitsLen d.size) d _ (by exact HH.out) (by exact hblk) (Nat.zero_le _) (Nat.le_refl _) hsz (by omega) (Or.inl rfl)).mono ?_; rintro e w' ⟨rfl, n, os, rfl⟩))
  go_end0
  exact ⟨rfl, n, os, rfl⟩

theorem calleesU : CalleesU := ⟨u32_insertionSort, u32_breakPatterns, u32_choosePivot, u32_partialInsertionSort, u32_partitionEqualOrdered, u32_partitionOrdered⟩

theorem plainU : Plain13 := ⟨swo_ltInt, insertionSort_holds, partialInsertionSort_holds, partition_holds _, partitionEqual_holds _, pdq_sorts _⟩

theorem pdqWalkU_holds : pdqWalkU := fun blk off cap a b limit d w hH hb hab hbd hsz hl hB =>
  u32_pdqsort calleesU plainU (b - a + 1) blk off cap a b limit d w (by omega) hH hb hab hbd hsz hl hB

theorem sort_u32_eq (zs : List Int) : Sort.sort ltInt zs.toArray = (zs.mergeSort fun x y => decide (x ≤ y)).toArray := by
  rw [← sortInt zs]

theorem u32_slices_Sort (blk off cap : Nat) (zs : List Int) (w : World) (hH : Holds (Value.int .u32) w blk off zs.toArray) (hblk : blk < w.heap.size) (hsz : zs.length < 4611686018427387904) :
    Calls Yba.prog 4 #[.slice (some ⟨blk, off, none⟩) zs.length cap] w fun e w' =>
      e = .returned (.tuple #[]) ∧ ∃ n os, w' = grow (putRow (Value.int .u32) (Sort.ahead w n) blk off (zs.mergeSort fun x y => decide (x ≤ y)).toArray) os := by
  have h := u32_Sort pdqWalkU_holds blk off cap zs.toArray w hH hblk (by simpa using hsz)
  rw [sort_u32_eq] at h
  simpa using h

end Go.Proofs.Ybulkbtra
