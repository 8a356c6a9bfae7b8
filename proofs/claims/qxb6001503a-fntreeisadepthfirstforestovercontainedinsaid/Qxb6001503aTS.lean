/- slices.Sort at []int. -/
import Derived.Test.Qxb6001503aT5
import Derived.Shelf.Sort.Plain
import Derived.Shelf.Lay
import Derived.Sort.OwnSortedInts
namespace Go.Proofs.Qxb6001503a
open Go.Shelf Go.RowKit
shelf_lay Lays.n189 Nm 189 at Try as Try.lays189

/-- The sorted list. -/
def sorted (zs : List Int) : List Int := zs.mergeSort fun x y => decide (x ≤ y)

theorem sorted_length (zs : List Int) : (sorted zs).length = zs.length := List.length_mergeSort ..
theorem sorted_mem (zs : List Int) (x : Int) : x ∈ sorted zs ↔ x ∈ zs := (List.mergeSort_perm ..).mem_iff

theorem sorted_asc {zs : List Int} (h : zs.Nodup) : Asc (sorted zs) := by
  have h1 : (sorted zs).Pairwise fun x y => decide (x ≤ y) = true := List.pairwise_mergeSort (fun a b c h1 h2 => by simp at *; omega) (fun a b => by simp; omega) zs
  have h2 : (sorted zs).Nodup := (List.mergeSort_perm ..).nodup_iff.2 h
  refine (List.pairwise_and_iff.2 ⟨h1, h2⟩).imp ?_
  rintro a b ⟨h3, h4⟩
  simp at h3
  omega

theorem sort_own (base g cap : Nat) (zs : List Int) (w : World) (h : w.ownsRow base 3 1 (.slice (some ⟨g, 0, none⟩) zs.length cap) zs.length (vals zs)) (hl : zs.length ≤ 4096) :
    Calls Try.prog 14 #[.slice (some ⟨g, 0, none⟩) zs.length cap] w fun e w' => e = .returned (.tuple #[]) ∧ w'.ownsRow base 3 1 (.slice (some ⟨g, 0, none⟩) zs.length cap) zs.length (vals (sorted zs)) ∧ w.grownBy w' (some g) := by
  rcases h.2 with ⟨e, _⟩ | ⟨g', cap', cur, e, hg, hb, h1, h2, h3, h4⟩
  · cases e
  · cases e
    have hH := holds_of_blockI (ss := zs) hb (by rw [Nat.mul_one] at h4; exact h4)
    refine (Any.slices_Sort_int Try.lays189 g 0 cap zs w hH (lt_of_block hb) (by omega)).mono ?_
    rintro e w' ⟨rfl, n, os, rfl⟩
    exact ⟨rfl, ownsRow_sortedI (ts := sorted zs) (sorted_length zs) hg hb h1 h2 h3, grownBy_sortedI _⟩
end Go.Proofs.Qxb6001503a
