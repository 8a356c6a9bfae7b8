/- The plain search: frames, one step, what stays true. -/
import Derived.Test.Qxb6001503aT6
namespace Go.Proofs.Qxb6001503a
open Go.RowKit

/-- A frame of the search. -/
structure Fr where
  i : Int
  p : Int
  d : Int

/-- Is the index k among those placed? -/
def isDone (out : List Fr) (k : Int) : Bool := out.any fun f => f.i == k

theorem isDone_iff (out : List Fr) (k : Int) : isDone out k = true ↔ k ∈ out.map (·.i) := by
  simp only [isDone, List.any_eq_true, beq_iff_eq, List.mem_map]

theorem isDone_false (out : List Fr) (k : Int) : isDone out k = false ↔ ¬ k ∈ out.map (·.i) := by
  rw [← isDone_iff, Bool.not_eq_true]

/-- The frames that placing f lays upon the stack. -/
def pushK (ks : List Int) (out : List Fr) (f : Fr) : List Fr := (ks.filter fun k => !isDone out k).map fun k => ⟨k, f.i, f.d + 1⟩

/-- One step. -/
def stepS (kids : Int → List Int) : List Fr × List Fr → List Fr × List Fr
  | ([], out) => ([], out)
  | (f :: st, out) => if isDone out f.i then (st, out) else (pushK (kids f.i) (out ++ [f]) f ++ st, out ++ [f])

/-- n steps. -/
def iterS (kids : Int → List Int) : Nat → List Fr × List Fr → List Fr × List Fr
  | 0, s => s
  | n + 1, s => stepS kids (iterS kids n s)

/-- From s to s'. -/
def Reach (kids : Int → List Int) (s s' : List Fr × List Fr) : Prop := ∃ n, iterS kids n s = s'

theorem Reach.refl (kids : Int → List Int) (s : List Fr × List Fr) : Reach kids s s := ⟨0, rfl⟩

theorem Reach.skip {kids : Int → List Int} {s : List Fr × List Fr} {f : Fr} {st out : List Fr} (h : Reach kids s (f :: st, out)) (hd : isDone out f.i = true) : Reach kids s (st, out) := by
  obtain ⟨n, h⟩ := h
  exact ⟨n + 1, by simp [iterS, h, stepS, hd]⟩

theorem Reach.place {kids : Int → List Int} {s : List Fr × List Fr} {f : Fr} {st out : List Fr} (h : Reach kids s (f :: st, out)) (hd : isDone out f.i = false) : Reach kids s (pushK (kids f.i) (out ++ [f]) f ++ st, out ++ [f]) := by
  obtain ⟨n, h⟩ := h
  exact ⟨n + 1, by simp [iterS, h, stepS, hd]⟩

/-- What the search keeps. -/
structure Pure (K : List Int) (st out : List Fr) : Prop where
  inK : ∀ f ∈ st, f.i ∈ K
  nodup : (out.map (·.i)).Nodup
  outK : ∀ f ∈ out, f.i ∈ K
  dep : ∀ f ∈ st, 0 ≤ f.d ∧ f.d ≤ out.length
  short : st.length ≤ 1 + out.length * K.length

theorem nodup_le {L K : List Int} (h : L.Nodup) (hs : ∀ x ∈ L, x ∈ K) : L.length ≤ K.length := by
  induction L generalizing K with
  | nil => simp
  | cons x L ih =>
    rw [List.nodup_cons] at h
    have hx : x ∈ K := hs x (by simp)
    have := ih (K := K.erase x) h.2 (fun y hy => by
      have hne : y ≠ x := fun e => h.1 (e ▸ hy)
      exact (List.mem_erase_of_ne hne).2 (hs y (by simp [hy])))
    rw [List.length_erase_of_mem hx] at this
    have hp : 0 < K.length := List.length_pos_of_mem hx
    simp only [List.length_cons]
    omega

theorem Pure.out_le {K : List Int} {st out : List Fr} (h : Pure K st out) : out.length ≤ K.length := by
  have := nodup_le h.nodup (K := K) (fun x hx => by
    obtain ⟨f, hf, rfl⟩ := List.mem_map.1 hx
    exact h.outK f hf)
  simpa using this

theorem Pure.skip {K : List Int} {f : Fr} {st out : List Fr} (h : Pure K (f :: st) out) : Pure K st out :=
  ⟨fun g hg => h.inK g (by simp [hg]), h.nodup, h.outK, fun g hg => h.dep g (by simp [hg]), by have := h.short; simp only [List.length_cons] at this; omega⟩

theorem nodup_snoc {out : List Fr} {f : Fr} (h : (out.map (·.i)).Nodup) (hd : isDone out f.i = false) : ((out ++ [f]).map (·.i)).Nodup := by
  rw [List.map_append, List.nodup_append]
  refine ⟨h, by simp, fun a ha b hb => ?_⟩
  simp at hb
  subst hb
  rintro rfl
  exact (isDone_false out f.i).1 hd ha

theorem Pure.lt {K : List Int} {f : Fr} {st out : List Fr} (h : Pure K (f :: st) out) (hd : isDone out f.i = false) : out.length < K.length := by
  have := nodup_le (nodup_snoc h.nodup hd) (K := K) (fun x hx => by
    obtain ⟨g, hg, rfl⟩ := List.mem_map.1 hx
    rcases List.mem_append.1 hg with hg | hg
    · exact h.outK g hg
    · simp at hg; subst hg; exact h.inK g (by simp))
  simp at this
  omega

theorem pushK_length (ks : List Int) (out : List Fr) (f : Fr) : (pushK ks out f).length ≤ ks.length := by
  unfold pushK
  rw [List.length_map]
  exact List.length_filter_le _ _

theorem Pure.place {K : List Int} {kids : List Int} {f : Fr} {st out : List Fr} (h : Pure K (f :: st) out) (hd : isDone out f.i = false) (hk : ∀ x ∈ kids, x ∈ K) (hl : kids.length ≤ K.length) :
    Pure K (pushK kids (out ++ [f]) f ++ st) (out ++ [f]) := by
  have hf := h.dep f (by simp)
  refine ⟨fun g hg => ?_, nodup_snoc h.nodup hd, fun g hg => ?_, fun g hg => ?_, ?_⟩
  · rcases List.mem_append.1 hg with hg | hg
    · unfold pushK at hg
      obtain ⟨x, hx, rfl⟩ := List.mem_map.1 hg
      exact hk x (List.mem_filter.1 hx).1
    · exact h.inK g (by simp [hg])
  · rcases List.mem_append.1 hg with hg | hg
    · exact h.outK g hg
    · simp at hg; subst hg; exact h.inK g (by simp)
  · rw [List.length_append, List.length_singleton]
    rcases List.mem_append.1 hg with hg | hg
    · unfold pushK at hg
      obtain ⟨x, hx, rfl⟩ := List.mem_map.1 hg
      simp only
      omega
    · have := h.dep g (by simp [hg]); omega
  · have h1 := h.short
    have h2 := pushK_length kids (out ++ [f]) f
    simp only [List.length_append, List.length_cons, List.length_nil, Nat.zero_add, Nat.add_mul, Nat.one_mul] at h1 ⊢
    omega

/-- How many rounds at most are to come. -/
def meas (K : List Int) (st out : List Fr) : Nat := (K.length - out.length) * (K.length + 1) + st.length

theorem meas_skip (K : List Int) (f : Fr) (st out : List Fr) : meas K st out < meas K (f :: st) out := by simp [meas]

theorem meas_place {K : List Int} {kids : List Int} {f : Fr} {st out : List Fr} (h : Pure K (f :: st) out) (hd : isDone out f.i = false) (hl : kids.length ≤ K.length) :
    meas K (pushK kids (out ++ [f]) f ++ st) (out ++ [f]) < meas K (f :: st) out := by
  have h1 := h.lt hd
  have h2 := pushK_length kids (out ++ [f]) f
  unfold meas
  simp only [List.length_append, List.length_cons, List.length_nil, Nat.zero_add]
  obtain ⟨m, hm⟩ : ∃ m, K.length - out.length = m + 1 := ⟨K.length - out.length - 1, by omega⟩
  have hm' : K.length - (out.length + 1) = m := by omega
  rw [hm, hm', Nat.add_mul, Nat.one_mul]
  omega

/-- The stack while the kids from the j-th on have been laid. -/
def pushJ (ks : List Int) (out : List Fr) (f : Fr) (st : List Fr) (j : Nat) : List Fr := pushK (ks.drop j) out f ++ st

theorem pushJ_end (ks : List Int) (out : List Fr) (f : Fr) (st : List Fr) (j : Nat) (h : ks.length ≤ j) : pushJ ks out f st j = st := by
  simp [pushJ, List.drop_eq_nil_of_le h, pushK]

theorem pushJ_zero (ks : List Int) (out : List Fr) (f : Fr) (st : List Fr) : pushJ ks out f st 0 = pushK ks out f ++ st := by simp [pushJ]

theorem pushJ_no {ks : List Int} {out : List Fr} {f : Fr} {st : List Fr} {j : Nat} (hj : j < ks.length) {x : Int} (hx : x = ks.getD j 0) (hd : isDone out x = true) : pushJ ks out f st j = pushJ ks out f st (j + 1) := by
  unfold pushJ
  rw [List.drop_eq_getElem_cons hj, ← num_at hj, ← hx]
  simp [pushK, hd]

theorem pushJ_yes {ks : List Int} {out : List Fr} {f : Fr} {st : List Fr} {j : Nat} (hj : j < ks.length) {x : Int} (hx : x = ks.getD j 0) (hd : isDone out x = false) : pushJ ks out f st j = ⟨x, f.i, f.d + 1⟩ :: pushJ ks out f st (j + 1) := by
  unfold pushJ
  rw [List.drop_eq_getElem_cons hj, ← num_at hj, ← hx]
  simp [pushK, hd]

theorem pushJ_length (ks : List Int) (out : List Fr) (f : Fr) (st : List Fr) (j : Nat) : (pushJ ks out f st j).length ≤ ks.length + st.length := by
  unfold pushJ
  have h1 := pushK_length (ks.drop j) out f
  simp only [List.length_append, List.length_drop] at h1 ⊢
  omega
end Go.Proofs.Qxb6001503a
