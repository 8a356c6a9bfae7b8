/- zzbKeys: the plain facts on an insertion sort and on striking repeats, by functions on places. -/
import Derived.Test.Qxb6001503aT3
namespace Go.Proofs.Qxb6001503a
open Go.RowKit

/-- The array f with x at place j. -/
def upd (f : Nat → Int) (j : Nat) (x : Int) : Nat → Int := fun t => if t = j then x else f t

theorem upd_same (f : Nat → Int) (j : Nat) (x : Int) : upd f j x j = x := by simp [upd]
theorem upd_other (f : Nat → Int) {j t : Nat} (x : Int) (h : t ≠ j) : upd f j x t = f t := by simp [upd, h]

/-- Ordered below i; the n places hold just what P says. -/
def Outer (P : Int → Prop) (n : Nat) (f : Nat → Int) (i : Nat) : Prop :=
  (∀ a b, a < b → b < i → f a ≤ f b) ∧ ∀ x, P x ↔ ∃ t, t < n ∧ f t = x

/-- The same with v to be put at the hole j. -/
def Inner (P : Int → Prop) (n : Nat) (f : Nat → Int) (v : Int) (i j : Nat) : Prop :=
  (∀ a b, a < b → b ≤ i → a ≠ j → b ≠ j → f a ≤ f b) ∧ (∀ b, j < b → b ≤ i → v < f b) ∧ ∀ x, P x ↔ (x = v ∨ ∃ t, t < n ∧ t ≠ j ∧ f t = x)

theorem Inner.start {P : Int → Prop} {n : Nat} {f : Nat → Int} {i : Nat} (h : Outer P n f i) (hi : i < n) {v : Int} (hv : v = f i) : Inner P n f v i i := by
  refine ⟨fun a b hab hb ha hb' => h.1 a b hab (by omega), fun b h1 h2 => by omega, fun x => ?_⟩
  rw [h.2 x]
  constructor
  · rintro ⟨t, ht, e⟩
    by_cases c : t = i
    · subst c; exact .inl (by rw [hv, e])
    · exact .inr ⟨t, ht, c, e⟩
  · rintro (e | ⟨t, ht, _, e⟩)
    · exact ⟨i, hi, by rw [e, hv]⟩
    · exact ⟨t, ht, e⟩

theorem Inner.step {P : Int → Prop} {n : Nat} {f : Nat → Int} {v : Int} {i j : Nat} (h : Inner P n f v i (j + 1)) (hj : j + 1 ≤ i) (hi : i < n) {u : Int} (hu : u = f j) (hgt : v < u) : Inner P n (upd f (j + 1) u) v i j := by
  obtain ⟨h1, h2, h3⟩ := h
  refine ⟨fun a b hab hb ha hb' => ?_, fun b hb1 hb2 => ?_, fun x => ?_⟩
  · by_cases ca : a = j + 1
    · subst ca
      rw [upd_same, upd_other f u (by omega), hu]
      exact h1 j b (by omega) hb (by omega) (by omega)
    · by_cases cb : b = j + 1
      · subst cb
        rw [upd_same, upd_other f u ca, hu]
        exact h1 a j (by omega) (by omega) ca (by omega)
      · rw [upd_other f u ca, upd_other f u cb]
        exact h1 a b hab hb ca cb
  · by_cases cb : b = j + 1
    · subst cb; rw [upd_same]; exact hgt
    · rw [upd_other f u cb]; exact h2 b (by omega) hb2
  · rw [h3 x]
    constructor
    · rintro (e | ⟨t, ht, c, e⟩)
      · exact .inl e
      · by_cases ct : t = j
        · subst ct; exact .inr ⟨t + 1, by omega, by omega, by rw [upd_same, hu, e]⟩
        · exact .inr ⟨t, ht, ct, by rw [upd_other f u c]; exact e⟩
    · rintro (e | ⟨t, ht, c, e⟩)
      · exact .inl e
      · by_cases ct : t = j + 1
        · subst ct; rw [upd_same] at e; exact .inr ⟨j, by omega, by omega, by rw [← hu]; exact e⟩
        · rw [upd_other f u ct] at e; exact .inr ⟨t, ht, ct, e⟩

theorem Inner.done {P : Int → Prop} {n : Nat} {f : Nat → Int} {v : Int} {i j : Nat} (h : Inner P n f v i j) (hj : j ≤ i) (hi : i < n) (hs : ∀ k, k + 1 = j → f k ≤ v) : Outer P n (upd f j v) (i + 1) := by
  obtain ⟨h1, h2, h3⟩ := h
  refine ⟨fun a b hab hb => ?_, fun x => ?_⟩
  · by_cases ca : a = j
    · subst ca
      rw [upd_same, upd_other f v (by omega)]
      have := h2 b hab (by omega); omega
    · by_cases cb : b = j
      · subst cb
        rw [upd_same, upd_other f v ca]
        have := hs (b - 1) (by omega)
        by_cases c : a = b - 1
        · subst c; exact this
        · have := h1 a (b - 1) (by omega) (by omega) ca (by omega); omega
      · rw [upd_other f v ca, upd_other f v cb]
        exact h1 a b hab (by omega) ca cb
  · rw [h3 x]
    constructor
    · rintro (e | ⟨t, ht, c, e⟩)
      · exact ⟨j, by omega, by rw [upd_same, e]⟩
      · exact ⟨t, ht, by rw [upd_other f v c]; exact e⟩
    · rintro ⟨t, ht, e⟩
      by_cases c : t = j
      · subst c; rw [upd_same] at e; exact .inl e.symm
      · rw [upd_other f v c] at e; exact .inr ⟨t, ht, c, e⟩

/-- Striking repeats out of the ordered array g: the first m places of f. -/
def Strike (g f : Nat → Int) (i m : Nat) : Prop :=
  m ≤ i ∧ (∀ t, i ≤ t → f t = g t) ∧ (∀ a b, a < b → b < m → f a < f b) ∧ (∀ x, (∃ t, t < m ∧ f t = x) ↔ ∃ t, t < i ∧ g t = x) ∧ (0 < i → 0 < m ∧ f (m - 1) = g (i - 1))

theorem Strike.start (g : Nat → Int) : Strike g g 0 0 :=
  ⟨Nat.le_refl _, fun _ _ => rfl, fun a b _ h => by omega, fun x => ⟨fun ⟨t, h, _⟩ => by omega, fun ⟨t, h, _⟩ => by omega⟩, fun h => by omega⟩

theorem Strike.keep {g f : Nat → Int} {i m n : Nat} (h : Strike g f i m) (hi : i < n) (hg : ∀ a b, a < b → b < n → g a ≤ g b) {u : Int} (hu : u = f i) (hne : ∀ k, k + 1 = m → f k ≠ u) : Strike g (upd f m u) (i + 1) (m + 1) := by
  obtain ⟨h1, h2, h3, h4, h5⟩ := h
  have hui : u = g i := by rw [hu, h2 i (Nat.le_refl _)]
  have hlast : ∀ k, k < m → f k < u := by
    intro k hk
    have h0 : 0 < i := by omega
    obtain ⟨h6, h7⟩ := h5 h0
    have hle : f (m - 1) ≤ u := by rw [h7, hui]; exact hg (i - 1) i (by omega) hi
    have hn := hne (m - 1) (by omega)
    by_cases c : k = m - 1
    · subst c; omega
    · have := h3 k (m - 1) (by omega) (by omega); omega
  refine ⟨by omega, fun t ht => ?_, fun a b hab hb => ?_, fun x => ?_, fun _ => ⟨by omega, ?_⟩⟩
  · rw [upd_other f u (by omega)]; exact h2 t (by omega)
  · rw [upd_other f u (show a ≠ m by omega)]
    by_cases c : b = m
    · subst c; rw [upd_same]; exact hlast a hab
    · rw [upd_other f u c]; exact h3 a b hab (by omega)
  · constructor
    · rintro ⟨t, ht, e⟩
      by_cases c : t = m
      · subst c; rw [upd_same] at e; exact ⟨i, by omega, by rw [← hui]; exact e⟩
      · rw [upd_other f u c] at e
        obtain ⟨s, hs, e'⟩ := (h4 x).1 ⟨t, by omega, e⟩
        exact ⟨s, by omega, e'⟩
    · rintro ⟨t, ht, e⟩
      by_cases c : t = i
      · subst c; exact ⟨m, by omega, by rw [upd_same, hui]; exact e⟩
      · obtain ⟨s, hs, e'⟩ := (h4 x).2 ⟨t, by omega, e⟩
        exact ⟨s, by omega, by rw [upd_other f u (by omega)]; exact e'⟩
  · show upd f m u m = g i
    rw [upd_same]; exact hui

theorem Strike.drop {g f : Nat → Int} {i m : Nat} (h : Strike g f i m) (hm : 0 < m) (he : f (m - 1) = f i) : Strike g f (i + 1) m := by
  obtain ⟨h1, h2, h3, h4, h5⟩ := h
  have hfi := h2 i (Nat.le_refl _)
  refine ⟨by omega, fun t ht => h2 t (by omega), h3, fun x => ?_, fun _ => ⟨hm, by rw [he, hfi]; rfl⟩⟩
  constructor
  · rintro ⟨t, ht, e⟩
    obtain ⟨s, hs, e'⟩ := (h4 x).1 ⟨t, ht, e⟩
    exact ⟨s, by omega, e'⟩
  · rintro ⟨t, ht, e⟩
    by_cases c : t = i
    · subst c; exact ⟨m - 1, by omega, by rw [he, hfi]; exact e⟩
    · exact (h4 x).2 ⟨t, by omega, e⟩

/-- What zzbKeys gives: the distinct values in ascending order. -/
def KeysOf (idx ks : List Int) : Prop := Asc ks ∧ (∀ x, x ∈ ks ↔ x ∈ idx) ∧ ks.length ≤ idx.length

theorem keys_end {idx : List Int} {g f : Nat → Int} {m : Nat} (h : Strike g f idx.length m) (hO : Outer (· ∈ idx) idx.length g idx.length) : KeysOf idx ((List.range m).map f) := by
  obtain ⟨h1, h2, h3, h4, h5⟩ := h
  refine ⟨?_, fun x => ?_, by simp; exact h1⟩
  · unfold Asc
    rw [List.pairwise_iff_getElem]
    intro a b ha hb hab
    simp only [List.length_map, List.length_range] at ha hb
    simp only [List.getElem_map, List.getElem_range]
    exact h3 a b hab hb
  · refine Iff.trans ?_ (hO.2 x).symm
    rw [← h4 x]
    simp only [List.mem_map, List.mem_range]

theorem outer_start (idx : List Int) : Outer (· ∈ idx) idx.length (fun j => idx.getD j 0) 1 := by
  refine ⟨fun a b h1 h2 => by omega, fun x => ?_⟩
  constructor
  · intro hx
    obtain ⟨t, ht, e⟩ := List.getElem_of_mem hx
    exact ⟨t, ht, (num_at ht).trans e⟩
  · rintro ⟨t, ht, e⟩
    have e' : idx[t] = x := (num_at ht).symm.trans e
    show x ∈ idx
    rw [← e']; exact List.getElem_mem ht

/-- Nothing is left to order. -/
theorem Outer.all {P : Int → Prop} {n : Nat} {f : Nat → Int} {i : Nat} (h : Outer P n f i) (hn : n ≤ i) : Outer P n f n := ⟨fun a b h1 h2 => h.1 a b h1 (by omega), h.2⟩

theorem Outer.grow {P : Int → Prop} {n : Nat} {f : Nat → Int} {i j : Nat} (h : Outer P n f i) (hj : j ≤ i) : Outer P n f j := ⟨fun a b h1 h2 => h.1 a b h1 (by omega), h.2⟩

/-- The whole array f lies at block B. -/
theorem Fill.read {w : World} {B n k : Nat} {f : Nat → Int} (h : Fill w B n k f) {t : Nat} (ht : t < k) (hk : k ≤ n) : w.cell? ⟨B, t, none⟩ = some (.int .i64 (f t)) := by
  obtain ⟨xs, h, hx⟩ := h
  rw [h.cellAt t (by omega)]; exact hx t ht

theorem Fill.upd {w : World} {B n : Nat} {f : Nat → Int} (h : Fill w B n n f) {j : Nat} (hj : j < n) (x : Int) : Fill (w.setCell ⟨B, j, none⟩ (.int .i64 x)) B n n (upd f j x) := by
  obtain ⟨xs, h, hx⟩ := h
  have hl : xs.length = n := by simpa using h.1
  refine ⟨_, (h.stored j (.int .i64 x)).1, fun t ht => ?_⟩
  by_cases c : t = j
  · subst c; rw [List.getElem?_set_self (by omega), upd_same]
  · rw [List.getElem?_set_ne (fun e => c e.symm), upd_other f x c]; exact hx t ht

theorem Fill.froz {w : World} {B n k : Nat} {f : Nat → Int} (h : Fill w B n k f) (t : Nat) : w.frozen? ⟨B, t, none⟩ = false := by
  obtain ⟨xs, h, _⟩ := h
  exact h.frozenAt t

theorem Fill.row {w : World} {B n m : Nat} {f : Nat → Int} (h : Fill w B n n f) (hm : m ≤ n) : NumRow w (some ⟨B, 0, none⟩) ((List.range m).map f) := by
  intro hne
  have h0 : 0 < m := by
    rcases m with _ | m
    · exact absurd rfl hne
    · omega
  refine ⟨B, 0, rfl, World.block_lt_of_cell? w _ (h.read (t := 0) (by omega) (Nat.le_refl _)), fun i hi => ?_⟩
  have hi' : i < m := by simpa using hi
  rw [Nat.zero_add, h.read (by omega) (Nat.le_refl _)]
  simp [List.getD, hi']
end Go.Proofs.Qxb6001503a
