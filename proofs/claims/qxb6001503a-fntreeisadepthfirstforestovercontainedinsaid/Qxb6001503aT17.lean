/- What the forest's law keeps while it looks. -/
import Derived.Test.Qxb6001503aT16
namespace Go.Proofs.Qxb6001503a
open Go.RowKit

/-- Has the p-th key been met among the first j? -/
def seenP (out : List Fr) (ks : List Int) (j p : Nat) : Prop := ∃ q f, q < j ∧ out[q]? = some f ∧ f.i = ks.getD p 0

/-- The array 'at'. -/
def AtOk (out : List Fr) (ks : List Int) (j : Nat) (at' : Nat → Int) : Prop :=
  ∀ p, p < ks.length → (at' p = -1 ∧ ¬ seenP out ks j p) ∨ ∃ q f, q < j ∧ at' p = (q : Nat) ∧ out[q]? = some f ∧ f.i = ks.getD p 0

/-- The arrays 'hasKid', 'lastKid'. -/
def KidSt (out : List Fr) (ks : List Int) (j : Nat) (hk : Nat → Bool) (lk : Nat → Int) : Prop :=
  ∀ p, p < ks.length → hk p = true → ∃ q f, q < j ∧ out[q]? = some f ∧ f.p = ks.getD p 0 ∧ f.p ≠ 0 ∧ lk p = f.i

def TrueSt (es : List Ent) (out : List Fr) (j : Nat) (bt : Bool) (zt : Int) : Prop := bt = true → ∃ q f, q < j ∧ out[q]? = some f ∧ f.p = 0 ∧ hangs es f.i = false ∧ zt = f.i
def LoopSt (es : List Ent) (out : List Fr) (j : Nat) (bl : Bool) : Prop := bl = true → ∃ q f, q < j ∧ out[q]? = some f ∧ f.p = 0 ∧ hangs es f.i = true
/-- The array 'sm', from z on. -/
def SmOk (out : List Fr) (z : Int) (sm : Nat → Int) : Prop := ∀ t : Nat, z < t → t + 1 < out.length → ∃ q f, t < q ∧ out[q]? = some f ∧ sm t = f.i

theorem SmOk.own {out : List Fr} {t : Nat} {sm : Nat → Int} (h : SmOk out t sm) {f : Fr} (hf : out[t + 1]? = some f) : SmOk out ((t : Int) - 1) (fun s => if s = t then f.i else sm s) := by
  intro s hs hl
  by_cases e : s = t
  · subst e; exact ⟨s + 1, f, by omega, hf, by simp⟩
  · obtain ⟨q, g, h1, h2, h3⟩ := h s (by omega) hl
    exact ⟨q, g, h1, h2, by simp [e, h3]⟩

theorem SmOk.copy {out : List Fr} {t : Nat} {sm : Nat → Int} (h : SmOk out t sm) (ht : t + 2 < out.length) : SmOk out ((t : Int) - 1) (fun s => if s = t then sm (t + 1) else sm s) := by
  intro s hs hl
  by_cases e : s = t
  · subst e
    obtain ⟨q, g, h1, h2, h3⟩ := h (s + 1) (by omega) (by omega)
    exact ⟨q, g, by omega, h2, by simp [h3]⟩
  · obtain ⟨q, g, h1, h2, h3⟩ := h s (by omega) hl
    exact ⟨q, g, h1, h2, by simp [e, h3]⟩

theorem SmOk.all {out : List Fr} {z : Int} {sm : Nat → Int} (h : SmOk out z sm) (hz : z < 0) : SmOk out (-1) sm := fun t ht hl => h t (by omega) hl

theorem AtOk.start {out : List Fr} {ks : List Int} {at' : Nat → Int} (h : ∀ p, p < ks.length → at' p = -1) : AtOk out ks 0 at' := fun p hp => .inl ⟨h p hp, by rintro ⟨q, f, hq, _⟩; omega⟩

theorem same_place {out : List Fr} (hn : (out.map (·.i)).Nodup) {q j : Nat} {f g : Fr} (hq : out[q]? = some f) (hj : out[j]? = some g) (e : f.i = g.i) : q = j := by
  obtain ⟨h1, rfl⟩ := List.getElem?_eq_some_iff.1 hq
  obtain ⟨h2, rfl⟩ := List.getElem?_eq_some_iff.1 hj
  have := (List.getElem_inj (xs := out.map (·.i)) (i := q) (j := j) (h₀ := by simpa using h1) (h₁ := by simpa using h2) hn).1
  exact this (by simpa using e)

/-- Who comes up is new. -/
theorem AtOk.new {out : List Fr} {ks : List Int} {j : Nat} {at' : Nat → Int} (h : AtOk out ks j at') (hn : (out.map (·.i)).Nodup) {f : Fr} (hf : out[j]? = some f) {p : Nat} (hp : p < ks.length) (e : ks.getD p 0 = f.i) : at' p = -1 := by
  rcases h p hp with h | ⟨q, g, hq, _, hg, hi⟩
  · exact h.1
  · have := same_place hn hg hf (hi.trans e)
    omega

theorem AtOk.step {out : List Fr} {ks : List Int} (A : Asc ks) {j : Nat} {at' : Nat → Int} (h : AtOk out ks j at') {f : Fr} (hf : out[j]? = some f) {p : Nat} (hp : p < ks.length) (e : ks.getD p 0 = f.i) : AtOk out ks (j + 1) (fun t => if t = p then (j : Nat) else at' t) := by
  intro t ht
  by_cases c : t = p
  · subst c
    exact .inr ⟨j, f, by omega, by simp, hf, e.symm⟩
  · rcases h t ht with ⟨h1, h2⟩ | ⟨q, g, hq, h1, hg, hi⟩
    · refine .inl ⟨by simp [c, h1], ?_⟩
      rintro ⟨q, g, hq, hg, hi⟩
      by_cases hqj : q = j
      · subst hqj
        rw [hf] at hg
        cases hg
        rw [← e, getD_get hp, getD_get ht] at hi
        rcases Nat.lt_or_gt_of_ne c with h | h
        · have := A.lt h hp; omega
        · have := A.lt h ht; omega
      · exact h2 ⟨q, g, by omega, hg, hi⟩
    · exact .inr ⟨q, g, by omega, by simp [c, h1], hg, hi⟩

/-- Where the parent stands. -/
theorem AtOk.parent {out : List Fr} {ks : List Int} {j : Nat} {at' : Nat → Int} (h : AtOk out ks j at') (hn : (out.map (·.i)).Nodup) {pj : Nat} {g : Fr} (hpj : pj < j) (hg : out[pj]? = some g) {p : Nat} (hp : p < ks.length) (e : ks.getD p 0 = g.i) : at' p = (pj : Nat) := by
  rcases h p hp with ⟨_, h2⟩ | ⟨q, f, hq, h1, hf, hi⟩
  · exact absurd ⟨pj, g, hpj, hg, e.symm⟩ h2
  · rw [h1, same_place hn hf hg (hi.trans e)]

theorem KidSt.later {out : List Fr} {ks : List Int} {j : Nat} {hk : Nat → Bool} {lk : Nat → Int} (h : KidSt out ks j hk lk) : KidSt out ks (j + 1) hk lk := fun p hp hk => by
  obtain ⟨q, f, h1, h2⟩ := h p hp hk
  exact ⟨q, f, by omega, h2⟩

theorem KidSt.step {out : List Fr} {ks : List Int} {j : Nat} {hk : Nat → Bool} {lk : Nat → Int} (h : KidSt out ks j hk lk) {f : Fr} (hf : out[j]? = some f) {p : Nat} (e : f.p = ks.getD p 0) (h0 : f.p ≠ 0) :
    KidSt out ks (j + 1) (fun t => if t = p then true else hk t) (fun t => if t = p then f.i else lk t) := by
  intro t ht hh
  by_cases c : t = p
  · subst c
    exact ⟨j, f, by omega, hf, e, h0, by simp⟩
  · simp only [c, if_false] at hh ⊢
    obtain ⟨q, g, h1, h2⟩ := h t ht hh
    exact ⟨q, g, by omega, h2⟩

theorem TrueSt.later {es : List Ent} {out : List Fr} {j : Nat} {bt : Bool} {zt : Int} (h : TrueSt es out j bt zt) : TrueSt es out (j + 1) bt zt := fun hb => by
  obtain ⟨q, f, h1, h2⟩ := h hb
  exact ⟨q, f, by omega, h2⟩
theorem LoopSt.later {es : List Ent} {out : List Fr} {j : Nat} {bl : Bool} (h : LoopSt es out j bl) : LoopSt es out (j + 1) bl := fun hb => by
  obtain ⟨q, f, h1, h2⟩ := h hb
  exact ⟨q, f, by omega, h2⟩

theorem pair_at {R : Fr → Fr → Prop} {out : List Fr} (h : out.Pairwise R) {q j : Nat} {f g : Fr} (hq : out[q]? = some f) (hj : out[j]? = some g) (hlt : q < j) : R f g := by
  obtain ⟨h1, rfl⟩ := List.getElem?_eq_some_iff.1 hq
  obtain ⟨h2, rfl⟩ := List.getElem?_eq_some_iff.1 hj
  exact List.pairwise_iff_getElem.1 h q j h1 h2 hlt

/-- A true root: no loop's root before it, and each true root before it lower. -/
theorem TreeOut.trueRoot {es : List Ent} {K : List Int} {o1 out : List Fr} (T : TreeOut es K o1 out) {j : Nat} {f : Fr} (hf : out[j]? = some f) (h0 : f.p = 0) (hh : hangs es f.i = false) {bt bl : Bool} {zt : Int} (ht : TrueSt es out j bt zt) (hl : LoopSt es out j bl) :
    bl = false ∧ (bt = true → zt < f.i) := by
  constructor
  · cases bl with
    | false => rfl
    | true =>
      obtain ⟨q, g, hq, hg, hg0, hgh⟩ := hl rfl
      have := (pair_at T.rootsOrder.1 hg hf hq h0 hh hg0).1
      rw [hgh] at this
      cases this
  · intro hb
    obtain ⟨q, g, hq, hg, hg0, hgh, rfl⟩ := ht hb
    exact (pair_at T.rootsOrder.1 hg hf hq h0 hh hg0).2

/-- A loop's root: all behind it are higher. -/
theorem TreeOut.loopRoot {es : List Ent} {K : List Int} {o1 out : List Fr} (T : TreeOut es K o1 out) {j : Nat} {f : Fr} (hf : out[j]? = some f) (h0 : f.p = 0) (hh : hangs es f.i = true) {sm : Nat → Int} (hs : SmOk out (-1) sm) (hj : j + 1 < out.length) : f.i < sm j := by
  obtain ⟨q, g, hq, hg, e⟩ := hs j (by omega) hj
  rw [e]
  exact pair_at T.rootsOrder.2 hf hg hq h0 hh

/-- The kid that came last under a parent is lower. -/
theorem TreeOut.lastKid {es : List Ent} {K : List Int} {o1 out : List Fr} (T : TreeOut es K o1 out) {ks : List Int} {j : Nat} {f : Fr} (hf : out[j]? = some f) {hk : Nat → Bool} {lk : Nat → Int} (h : KidSt out ks j hk lk) {p : Nat} (hp : p < ks.length) (e : f.p = ks.getD p 0) (hb : hk p = true) : lk p < f.i := by
  obtain ⟨q, g, hq, hg, hgp, hg0, e2⟩ := h p hp hb
  rw [e2]
  exact pair_at T.dinv.kidsP hg hf hq hg0 (hgp.trans e.symm)

/-- How deep. -/
theorem TreeOut.depth {es : List Ent} {K : List Int} {o1 out : List Fr} (T : TreeOut es K o1 out) : ∀ (j : Nat) (f : Fr), out[j]? = some f → 0 ≤ f.d ∧ f.d ≤ j := by
  intro j
  induction j using Nat.strongRecOn with
  | _ j ih =>
    intro f hf
    rcases T.dinv.placed j f hf with h | ⟨_, _, _, pj, g, hp, hg, _, hd, _⟩
    · rw [h.2]; omega
    · have := ih pj hp g hg
      omega
end Go.Proofs.Qxb6001503a
