/- The plain law: every index once, the last row wins. -/
import Derived.Test.Qxb6001503aT13
namespace Go.Proofs.Qxb6001503a
open Go.RowKit

theorem step_mono (kids : Int → List Int) (s : List Fr × List Fr) : ∀ f ∈ s.2, f ∈ (stepS kids s).2 := by
  obtain ⟨st, out⟩ := s
  intro f hf
  cases st with
  | nil => exact hf
  | cons g st =>
    simp only [stepS]
    split
    · exact hf
    · exact List.mem_append_left _ hf

theorem Reach.mono {kids : Int → List Int} {s s' : List Fr × List Fr} (h : Reach kids s s') : ∀ f ∈ s.2, f ∈ s'.2 := by
  obtain ⟨n, rfl⟩ := h
  induction n with
  | zero => exact fun f hf => hf
  | succ n ih => exact fun f hf => step_mono kids _ f (ih f hf)

theorem isDone_mono {o o' : List Fr} (h : ∀ f ∈ o, f ∈ o') {k : Int} (hk : isDone o k = true) : isDone o' k = true := by
  rw [isDone_iff] at hk ⊢
  obtain ⟨f, hf, e⟩ := List.mem_map.1 hk
  exact List.mem_map.2 ⟨f, h f hf, e⟩

/-- Who is on the stack gets placed. -/
theorem step_keep (kids : Int → List Int) (s : List Fr × List Fr) (r : Int) (h : isDone s.2 r = true ∨ ∃ f ∈ s.1, f.i = r) : isDone (stepS kids s).2 r = true ∨ ∃ f ∈ (stepS kids s).1, f.i = r := by
  rcases h with h | ⟨f, hf, e⟩
  · exact .inl (isDone_mono (step_mono kids s) h)
  · obtain ⟨st, out⟩ := s
    cases st with
    | nil => simp at hf
    | cons g st =>
      simp only [stepS]
      rcases List.mem_cons.1 hf with rfl | hf
      · split
        · rename_i hd; left; rw [← e]; exact hd
        · left
          rw [isDone_iff, ← e]
          simp
      · split
        · exact .inr ⟨f, hf, e⟩
        · exact .inr ⟨f, List.mem_append_right _ hf, e⟩

theorem Reach.done {kids : Int → List Int} {r p d : Int} {o o' : List Fr} (h : Reach kids ([⟨r, p, d⟩], o) ([], o')) : isDone o' r = true := by
  obtain ⟨n, h⟩ := h
  have : ∀ n, isDone (iterS kids n ([⟨r, p, d⟩], o)).2 r = true ∨ ∃ f ∈ (iterS kids n ([⟨r, p, d⟩], o)).1, f.i = r := fun n => by
    induction n with
    | zero => exact .inr ⟨⟨r, p, d⟩, by simp [iterS], rfl⟩
    | succ n ih => exact step_keep kids _ r ih
  rcases this n with h' | ⟨f, hf, _⟩
  · rw [h] at h'; exact h'
  · rw [h] at hf; simp at hf

theorem Rest.all {kids : Int → List Int} {rs : List Int} {o o' : List Fr} (h : Rest kids rs o o') : ∀ r ∈ rs, isDone o' r = true := by
  induction h with
  | nil o => intro r hr; simp at hr
  | walk _ _ hr ih =>
    intro r hm
    rcases List.mem_append.1 hm with hm | hm
    · exact isDone_mono hr.mono (ih r hm)
    · simp at hm; subst hm; exact hr.done
  | skip _ hd ih =>
    intro r hm
    rcases List.mem_append.1 hm with hm | hm
    · exact ih r hm
    · simp at hm; subst hm; exact hd

theorem TreeOut.memOut {es : List Ent} {K : List Int} {o1 out : List Fr} (T : TreeOut es K o1 out) (x : Int) : x ∈ out.map (·.i) ↔ x ∈ K := by
  constructor
  · intro h
    obtain ⟨f, hf, rfl⟩ := List.mem_map.1 h
    exact T.pure.outK f hf
  · intro h
    exact (isDone_iff out x).1 (T.rest.all x h)

theorem Asc.nodup {K : List Int} (h : Asc K) : K.Nodup := h.imp (fun h => by omega)

theorem TreeOut.length {es : List Ent} {K : List Int} {o1 out : List Fr} (T : TreeOut es K o1 out) : out.length = K.length := by
  have h1 := nodup_le T.pure.nodup (K := K) (fun x hx => (T.memOut x).1 hx)
  have h2 := nodup_le T.asc.nodup (K := out.map (·.i)) (fun x hx => (T.memOut x).2 hx)
  simp at h1 h2
  omega

theorem asc_unique : ∀ {A B : List Int}, Asc A → Asc B → (∀ x, x ∈ A ↔ x ∈ B) → A = B
  | [], [], _, _, _ => rfl
  | [], b :: B, _, _, h => by have := (h b).2 (by simp); simp at this
  | a :: A, [], _, _, h => by have := (h a).1 (by simp); simp at this
  | a :: A, b :: B, hA, hB, h => by
    unfold Asc at hA hB
    rw [List.pairwise_cons] at hA hB
    have e : a = b := by
      have h1 := (h a).1 (by simp)
      have h2 := (h b).2 (by simp)
      rcases List.mem_cons.1 h1 with h1 | h1
      · exact h1
      · rcases List.mem_cons.1 h2 with h2 | h2
        · exact h2.symm
        · have := hA.1 b h2; have := hB.1 a h1; omega
    subst e
    congr 1
    refine asc_unique hA.2 hB.2 (fun x => ?_)
    have hx := h x
    constructor
    · intro hm
      have := hx.1 (by simp [hm])
      rcases List.mem_cons.1 this with e | hm'
      · have := hA.1 x hm; omega
      · exact hm'
    · intro hm
      have := hx.2 (by simp [hm])
      rcases List.mem_cons.1 this with e | hm'
      · have := hB.1 x hm; omega
      · exact hm'

theorem built_i (idx up : List Int) : (built idx up).map (·.i) = idx := by
  apply List.ext_getElem?
  intro k
  by_cases h : k < idx.length
  · simp [built, h, List.getD]
  · rw [List.getElem?_eq_none (by simp [built]; omega), List.getElem?_eq_none (by omega)]

/-- The entity of an index, as the law has laid its rows. -/
theorem entOf_built {idx up : List Int} {x : Int} (h : x ∈ idx) : ∃ k, k < idx.length ∧ entOf (built idx up) x = ⟨x, -1, -1, (k : Nat), up.getD k 0⟩ := by
  obtain ⟨e, he, hi, hm⟩ := lastE_some (es := built idx up) (k := x) (by rw [built_i]; exact h)
  unfold built at hm
  obtain ⟨k, hk, rfl⟩ := List.mem_map.1 hm
  refine ⟨k, by simpa using hk, ?_⟩
  rw [entOf, he]
  simp only [Option.getD_some]
  simp only at hi
  rw [hi]

theorem entOf_snoc (es : List Ent) (e : Ent) (x : Int) : entOf (es ++ [e]) x = if x = e.i then e else entOf es x := by
  unfold entOf
  rw [lastE_snoc]
  split <;> rfl

/-- The array 'last' when k rows have been seen. -/
def lastP (idx up ks : List Int) (k : Nat) (p : Nat) : Int := (entOf ((built idx up).take k) (ks.getD p 0)).pos

theorem lastP_zero (idx up ks : List Int) (p : Nat) : lastP idx up ks 0 p = 0 := rfl

theorem getD_get {l : List Int} {k : Nat} (h : k < l.length) : l.getD k 0 = l[k] := by simp [List.getD, h]

theorem lastP_succ {idx up ks : List Int} (A : Asc ks) {k p : Nat} (hk : k < idx.length) (hp : p < ks.length) (he : ks[p] = idx.getD k 0) : ∀ t, t < ks.length → lastP idx up ks (k + 1) t = upd (lastP idx up ks k) p (k : Nat) t := by
  intro t ht
  unfold lastP
  rw [take_snocE (k := k) (by rw [built_length]; exact hk) (built_at idx up k hk).symm, entOf_snoc]
  by_cases e : t = p
  · subst e
    rw [upd_same, if_pos (by rw [getD_get ht]; exact he)]
  · rw [upd_other _ _ e, if_neg]
    rw [getD_get ht, ← he]
    intro e'
    have e2 : ks[t] = ks[p] := e'
    rcases Nat.lt_or_gt_of_ne e with h | h
    · have := A.lt h hp; omega
    · have := A.lt h ht; omega

theorem lastP_end {idx up ks : List Int} (p : Nat) : lastP idx up ks idx.length p = (entOf (built idx up) (ks.getD p 0)).pos := by
  unfold lastP
  rw [List.take_of_length_le (by rw [built_length]; exact Nat.le_refl _)]

/-- The place of a key. -/
theorem place_of {ks : List Int} {x : Int} (h : x ∈ ks) : ∃ p, ∃ hp : p < ks.length, ks[p] = x := by
  obtain ⟨p, hp, e⟩ := List.mem_iff_getElem.1 h
  exact ⟨p, hp, e⟩
end Go.Proofs.Qxb6001503a
