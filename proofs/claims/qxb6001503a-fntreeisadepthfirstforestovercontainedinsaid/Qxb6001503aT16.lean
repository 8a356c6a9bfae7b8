/- The plain law of the forest. -/
import Derived.Test.Qxb6001503aT14
namespace Go.Proofs.Qxb6001503a
open Go.RowKit

theorem snoc_get {α : Type} {l : List α} {a b : α} {j : Nat} (h : (l ++ [a])[j]? = some b) : (j < l.length ∧ l[j]? = some b) ∨ (j = l.length ∧ b = a) := by
  rcases Nat.lt_trichotomy j l.length with hj | hj | hj
  · rw [List.getElem?_append_left hj] at h; exact .inl ⟨hj, h⟩
  · subst hj; simp at h; exact .inr ⟨rfl, h.symm⟩
  · rw [List.getElem?_eq_none (by simp; omega)] at h; cases h

/-- The frame g may stand at place n: it hangs from its container, which stands before it, one less deep, and whatever stands between is at least as deep as g. -/
def KidOk (es : List Ent) (out : List Fr) (n : Nat) (g : Fr) : Prop :=
  g.p ≠ 0 ∧ hangs es g.i = true ∧ (entOf es g.i).c = g.p ∧ ∃ pj h, pj < n ∧ out[pj]? = some h ∧ h.i = g.p ∧ g.d = h.d + 1 ∧ ∀ q h', pj < q → q < n → out[q]? = some h' → g.d ≤ h'.d

/-- A root. -/
def RootFr (g : Fr) : Prop := g.p = 0 ∧ g.d = 0

theorem KidOk.more {es : List Ent} {out : List Fr} {n : Nat} {g : Fr} (h : KidOk es out n g) (hn : n ≤ out.length) (f : Fr) : KidOk es (out ++ [f]) n g := by
  obtain ⟨h1, h2, h3, pj, h', hp, ho, hi, hd, hq⟩ := h
  refine ⟨h1, h2, h3, pj, h', hp, by rw [List.getElem?_append_left (by omega)]; exact ho, hi, hd, fun q g' h4 h5 h6 => ?_⟩
  rw [List.getElem?_append_left (by omega)] at h6
  exact hq q g' h4 h5 h6

theorem KidOk.next {es : List Ent} {out : List Fr} {g : Fr} (h : KidOk es out out.length g) {f : Fr} (hf : g.d ≤ f.d) : KidOk es (out ++ [f]) (out.length + 1) g := by
  obtain ⟨h1, h2, h3, pj, h', hp, ho, hi, hd, hq⟩ := h
  refine ⟨h1, h2, h3, pj, h', by omega, by rw [List.getElem?_append_left hp]; exact ho, hi, hd, fun q g' h4 h5 h6 => ?_⟩
  rcases snoc_get h6 with ⟨h7, h8⟩ | ⟨_, e⟩
  · exact hq q g' h4 h7 h8
  · rw [e]; exact hf

theorem KidOk.parent {es : List Ent} {out : List Fr} {n : Nat} {g : Fr} (h : KidOk es out n g) : isDone out g.p = true := by
  obtain ⟨_, _, _, pj, h', _, ho, hi, _, _⟩ := h
  rw [isDone_iff, ← hi]
  exact List.mem_map.2 ⟨h', List.mem_of_getElem? ho, rfl⟩

/-- What the search keeps, of parents, depths and the order of kids. -/
structure DInv (es : List Ent) (st out : List Fr) : Prop where
  placed : ∀ j f, out[j]? = some f → RootFr f ∨ KidOk es out j f
  stack : ∀ g ∈ st, RootFr g ∨ KidOk es out out.length g
  depth : st.Pairwise fun a b => b.d ≤ a.d
  kidsS : st.Pairwise fun a b => a.p ≠ 0 → a.p = b.p → a.i < b.i
  kidsO : ∀ f ∈ out, ∀ g ∈ st, f.p ≠ 0 → f.p = g.p → f.i < g.i
  kidsP : out.Pairwise fun a b => a.p ≠ 0 → a.p = b.p → a.i < b.i

theorem DInv.skip {es : List Ent} {f : Fr} {st out : List Fr} (D : DInv es (f :: st) out) : DInv es st out :=
  ⟨D.placed, fun g hg => D.stack g (by simp [hg]), (List.pairwise_cons.1 D.depth).2, (List.pairwise_cons.1 D.kidsS).2, fun f' hf g hg => D.kidsO f' hf g (by simp [hg]), D.kidsP⟩

theorem kidsOf_asc {es : List Ent} {K : List Int} (A : Asc K) (k : Int) : Asc (kidsOf es K k) := List.Pairwise.filter _ A

theorem kid_of {es : List Ent} {K : List Int} {k x : Int} (h : x ∈ kidsOf es K k) : hangs es x = true ∧ (entOf es x).c = k ∧ k ≠ 0 := by
  have h2 := (List.mem_filter.1 h).2
  rw [Bool.and_eq_true, beq_iff_eq] at h2
  refine ⟨h2.1, h2.2, ?_⟩
  have h3 := h2.1
  unfold hangs at h3
  rw [Bool.and_eq_true, bne_iff_ne, h2.2] at h3
  exact h3.2

theorem DInv.place {es : List Ent} {K : List Int} (A : Asc K) {f : Fr} {st out : List Fr} (D : DInv es (f :: st) out) (hd : isDone out f.i = false) : DInv es (pushK (kidsOf es K f.i) (out ++ [f]) f ++ st) (out ++ [f]) := by
  have hdep := List.pairwise_cons.1 D.depth
  have hks := List.pairwise_cons.1 D.kidsS
  have hnew : ∀ g ∈ pushK (kidsOf es K f.i) (out ++ [f]) f, g.p = f.i ∧ g.d = f.d + 1 ∧ hangs es g.i = true ∧ (entOf es g.i).c = f.i ∧ f.i ≠ 0 := by
    intro g hg
    unfold pushK at hg
    obtain ⟨k, hk, rfl⟩ := List.mem_map.1 hg
    obtain ⟨h1, h2, h3⟩ := kid_of (List.mem_filter.1 hk).1
    exact ⟨rfl, rfl, h1, h2, h3⟩
  have hout : ∀ g ∈ out, g.p ≠ 0 → g.p ≠ f.i := by
    intro g hg hp e
    obtain ⟨j, hj⟩ := List.mem_iff_getElem?.1 hg
    rcases D.placed j g hj with h | h
    · exact hp h.1
    · have := h.parent; rw [e, hd] at this; cases this
  have hstk : ∀ g ∈ f :: st, g.p ≠ 0 → g.p ≠ f.i := by
    intro g hg hp e
    rcases D.stack g hg with h | h
    · exact hp h.1
    · have := h.parent; rw [e, hd] at this; cases this
  have hasc : ((kidsOf es K f.i).filter fun k => !isDone (out ++ [f]) k).Pairwise (· < ·) := List.Pairwise.filter _ (kidsOf_asc A f.i)
  refine ⟨fun j g hg => ?_, fun g hg => ?_, ?_, ?_, fun g hg g' hg' hp e => ?_, ?_⟩
  · rcases snoc_get hg with ⟨hj, h⟩ | ⟨hj, e⟩
    · rcases D.placed j g h with h | h
      · exact .inl h
      · exact .inr (h.more (by omega) f)
    · subst hj
      subst e
      rcases D.stack g (by simp) with h | h
      · exact .inl h
      · exact .inr (h.more (Nat.le_refl _) g)
  · have hl : (out ++ [f]).length = out.length + 1 := by simp
    rw [hl]
    rcases List.mem_append.1 hg with hg | hg
    · obtain ⟨h1, h2, h3, h4, h5⟩ := hnew g hg
      exact .inr ⟨by rw [h1]; exact h5, h3, by rw [h4, h1], out.length, f, by omega, by simp, h1.symm, h2, fun q h' hq1 hq2 _ => by omega⟩
    · rcases D.stack g (by simp [hg]) with h | h
      · exact .inl h
      · exact .inr (h.next (hdep.1 g hg))
  · rw [List.pairwise_append]
    refine ⟨?_, hdep.2, fun a ha b hb => ?_⟩
    · unfold pushK
      rw [List.pairwise_map]
      exact hasc.imp (fun _ => Int.le_refl _)
    · have h1 := (hnew a ha).2.1
      have h2 := hdep.1 b hb
      omega
  · rw [List.pairwise_append]
    refine ⟨?_, hks.2, fun a ha b hb hp e => ?_⟩
    · unfold pushK
      rw [List.pairwise_map]
      exact hasc.imp (fun h _ _ => h)
    · exact absurd (e.symm.trans (hnew a ha).1) (hstk b (by simp [hb]) (by rw [← e]; exact hp))
  · rcases List.mem_append.1 hg with h7 | h7 <;> rcases List.mem_append.1 hg' with h8 | h8
    · exact absurd (e.trans (hnew g' h8).1) (hout g h7 hp)
    · exact D.kidsO g h7 g' (by simp [h8]) hp e
    · simp at h7
      subst h7
      exact absurd (e.trans (hnew g' h8).1) (hstk g (by simp) hp)
    · simp at h7
      subst h7
      exact hks.1 g' h8 hp e
  · rw [List.pairwise_append]
    refine ⟨D.kidsP, by simp, fun a ha b hb hp e => ?_⟩
    simp at hb
    subst hb
    exact D.kidsO a ha b (by simp) hp e

theorem DInv.step {es : List Ent} {K : List Int} (A : Asc K) {s : List Fr × List Fr} (D : DInv es s.1 s.2) : DInv es (stepS (kidsOf es K) s).1 (stepS (kidsOf es K) s).2 := by
  obtain ⟨st, out⟩ := s
  cases st with
  | nil => exact D
  | cons f st =>
    simp only [stepS]
    cases h : isDone out f.i with
    | true => exact D.skip
    | false => exact D.place A h

theorem DInv.reach {es : List Ent} {K : List Int} (A : Asc K) {s s' : List Fr × List Fr} (h : Reach (kidsOf es K) s s') (D : DInv es s.1 s.2) : DInv es s'.1 s'.2 := by
  obtain ⟨n, rfl⟩ := h
  induction n with
  | zero => exact D
  | succ n ih => exact ih.step A

theorem DInv.start {es : List Ent} {out : List Fr} (D : DInv es [] out) (r : Int) : DInv es [⟨r, 0, 0⟩] out :=
  ⟨D.placed, fun g hg => by simp at hg; subst hg; exact .inl ⟨rfl, rfl⟩, by simp, by simp, fun f _ g hg hp e => by simp at hg; subst hg; exact absurd e hp, D.kidsP⟩

theorem DInv.runs {es : List Ent} {K : List Int} (A : Asc K) {rs : List Int} {o o' : List Fr} (h : Runs (kidsOf es K) rs o o') (D : DInv es [] o) : DInv es [] o' := by
  induction h with
  | nil o => exact D
  | snoc _ hr ih => exact DInv.reach A hr ((ih D).start _)

theorem DInv.rest {es : List Ent} {K : List Int} (A : Asc K) {rs : List Int} {o o' : List Fr} (h : Rest (kidsOf es K) rs o o') (D : DInv es [] o) : DInv es [] o' := by
  induction h with
  | nil o => exact D
  | walk _ _ hr ih => exact DInv.reach A hr ((ih D).start _)
  | skip _ _ ih => exact ih D

theorem TreeOut.dinv {es : List Ent} {K : List Int} {o1 out : List Fr} (T : TreeOut es K o1 out) : DInv es [] out :=
  DInv.rest T.asc T.rest (DInv.runs T.asc T.roots ⟨by simp, by simp, by simp, by simp, by simp, by simp⟩)

/-- What one walk lays. -/
def WalkInv (r : Int) (o : List Fr) (s : List Fr × List Fr) : Prop :=
  s = ([⟨r, 0, 0⟩], o) ∨ s = ([], o) ∨ ((∀ g ∈ s.1, g.p ≠ 0) ∧ ∃ rest, s.2 = o ++ ⟨r, 0, 0⟩ :: rest ∧ ∀ g ∈ rest, g.p ≠ 0)

theorem push_ne {es : List Ent} {K : List Int} {o : List Fr} {f g : Fr} (h : g ∈ pushK (kidsOf es K f.i) o f) : g.p ≠ 0 := by
  unfold pushK at h
  obtain ⟨k, hk, rfl⟩ := List.mem_map.1 h
  exact (kid_of (List.mem_filter.1 hk).1).2.2

theorem WalkInv.step {es : List Ent} {K : List Int} {r : Int} {o : List Fr} {s : List Fr × List Fr} (h : WalkInv r o s) : WalkInv r o (stepS (kidsOf es K) s) := by
  rcases h with rfl | rfl | ⟨h1, rest, h2, h3⟩
  · simp only [stepS]
    cases hd : isDone o r with
    | true => exact .inr (.inl rfl)
    | false =>
      refine .inr (.inr ⟨fun g hg => ?_, [], rfl, by simp⟩)
      simp only [Bool.false_eq_true, if_false, List.append_nil] at hg
      exact push_ne (f := ⟨r, 0, 0⟩) hg
  · exact .inr (.inl rfl)
  · obtain ⟨st, out⟩ := s
    cases st with
    | nil => exact .inr (.inr ⟨h1, rest, h2, h3⟩)
    | cons f st =>
      simp only [stepS]
      cases hd : isDone out f.i with
      | true => exact .inr (.inr ⟨fun g hg => h1 g (by simp at hg; simp [hg]), rest, h2, h3⟩)
      | false =>
        refine .inr (.inr ⟨fun g hg => ?_, rest ++ [f], ?_, fun g hg => ?_⟩)
        · simp only [Bool.false_eq_true, if_false] at hg
          rcases List.mem_append.1 hg with hg | hg
          · exact push_ne hg
          · exact h1 g (by simp [hg])
        · simp only at h2
          simp [h2]
        · rcases List.mem_append.1 hg with hg | hg
          · exact h3 g hg
          · simp at hg; subst hg; exact h1 g (by simp)

theorem Reach.walk {es : List Ent} {K : List Int} {r : Int} {o o' : List Fr} (h : Reach (kidsOf es K) ([⟨r, 0, 0⟩], o) ([], o')) : o' = o ∨ ∃ rest, o' = o ++ ⟨r, 0, 0⟩ :: rest ∧ ∀ g ∈ rest, g.p ≠ 0 := by
  obtain ⟨n, hn⟩ := h
  have : ∀ n, WalkInv r o (iterS (kidsOf es K) n ([⟨r, 0, 0⟩], o)) := fun n => by
    induction n with
    | zero => exact .inl rfl
    | succ n ih => exact ih.step
  have h := this n
  rw [hn] at h
  rcases h with h | h | ⟨_, rest, h2, h3⟩
  · simp at h
  · left; simpa using h
  · exact .inr ⟨rest, h2, h3⟩

theorem Runs.all {kids : Int → List Int} {rs : List Int} {o o' : List Fr} (h : Runs kids rs o o') : ∀ r ∈ rs, isDone o' r = true := by
  induction h with
  | nil o => intro r hr; simp at hr
  | snoc _ hr ih =>
    intro r hm
    rcases List.mem_append.1 hm with hm | hm
    · exact isDone_mono hr.mono (ih r hm)
    · simp at hm; subst hm; exact hr.done

theorem filter_none {l : List Fr} (h : ∀ g ∈ l, g.p ≠ 0) : l.filter (·.p == 0) = [] := by
  rw [List.filter_eq_nil_iff]
  intro g hg
  simp [h g hg]

theorem Runs.roots {es : List Ent} {K : List Int} {rs : List Int} {o o' : List Fr} (h : Runs (kidsOf es K) rs o o') : ∃ new, o' = o ++ new ∧ ((new.filter (·.p == 0)).map (·.i)).Sublist rs := by
  induction h with
  | nil o => exact ⟨[], by simp, by simp⟩
  | @snoc rs r o o1 o2 _ hr ih =>
    obtain ⟨new, rfl, hs⟩ := ih
    rcases hr.walk with rfl | ⟨rest, rfl, h3⟩
    · exact ⟨new, rfl, hs.trans (List.sublist_append_left _ _)⟩
    · refine ⟨new ++ ⟨r, 0, 0⟩ :: rest, by simp, ?_⟩
      rw [List.filter_append, List.map_append, List.filter_cons, if_pos (by simp), filter_none h3]
      exact hs.append (List.Sublist.refl _)

theorem pairwise_vac {l : List Fr} (h : ∀ g ∈ l, g.p ≠ 0) : l.Pairwise fun a b => a.p = 0 → a.i < b.i := by
  induction l with
  | nil => simp
  | cons a l ih =>
    rw [List.pairwise_cons]
    exact ⟨fun b _ e => absurd e (h a (by simp)), ih (fun g hg => h g (by simp [hg]))⟩

theorem Rest.roots {es : List Ent} {K : List Int} (A : Asc K) {rs : List Int} {o o' : List Fr} (h : Rest (kidsOf es K) rs o o') : ∀ tail, K = rs ++ tail → (o'.map (·.i)).Nodup → (∀ f ∈ o', f.i ∈ K) →
    ∃ new, o' = o ++ new ∧ (new.Pairwise fun a b => a.p = 0 → a.i < b.i) ∧ ∀ f ∈ new, f.p = 0 → f.i ∈ rs ∧ isDone o f.i = false := by
  induction h with
  | nil o => intro tail _ _ _; exact ⟨[], by simp, by simp, by simp⟩
  | @walk rs r o o1 o2 h0 hd hr ih =>
    intro tail hK hn hin
    have hK' : K = rs ++ (r :: tail) := by rw [hK]; simp
    rcases hr.walk with rfl | ⟨rest, rfl, h3⟩
    · obtain ⟨new, h1, h2, h4⟩ := ih (r :: tail) hK' hn hin
      exact ⟨new, h1, h2, fun f hf hp => ⟨by simp [(h4 f hf hp).1], (h4 f hf hp).2⟩⟩
    · rw [List.map_append, List.nodup_append] at hn
      obtain ⟨new, rfl, h2, h4⟩ := ih (r :: tail) hK' hn.1 (fun f hf => hin f (by simp only [List.mem_append] at hf ⊢; exact .inl hf))
      have hall := h0.all
      rw [hK', Asc, List.pairwise_append] at A
      have hA2 := List.pairwise_cons.1 A.2.1
      -- who is laid by this walk is none of rs
      have hno : ∀ g ∈ (⟨r, 0, 0⟩ : Fr) :: rest, g.i ∈ r :: tail := fun g hg => by
        have h5 := hin g (List.mem_append_right _ hg)
        rw [hK'] at h5
        rcases List.mem_append.1 h5 with h5 | h5
        · have h6 := (isDone_iff _ _).1 (hall g.i h5)
          exact absurd rfl (hn.2.2 _ h6 _ (List.mem_map.2 ⟨g, hg, rfl⟩))
        · exact h5
      have hnr := List.nodup_cons.1 (by have := hn.2.1; rw [List.map_cons] at this; exact this)
      refine ⟨new ++ ⟨r, 0, 0⟩ :: rest, by simp, ?_, fun f hf hp => ?_⟩
      · rw [List.pairwise_append, List.pairwise_cons]
        refine ⟨h2, ⟨fun g hg _ => ?_, pairwise_vac h3⟩, fun a ha b hb hp => A.2.2 _ (h4 a ha hp).1 _ (hno b hb)⟩
        rcases List.mem_cons.1 (hno g (by simp [hg])) with e | h5
        · exact absurd (List.mem_map.2 ⟨g, hg, e⟩) hnr.1
        · exact hA2.1 _ h5
      · rcases List.mem_append.1 hf with hf | hf
        · exact ⟨by simp [(h4 f hf hp).1], (h4 f hf hp).2⟩
        · rcases List.mem_cons.1 hf with rfl | hf
          · refine ⟨by simp, ?_⟩
            cases hc : isDone o r with
            | false => rfl
            | true =>
              have := isDone_mono (o' := o ++ new) (fun f hf => by simp [hf]) hc
              rw [hd] at this
              cases this
          · exact absurd hp (h3 f hf)
  | @skip rs r o o1 h0 hd ih =>
    intro tail hK hn hin
    obtain ⟨new, h1, h2, h4⟩ := ih (r :: tail) (by rw [hK]; simp) hn hin
    exact ⟨new, h1, h2, fun f hf hp => ⟨by simp [(h4 f hf hp).1], (h4 f hf hp).2⟩⟩

/-- The roots. -/
theorem TreeOut.rootsOrder {es : List Ent} {K : List Int} {o1 out : List Fr} (T : TreeOut es K o1 out) :
    (out.Pairwise fun a b => b.p = 0 → hangs es b.i = false → a.p = 0 → hangs es a.i = false ∧ a.i < b.i) ∧ (out.Pairwise fun a b => a.p = 0 → hangs es a.i = true → a.i < b.i) := by
  obtain ⟨n1, h1, hs⟩ := T.roots.roots
  rw [List.nil_append] at h1
  subst h1
  obtain ⟨new, h2, hp, hr⟩ := T.rest.roots T.asc [] (by simp) T.pure.nodup T.pure.outK
  have hroot : ∀ a ∈ o1, a.p = 0 → hangs es a.i = false := fun a ha hp0 => by
    have hm : a.i ∈ rootsOf es K := hs.subset (List.mem_map.2 ⟨a, List.mem_filter.2 ⟨ha, by simp [hp0]⟩, rfl⟩)
    have := (List.mem_filter.1 hm).2
    simpa using this
  have hloop : ∀ b ∈ new, b.p = 0 → hangs es b.i = true := fun b hb hp0 => by
    obtain ⟨h3, h4⟩ := hr b hb hp0
    cases hh : hangs es b.i with
    | true => rfl
    | false =>
      have hm : b.i ∈ rootsOf es K := List.mem_filter.2 ⟨h3, by simp [hh]⟩
      rw [T.roots.all _ hm] at h4
      cases h4
  have hasc : o1.Pairwise fun a b => a.p = 0 → b.p = 0 → a.i < b.i := by
    have hA : Asc (rootsOf es K) := List.Pairwise.filter _ T.asc
    have h5 := hA.sublist hs
    rw [List.pairwise_map, List.pairwise_filter] at h5
    exact h5.imp (fun h e1 e2 => h (by simp [e1]) (by simp [e2]))
  subst h2
  constructor
  · rw [List.pairwise_append]
    refine ⟨?_, ?_, fun a ha b hb hb0 hh _ => ?_⟩
    · refine List.Pairwise.imp_of_mem ?_ hasc
      intro a b ha hb h hb0 _ ha0
      exact ⟨hroot a ha ha0, h ha0 hb0⟩
    · refine List.Pairwise.imp_of_mem ?_ hp
      intro a b ha hb h hb0 hh _
      rw [hloop b hb hb0] at hh
      cases hh
    · rw [hloop b hb hb0] at hh
      cases hh
  · rw [List.pairwise_append]
    refine ⟨?_, hp.imp (fun h e _ => h e), fun a ha b hb ha0 hh => ?_⟩
    · refine List.Pairwise.imp_of_mem ?_ hasc
      intro a b ha hb h ha0 hh
      rw [hroot a ha ha0] at hh
      cases hh
    · rw [hroot a ha ha0] at hh
      cases hh
end Go.Proofs.Qxb6001503a
