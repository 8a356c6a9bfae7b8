/- Laws on the maps: 'len', 'range', 'next'; the map of the entities. -/
import Derived.Test.Qxb6001503aT8
import Derived.Maps.RangeRun
namespace Go.Proofs.Qxb6001503a
open Go.RowKit
open Go.ChangeMaps (setBlock)

section
variable {P : Program} (w : World) {ops : Array Oper} {rest : List Oper} {o : Oper} {a : Act} {Q : Exit → Act → World → Prop}

/-- 'len(m)'. -/
theorem wpList_len_im (hg : o.guard = none) (m : Operand) (t : TypeId) (hop : o.op = Op.call { callee := Callee.builtin Builtin.len, args := #[m], argTypes := #[t] }) (K E : TypeId) (ht : P.underlying t = some (.map K E))
    (b : Nat) (L : List (Int × Value)) (hm : a.eval m = .map (some b)) (hb : w.heap[b]? = some (mapObj L)) (n : Nat) (hn : L.length = n) (h : wpList P ops Q rest (a.put o.dst (.int .i64 (n : Int))) w) : wpList P ops Q (o :: rest) a w := by
  refine wpList_plain hg fun K' hK' => ?_
  unfold mapObj at hb
  have hl : (Builtin.len_ #[t] o.type #[.map (some b)]).run P w = .ok (.int .i64 (n : Int)) w := by
    simp [Builtin.len_, run_underlying ht, MapKept.run_getObj_map hb, goInt, Result.andThen, entsFrom_length, hn]
  unfold Oper.wp
  simp [execOp, hop, resolve, invoke, builtin, hm, hl, Result.andThen]
  exact hK' _ _ h

/-- 'range m'. -/
theorem wpList_range_im (hg : o.guard = none) (m : Operand) (t : TypeId) (hop : o.op = Op.range t m) (K E : TypeId) (ht : P.underlying t = some (.map K E))
    (b : Nat) (L : List (Int × Value)) (hm : a.eval m = .map (some b)) (hb : w.heap[b]? = some (mapObj L))
    (h : ∀ w', w' = w.alloc (.mapIter (some b) L.length #[] L.length) → wpList P ops Q rest (a.put o.dst (.pointer (some ⟨w.heap.size, 0, none⟩))) w') : wpList P ops Q (o :: rest) a w := by
  refine wpList_plain hg fun K' hK' => ?_
  have hrun := run_range_map (P := P) w t K E b _ _ ht hb
  unfold Oper.wp
  simp [execOp, hop, hm, hrun, Result.andThen]
  exact hK' _ _ (h _ rfl)

theorem mem_ents : ∀ (L : List (Int × Value)) (n : Nat) (e : MapEntry), e ∈ entsFrom n L → ∃ i, ∃ h : i < L.length, e = ⟨.int .i64 (L[i]'h).1, (L[i]'h).2, n + i⟩
  | [], _, _, h => by cases h
  | p :: L, n, e, h => by
    rcases List.mem_cons.1 h with rfl | h
    · exact ⟨0, by simp, rfl⟩
    · obtain ⟨i, hi, rfl⟩ := mem_ents L (n + 1) e h
      exact ⟨i + 1, by simpa using hi, by simp; omega⟩

theorem ents_mem : ∀ (L : List (Int × Value)) (n i : Nat) (h : i < L.length), (⟨.int .i64 (L[i]'h).1, (L[i]'h).2, n + i⟩ : MapEntry) ∈ entsFrom n L
  | p :: L, n, 0, _ => List.mem_cons_self
  | p :: L, n, i + 1, h => List.mem_cons_of_mem _ (by
      have := ents_mem L (n + 1) i (by simpa using h)
      have e : n + 1 + i = n + (i + 1) := by omega
      rw [e] at this
      exact this)

theorem ents_born : ∀ (L : List (Int × Value)) (n : Nat), (entsFrom n L).map (·.born) = List.range' n L.length
  | [], _ => rfl
  | p :: L, n => by simp [entsFrom, ents_born L (n + 1), List.range'_succ]

/-- The key of the i-th entry. -/
def keyAt (L : List (Int × Value)) (i : Nat) : Int := (L.map (·.1)).getD i 0

/-- 'next'. -/
theorem wpList_next_im (hg : o.guard = none) (it : Operand) (hop : o.op = Op.next it false) (b r : Nat) (L : List (Int × Value)) (seen : List Nat) (hit : a.eval it = .pointer (some ⟨r, 0, none⟩))
    (hr : w.heap[r]? = some (.mapIter (some b) L.length seen.toArray L.length)) (hb : w.heap[b]? = some (mapObj L))
    (hDone : (∀ i, i < L.length → i ∈ seen) → wpList P ops Q rest (a.put o.dst (.tuple #[.bool false])) w)
    (hMore : ∀ (i : Nat) (k : Int) (v : Value) (w1 w' : World), i < L.length → ¬ i ∈ seen → k = keyAt L i → (w1 = w ∨ w1 = w.drew) → w' = setBlock w1 r (.mapIter (some b) L.length (seen ++ [i]).toArray L.length) →
      (Instr.entry (.pointer (some ⟨r, 0, none⟩))).run P w' = .ok (.tuple #[.int .i64 k, v]) w' → wpList P ops Q rest (a.put o.dst (.tuple #[.bool true, .int .i64 k, v])) w') :
    wpList P ops Q (o :: rest) a w := by
  refine wpList_plain hg fun K' hK' => ?_
  unfold Oper.wp
  have hold : ∀ x ∈ (entsFrom 0 L).toArray.toList, x.born < L.length := fun x hx => by
    obtain ⟨i, hi, rfl⟩ := mem_ents L 0 x (by simpa using hx)
    simpa using hi
  rcases run_next_at (P := P) w o.type r b L.length L.length seen.toArray _ _ hr hb hold (Nat.le_refl _) with ⟨h0, hrun⟩ | ⟨e, he, w1, hw1, hrun⟩
  · simp [execOp, hop, hit, hrun, Result.andThen]
    refine hK' _ _ (hDone fun i hi => ?_)
    have hm := ents_mem L 0 i hi
    have hnil : leftOf (entsFrom 0 L).toArray seen.toArray = #[] := Array.eq_empty_of_size_eq_zero h0
    have := (Array.filter_eq_empty_iff.1 hnil) _ (by simpa using hm)
    simpa using this
  · have he' : e ∈ entsFrom 0 L ∧ ¬ e.born ∈ seen := by
      unfold leftOf at he
      simpa using he
    obtain ⟨i, hi, rfl⟩ := mem_ents L 0 e he'.1
    have hns : ¬ i ∈ seen := by simpa using he'.2
    have hne : r ≠ b := by
      rintro rfl
      rw [hr] at hb
      cases hb
    have hr1 : w1.heap[r]? = some (.mapIter (some b) L.length seen.toArray L.length) := by rcases hw1 with rfl | rfl <;> exact hr
    have hb1 : w1.heap[b]? = some (mapObj L) := by rcases hw1 with rfl | rfl <;> exact hb
    have hen := run_entry_at (P := P) (setBlock w1 r (.mapIter (some b) L.length (seen.toArray.push (0 + i)) L.length)) r b L.length seen.toArray _ L.length ⟨.int .i64 (L[i]'hi).1, (L[i]'hi).2, 0 + i⟩ (setBlock_same hr1) (by rw [setBlock_other _ (Ne.symm hne)]; exact hb1) (by simpa using he'.1)
      (by
        have := ents_born L 0
        simp only [this]
        exact List.nodup_range')
    have es : seen.toArray.push (0 + i) = (seen ++ [i]).toArray := by simp
    rw [es] at hen hrun
    simp [execOp, hop, hit, hrun, Result.andThen]
    refine hK' _ _ (hMore i _ _ w1 _ hi hns ?_ hw1 rfl hen)
    simp [keyAt, hi, List.getD]
end

/-- The map of the entities: the last of an index wins. -/
def fillM (es : List Ent) : List (Int × Value) := es.foldl (fun L e => put e.i e.val L) []

theorem fillM_snoc (es : List Ent) (e : Ent) : fillM (es ++ [e]) = put e.i e.val (fillM es) := by simp [fillM]

theorem look_put (k j : Int) (v : Value) : ∀ L : List (Int × Value), look (put k v L) j = if j = k then some v else look L j
  | [] => by
    by_cases h : j = k <;> simp [put, look, place, h]
  | p :: L => by
    have ih := look_put k j v L
    unfold look at ih ⊢
    unfold put
    by_cases h : k = p.1
    · rw [if_pos h]
      by_cases hj : j = k
      · simp [place, hj]
      · have : ¬ j = p.1 := fun e => hj (e.trans h.symm)
        simp [place, hj, this]
    · rw [if_neg h]
      by_cases hj : j = p.1
      · have : ¬ j = k := fun e => h (e.symm.trans hj)
        simp [place, hj]
        intro e
        exact absurd e.symm h
      · simp only [place, if_neg hj, Option.map_map] at ih ⊢
        exact ih

theorem put_keys (k : Int) (v : Value) : ∀ L : List (Int × Value), (put k v L).map (·.1) = if k ∈ L.map (·.1) then L.map (·.1) else L.map (·.1) ++ [k]
  | [] => by simp [put]
  | p :: L => by
    unfold put
    by_cases h : k = p.1
    · simp [h]
    · rw [if_neg h, List.map_cons, put_keys k v L]
      by_cases hm : k ∈ L.map (·.1)
      · rw [if_pos hm, if_pos (by simp only [List.map_cons, List.mem_cons]; exact .inr hm)]; rfl
      · rw [if_neg hm, if_neg (by simp only [List.map_cons, List.mem_cons]; rintro (e | e) <;> first | exact h e | exact hm e)]; rfl

theorem put_keys_nodup {k : Int} {v : Value} {L : List (Int × Value)} (h : (L.map (·.1)).Nodup) : ((put k v L).map (·.1)).Nodup := by
  rw [put_keys]
  split
  · exact h
  · rename_i hn
    rw [List.nodup_append]
    refine ⟨h, by simp, fun a ha b hb => ?_⟩
    simp at hb
    subst hb
    rintro rfl
    exact hn ha

theorem put_keys_mem {k : Int} {v : Value} {L : List (Int × Value)} (x : Int) : x ∈ (put k v L).map (·.1) ↔ x = k ∨ x ∈ L.map (·.1) := by
  rw [put_keys]
  split
  · rename_i h
    constructor
    · exact .inr
    · rintro (rfl | h')
      · exact h
      · exact h'
  · simp only [List.mem_append, List.mem_singleton]
    exact or_comm

/-- What the map of the entities holds. -/
def lastE (es : List Ent) (k : Int) : Option Ent := es.reverse.find? fun e => e.i == k

theorem lastE_snoc (es : List Ent) (e : Ent) (k : Int) : lastE (es ++ [e]) k = if k = e.i then some e else lastE es k := by
  unfold lastE
  rw [List.reverse_append, List.reverse_singleton, List.singleton_append, List.find?_cons]
  by_cases h : k = e.i
  · simp [h]
  · have : (e.i == k) = false := beq_eq_false_iff_ne.2 (fun e' => h e'.symm)
    simp [this, h]

theorem list_snoc_ind {α : Type} {C : List α → Prop} (h0 : C []) (h1 : ∀ l a, C l → C (l ++ [a])) : ∀ l, C l := by
  intro l
  rw [← List.reverse_reverse l]
  induction l.reverse with
  | nil => exact h0
  | cons a l ih => rw [List.reverse_cons]; exact h1 _ _ ih

theorem look_fillM (es : List Ent) (k : Int) : look (fillM es) k = (lastE es k).map Ent.val := by
  induction es using list_snoc_ind with
  | h0 => rfl
  | h1 es e ih =>
    rw [fillM_snoc, look_put, lastE_snoc]
    split
    · rfl
    · exact ih

theorem fillM_keys (es : List Ent) : ((fillM es).map (·.1)).Nodup ∧ ∀ x, x ∈ (fillM es).map (·.1) ↔ x ∈ es.map (·.i) := by
  induction es using list_snoc_ind with
  | h0 => simp [fillM]
  | h1 es e ih =>
    rw [fillM_snoc]
    refine ⟨put_keys_nodup ih.1, fun x => ?_⟩
    rw [put_keys_mem, ih.2, List.map_append, List.mem_append]
    simp
    exact or_comm

theorem fillM_length (es : List Ent) : (fillM es).length ≤ es.length := by
  have h := fillM_keys es
  have := nodup_le h.1 (K := es.map (·.i)) (fun x hx => (h.2 x).1 hx)
  simpa using this

theorem lastE_some {es : List Ent} {k : Int} (h : k ∈ es.map (·.i)) : ∃ e, lastE es k = some e ∧ e.i = k ∧ e ∈ es := by
  induction es using list_snoc_ind with
  | h0 => simp at h
  | h1 es e ih =>
    rw [lastE_snoc]
    by_cases he : k = e.i
    · exact ⟨e, by rw [if_pos he], he.symm, by simp⟩
    · rw [if_neg he]
      have : k ∈ es.map (·.i) := by
        rw [List.map_append, List.mem_append] at h
        rcases h with h | h
        · exact h
        · simp at h; exact absurd h he
      obtain ⟨e', h1, h2, h3⟩ := ih this
      exact ⟨e', h1, h2, by simp [h3]⟩

theorem lastE_none {es : List Ent} {k : Int} (h : ¬ k ∈ es.map (·.i)) : lastE es k = none := by
  unfold lastE
  rw [List.find?_eq_none]
  intro e he hk
  exact h (List.mem_map.2 ⟨e, by simpa using he, by simpa using hk⟩)
end Go.Proofs.Qxb6001503a
