/- From the collected kids to the search; what Tree answers. -/
import Derived.Test.Qxb6001503aT11
namespace Go.Proofs.Qxb6001503a
open Go.RowKit
open Go.ChangeMaps (setBlock)

/-- The roots, walked one behind the other. -/
inductive Runs (kids : Int → List Int) : List Int → List Fr → List Fr → Prop
  | nil (o : List Fr) : Runs kids [] o o
  | snoc {rs : List Int} {r : Int} {o o1 o2 : List Fr} : Runs kids rs o o1 → Reach kids ([⟨r, 0, 0⟩], o1) ([], o2) → Runs kids (rs ++ [r]) o o2

/-- The rest: whoever is not placed yet. -/
inductive Rest (kids : Int → List Int) : List Int → List Fr → List Fr → Prop
  | nil (o : List Fr) : Rest kids [] o o
  | walk {rs : List Int} {r : Int} {o o1 o2 : List Fr} : Rest kids rs o o1 → isDone o1 r = false → Reach kids ([⟨r, 0, 0⟩], o1) ([], o2) → Rest kids (rs ++ [r]) o o2
  | skip {rs : List Int} {r : Int} {o o1 : List Fr} : Rest kids rs o o1 → isDone o1 r = true → Rest kids (rs ++ [r]) o o1

/-- What Tree answers. -/
structure TreeOut (es : List Ent) (K : List Int) (o1 out : List Fr) : Prop where
  asc : Asc K
  mem : ∀ x, x ∈ K ↔ x ∈ es.map (·.i)
  len : K.length ≤ 4096
  roots : Runs (kidsOf es K) (rootsOf es K) [] o1
  rest : Rest (kidsOf es K) K o1 out
  pure : Pure K [] out

theorem slice_row {w : World} {base : Nat} {v : Value} {xs : List Int} (h : w.ownsRow base 3 1 v xs.length (vals xs)) : ∃ a c, v = .slice a xs.length c ∧ KidRow w a xs := by
  rcases h.2 with ⟨rfl, h0⟩ | ⟨g, cap, cur, rfl, hb, hh, h1, h2, h3, h4⟩
  · rw [h0]
    refine ⟨none, 0, rfl, fun hne => ?_⟩
    exact absurd (List.length_eq_zero_iff.1 h0) hne
  · refine ⟨_, cap, rfl, fun hne => ⟨g, cur, rfl, hh, fun i hi => ?_⟩⟩
    have e := congrArg (fun l : List Value => l[i]?) h4
    simp only [Nat.mul_one] at e
    rw [List.getElem?_take_of_lt hi, Array.getElem?_toList] at e
    rw [e]
    simp [vals, List.getD, hi]

/-- A row of kids in a later world. -/
theorem KidRow.later {w w' : World} {a : Option Addr} {ks : List Int} (h : KidRow w a ks) (hb : ∀ k, k < w.heap.size → w'.heap[k]? = w.heap[k]?) : KidRow w' a ks := fun hne => by
  obtain ⟨g, cur, e, hg, hc⟩ := h hne
  exact ⟨g, cur, e, by rw [hb g (lt_of_block hg)]; exact hg, hc⟩

theorem kidsOf_len (es : List Ent) (K : List Int) (k : Int) : (kidsOf es K k).length ≤ K.length := List.length_filter_le _ _
theorem kidsOf_mem {es : List Ent} {K : List Int} {k x : Int} (h : x ∈ kidsOf es K k) : x ∈ K := (List.mem_filter.1 h).1

/-- The names of the blocks of Tree. -/
def envOf (es : List Ent) (w w5 : World) (bC bO : Nat) (K : List Int) (Lc : List (Int × Value)) : Env :=
  ⟨w5.heap.size + 1 + 1 + 1, w5.heap.size + 1 + 1, w.heap.size + 1, w5.heap.size, bC + 1, w5.heap.size + 1, w.heap.size, bC, bO, K.length, entOf es, fillM es, Lc, kidsOf es K, K⟩

/-- The world in which the searches begin. -/
def worldOf (w5 : World) (bO n : Nat) : World :=
  (((w5.alloc (.cells #[.slice (some ⟨bO, 0, none⟩) 0 n] 25)).alloc (mapObj [])).alloc (.cells #[.map (some (w5.heap.size + 1))] 36)).alloc (.cells #[.slice none 0 0] 37)

theorem worldOf_old (w5 : World) (bO n : Nat) {k : Nat} (hk : k < w5.heap.size) : (worldOf w5 bO n).heap[k]? = w5.heap[k]? := by
  unfold worldOf
  rw [Below.heap_alloc _ _ _ (by simp; omega), Below.heap_alloc _ _ _ (by simp; omega), Below.heap_alloc _ _ _ (by simp; omega), Below.heap_alloc _ _ _ hk]

theorem worldOf_cO (w5 : World) (bO n : Nat) : (worldOf w5 bO n).heap[w5.heap.size]? = some (.cells #[.slice (some ⟨bO, 0, none⟩) 0 n] 25 (0, 0)) := by
  unfold worldOf
  rw [Below.heap_alloc _ _ _ (by simp <;> omega), Below.heap_alloc _ _ _ (by simp <;> omega), Below.heap_alloc _ _ _ (by simp)]
  exact heap_alloc_new w5 _

theorem worldOf_bP (w5 : World) (bO n : Nat) : (worldOf w5 bO n).heap[w5.heap.size + 1]? = some (mapObj []) := by
  unfold worldOf
  rw [Below.heap_alloc _ _ _ (by simp <;> omega), Below.heap_alloc _ _ _ (by simp)]
  have := heap_alloc_new (w5.alloc (.cells #[.slice (some ⟨bO, 0, none⟩) 0 n] 25)) (mapObj [])
  simpa using this

theorem worldOf_cP (w5 : World) (bO n : Nat) : (worldOf w5 bO n).heap[w5.heap.size + 1 + 1]? = some (.cells #[.map (some (w5.heap.size + 1))] 36 (0, 0)) := by
  unfold worldOf
  rw [Below.heap_alloc _ _ _ (by simp)]
  have := heap_alloc_new ((w5.alloc (.cells #[.slice (some ⟨bO, 0, none⟩) 0 n] 25)).alloc (mapObj [])) (.cells #[.map (some (w5.heap.size + 1))] 36)
  simpa using this

theorem worldOf_cS (w5 : World) (bO n : Nat) : (worldOf w5 bO n).heap[w5.heap.size + 1 + 1 + 1]? = some (.cells #[.slice none 0 0] 37 (0, 0)) := by
  unfold worldOf
  have := heap_alloc_new (((w5.alloc (.cells #[.slice (some ⟨bO, 0, none⟩) 0 n] 25)).alloc (mapObj [])).alloc (.cells #[.map (some (w5.heap.size + 1))] 36)) (.cells #[.slice none 0 0] 37)
  simpa using this

theorem worldOf_size (w5 : World) (bO n : Nat) : (worldOf w5 bO n).heap.size = w5.heap.size + 4 := by simp [worldOf]

theorem W4.search {w wr : World} {es : List Ent} {bC base gK capK : Nat} {K : List Int} {Lc : List (Int × Value)} {vR : Value} (Z : W4 w wr (fillM es) (bC + 1) bC base gK capK K Lc vR (kidsOf es K) (rootsOf es K)) {w5 : World} (hg : wr.grownBy w5 none)
    {bO : Nat} (hO : w5.ownsRow 0 31 16 (.slice (some ⟨bO, 0, none⟩) 0 K.length) 0 []) (hK : K.length ≤ 4096) (hmem : ∀ x, x ∈ K ↔ x ∈ es.map (·.i)) :
    Stat (envOf es w w5 bC bO K Lc) (worldOf w5 bO K.length) ∧ Inv (envOf es w w5 bC bO K Lc) (worldOf w5 bO K.length) (worldOf w5 bO K.length) [] [] [] (.slice none 0 0) ∧ Below w.heap.size w (worldOf w5 bO K.length) ∧ (∀ k, k < wr.heap.size → (worldOf w5 bO K.length).heap[k]? = wr.heap[k]?) := by
  have hs := hg.size
  have h5 : ∀ {k : Nat} {o : Obj}, wr.heap[k]? = some o → (worldOf w5 bO K.length).heap[k]? = some o := fun {k o} h => by
    have hlt := lt_of_block h
    rw [worldOf_old _ _ _ (by omega), hg.block k hlt (by simp)]
    exact h
  obtain ⟨curO, hcurO⟩ : ∃ cur, w5.heap[bO]? = some (.cells cur 31 (0, 0)) := by
    rcases hO.2 with ⟨e, _⟩ | ⟨g, cap, cur, e, _, hh, _⟩
    · cases e
    · cases e; exact ⟨cur, hh⟩
  have hOw : (worldOf w5 bO K.length).heap[bO]? = some (.cells curO 31 (0, 0)) := by rw [worldOf_old _ _ _ (lt_of_block hcurO)]; exact hcurO
  have hrowO : (worldOf w5 bO K.length).ownsRow 0 31 16 (.slice (some ⟨bO, 0, none⟩) 0 K.length) 0 [] := (((hO.alloc _).alloc _).alloc _).alloc _
  have hgt := Z.X.gt
  refine ⟨⟨⟨_, worldOf_cS _ _ _⟩, worldOf_cP _ _ _, h5 Z.X.hM, ⟨_, worldOf_cO _ _ _⟩, h5 Z.hC, ⟨_, worldOf_bP _ _ _⟩, h5 Z.X.mM, h5 Z.mC, ⟨_, hOw⟩, ?_, ?_, fun k hk => ?_, fun k => ?_, fun k x hx => kidsOf_mem hx, fun k => kidsOf_len es K k, hK, rfl⟩,
    ⟨rfl, rfl, rfl, Nat.le_refl _, fun _ _ _ => rfl, worldOf_cS _ _ _, ⟨rfl, .inl ⟨rfl, rfl⟩⟩, worldOf_cO _ _ _, hrowO, worldOf_bP _ _ _⟩, ?_, fun k hk => by rw [worldOf_old _ _ _ (by omega), hg.block k hk (by simp)]⟩
  · have := lt_of_block Z.X.mM
    show w.heap.size ≠ w5.heap.size + 1
    omega
  · have := lt_of_block Z.mC
    show bC ≠ w5.heap.size + 1
    omega
  · obtain ⟨e, he, _, _⟩ := lastE_some ((hmem k).1 hk)
    show look (fillM es) k = some (entOf es k).val
    rw [look_fillM, entOf, he]; rfl
  · obtain ⟨a, c, e, hr⟩ := slice_row (Z.kid k)
    exact ⟨a, c, e, hr.later (fun j hj => by rw [worldOf_old _ _ _ (by omega), hg.block j hj (by simp)])⟩
  · have B5 : Below w.heap.size w w5 := Z.X.B.grown hg (by omega) (by intro k hk; cases hk)
    unfold worldOf
    exact (((B5.alloc (by omega) _).alloc (by simp; omega) _).alloc (by simp; omega) _).alloc (by simp; omega) _

theorem eflat_at : ∀ (l : List Ent) (k j : Nat) (v : Value), k < l.length → (l.getD k noEnt).cells[j]? = some v → (eflat l)[k * 16 + j]? = some v
  | [], k, _, _, h, _ => by simp at h
  | e :: l, 0, j, v, _, hv => by
    have hj : j < 16 := by
      have := (List.getElem?_eq_some_iff.1 hv).1
      rw [Ent.cells_length] at this
      exact this
    show (e.cells ++ eflat l)[0 * 16 + j]? = some v
    rw [Nat.zero_mul, Nat.zero_add, List.getElem?_append_left (by rw [Ent.cells_length]; exact hj)]
    exact hv
  | e :: l, k + 1, j, v, h, hv => by
    show (e.cells ++ eflat l)[(k + 1) * 16 + j]? = some v
    rw [List.getElem?_append_right (by rw [Ent.cells_length]; omega), Ent.cells_length]
    have e1 : (k + 1) * 16 + j - 16 = k * 16 + j := by omega
    rw [e1]
    exact eflat_at l k j v (by simpa using h) (by simpa using hv)

/-- What is handed back. -/
theorem Inv.answer {E : Env} {w0 w : World} {out : List Fr} {v : Value} (I : Inv E w0 w [] out out v) : EntRow w (some ⟨E.bO, 0, none⟩) (out.map (placedE E.M)) := by
  intro hne
  obtain ⟨cur, hb⟩ := I.oRow
  refine ⟨E.bO, 0, rfl, lt_of_block hb, fun k hk j v hv => ?_⟩
  have hl : (out.map (placedE E.M)).length = out.length := by simp
  have hj : j < 16 := by
    have := (List.getElem?_eq_some_iff.1 hv).1
    rw [Ent.cells_length] at this
    exact this
  rw [Nat.zero_add, I.rowO.cellAt (k * 16 + j) (by omega)]
  exact eflat_at _ k j v hk hv

theorem Inv.below {E : Env} {w0 w w1 : World} {st P O : List Fr} {v : Value} (I : Inv E w0 w st P O v) (B : Below w1.heap.size w1 w0) (hS : w1.heap.size ≤ E.cS) (hO : w1.heap.size ≤ E.cO) (hP : w1.heap.size ≤ E.bP) (hbO : w1.heap.size ≤ E.bO) : Below w1.heap.size w1 w :=
  ⟨I.os.trans B.os, I.tape.trans B.tape, I.output.trans B.output, Nat.le_trans B.size I.size, fun k hk => by
    rw [I.frame k (Nat.lt_of_lt_of_le hk B.size) (by rintro (e | e | e | e) <;> omega)]
    exact B.block k hk⟩
end Go.Proofs.Qxb6001503a
