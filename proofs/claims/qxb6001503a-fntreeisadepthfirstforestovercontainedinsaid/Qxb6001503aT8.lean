/- The memory of the search. -/
import Derived.Test.Qxb6001503aT7
import Derived.Deep.AppendLies
namespace Go.Proofs.Qxb6001503a
open Go.RowKit
open Go.ChangeMaps (setBlock)

theorem setBlock_same {w : World} {b : Nat} {o o' : Obj} (h : w.heap[b]? = some o) : (setBlock w b o').heap[b]? = some o' := by
  have hlt := lt_of_block h
  show (w.heap.setIfInBounds b o')[b]? = _
  simp [hlt]

theorem setBlock_other {w : World} {b k : Nat} (o : Obj) (h : k ≠ b) : (setBlock w b o).heap[k]? = w.heap[k]? := by
  show (w.heap.setIfInBounds b o)[k]? = _
  rw [Array.getElem?_setIfInBounds_ne (fun e => h e.symm)]

theorem setBlock_size (w : World) (b : Nat) (o : Obj) : (setBlock w b o).heap.size = w.heap.size := by
  show (w.heap.setIfInBounds b o).size = _
  simp

theorem ne_of_heap {w : World} {a b : Nat} {x y : Obj} (hx : w.heap[a]? = some x) (hy : w.heap[b]? = some y) (h : x ≠ y) : a ≠ b := by
  rintro rfl
  rw [hx] at hy
  exact h (Option.some.inj hy)

def Fr.cells (f : Fr) : List Value := [.int .i64 f.i, .int .i64 f.p, .int .i64 f.d]
/-- The cells of the stack, its top at the head of the list and at the end of the row. -/
def sflat (st : List Fr) : List Value := st.reverse.flatMap Fr.cells
theorem sflat_cons (f : Fr) (st : List Fr) : sflat (f :: st) = sflat st ++ f.cells := by simp [sflat]
theorem sflat_length (st : List Fr) : (sflat st).length = st.length * 3 := by
  induction st with
  | nil => rfl
  | cons f st ih => rw [sflat_cons, List.length_append, ih]; simp [Fr.cells]; omega

/-- The entity that is placed for a frame. -/
def placedE (M : Int → Ent) (f : Fr) : Ent := ⟨(M f.i).i, f.p, f.d, (M f.i).pos, (M f.i).c⟩
def eflat (es : List Ent) : List Value := es.flatMap Ent.cells
theorem eflat_length (es : List Ent) : (eflat es).length = es.length * 16 := by
  induction es with
  | nil => rfl
  | cons e es ih => simp only [eflat, List.flatMap_cons, List.length_append, List.length_cons] at ih ⊢; rw [ih, Ent.cells_length]; omega
theorem eflat_snoc (es : List Ent) (e : Ent) : eflat (es ++ [e]) = eflat es ++ e.cells := by simp [eflat]

/-- The entries of the map of placed indices. -/
def placedL (out : List Fr) : List (Int × Value) := out.map fun f => (f.i, .bool true)

theorem isDone_cons (f : Fr) (out : List Fr) (k : Int) : isDone (f :: out) k = (f.i == k || isDone out k) := rfl

theorem look_placed : ∀ (out : List Fr) (k : Int), look (placedL out) k = if isDone out k then some (.bool true) else none
  | [], _ => rfl
  | f :: out, k => by
    have ih := look_placed out k
    unfold look at ih ⊢
    have e : place k (placedL (f :: out)) = if k = f.i then some (0, .bool true) else (place k (placedL out)).map fun q => (q.1 + 1, q.2) := rfl
    rw [e]
    by_cases h : k = f.i
    · have hd : isDone (f :: out) k = true := by rw [isDone_cons, h]; simp
      rw [if_pos h, hd]; rfl
    · have hd : isDone (f :: out) k = isDone out k := by rw [isDone_cons, beq_eq_false_iff_ne.2 (fun e => h e.symm)]; rfl
      rw [if_neg h, hd, ← ih, Option.map_map]
      rfl

theorem put_placed {out : List Fr} {k : Int} (h : isDone out k = false) (p d : Int) : put k (.bool true) (placedL out) = placedL (out ++ [⟨k, p, d⟩]) := by
  have hl := look_placed out k
  rw [h] at hl
  have : place k (placedL out) = none := by
    unfold look at hl
    simpa using hl
  rw [put_none this]
  simp [placedL]

/-- The names of the blocks; what the two maps that are only read hold. -/
structure Env where
  cS : Nat
  cP : Nat
  cM : Nat
  cO : Nat
  cC : Nat
  bP : Nat
  bM : Nat
  bC : Nat
  bO : Nat
  n : Nat
  M : Int → Ent
  Lm : List (Int × Value)
  Lc : List (Int × Value)
  kids : Int → List Int
  K : List Int

/-- A slice of kids lies in a row of its own. -/
def KidRow (w : World) (a : Option Addr) (ks : List Int) : Prop :=
  ks ≠ [] → ∃ g cur, a = some ⟨g, 0, none⟩ ∧ w.heap[g]? = some (.cells cur 3 (0, 0)) ∧ ∀ i, i < ks.length → cur[i]? = some (.int .i64 (ks.getD i 0))

/-- What holds in the world in which the searches begin, and stays. -/
structure Stat (E : Env) (w0 : World) : Prop where
  hS : ∃ v, w0.heap[E.cS]? = some (.cells #[v] 37 (0, 0))
  hP : w0.heap[E.cP]? = some (.cells #[.map (some E.bP)] 36 (0, 0))
  hM : w0.heap[E.cM]? = some (.cells #[.map (some E.bM)] 32 (0, 0))
  hO : ∃ v, w0.heap[E.cO]? = some (.cells #[v] 25 (0, 0))
  hC : w0.heap[E.cC]? = some (.cells #[.map (some E.bC)] 34 (0, 0))
  mP : ∃ L, w0.heap[E.bP]? = some (mapObj L)
  mM : w0.heap[E.bM]? = some (mapObj E.Lm)
  mC : w0.heap[E.bC]? = some (mapObj E.Lc)
  rO : ∃ cur, w0.heap[E.bO]? = some (.cells cur 31 (0, 0))
  nPM : E.bM ≠ E.bP
  nPC : E.bC ≠ E.bP
  lookM : ∀ k, k ∈ E.K → look E.Lm k = some (E.M k).val
  kidsC : ∀ k, ∃ a c, (look E.Lc k).getD (.slice none 0 0) = .slice a (E.kids k).length c ∧ KidRow w0 a (E.kids k)
  kidsK : ∀ k x, x ∈ E.kids k → x ∈ E.K
  kidsL : ∀ k, (E.kids k).length ≤ E.K.length
  len : E.K.length ≤ 4096
  cap : E.n = E.K.length

/-- The blocks that the search writes. -/
def Env.turns (E : Env) (k : Nat) : Prop := k = E.cS ∨ k = E.cO ∨ k = E.bP ∨ k = E.bO

/-- The world in the midst of a search: the stack st, the indices P marked as placed, the frames O whose entities are laid. -/
structure Inv (E : Env) (w0 w : World) (st P O : List Fr) (v : Value) : Prop where
  os : w.os = w0.os
  tape : w.tape = w0.tape
  output : w.output = w0.output
  size : w0.heap.size ≤ w.heap.size
  frame : ∀ k, k < w0.heap.size → ¬ E.turns k → w.heap[k]? = w0.heap[k]?
  hS : w.heap[E.cS]? = some (.cells #[v] 37 (0, 0))
  rowS : w.ownsRow w0.heap.size 39 3 v st.length (sflat st)
  hO : w.heap[E.cO]? = some (.cells #[.slice (some ⟨E.bO, 0, none⟩) O.length E.n] 25 (0, 0))
  rowO : w.ownsRow 0 31 16 (.slice (some ⟨E.bO, 0, none⟩) O.length E.n) O.length (eflat (O.map (placedE E.M)))
  hP : w.heap[E.bP]? = some (mapObj (placedL P))

theorem mapObj_ne_cells (L : List (Int × Value)) (cs : Array Value) (t : TypeId) (fr : Nat × Nat) : mapObj L ≠ .cells cs t fr := by
  intro h; cases h

/-- A block that the search only reads. -/
theorem Inv.still {E : Env} {w0 w : World} {st P O : List Fr} {v : Value} (I : Inv E w0 w st P O v) {k : Nat} {o : Obj} (h : w0.heap[k]? = some o) (hk : ¬ E.turns k) : w.heap[k]? = some o := by
  rw [I.frame k (lt_of_block h) hk]; exact h

theorem Stat.notTurns {E : Env} {w0 : World} (S : Stat E w0) {k : Nat} {cs : Array Value} {t : TypeId} {fr : Nat × Nat} (h : w0.heap[k]? = some (.cells cs t fr)) (h1 : t ≠ 37) (h2 : t ≠ 25) (h3 : t ≠ 31) : ¬ E.turns k := by
  obtain ⟨v, hS⟩ := S.hS
  obtain ⟨v', hO⟩ := S.hO
  obtain ⟨L, mP⟩ := S.mP
  obtain ⟨cur, rO⟩ := S.rO
  rintro (e | e | e | e)
  · exact ne_of_heap h hS (by simp [h1]) e
  · exact ne_of_heap h hO (by simp [h2]) e
  · exact ne_of_heap h mP (fun e => mapObj_ne_cells _ _ _ _ e.symm) e
  · exact ne_of_heap h rO (by simp [h3]) e

theorem Stat.notTurns_map {E : Env} {w0 : World} (S : Stat E w0) {k : Nat} {L : List (Int × Value)} (h : w0.heap[k]? = some (mapObj L)) (hne : k ≠ E.bP) : ¬ E.turns k := by
  obtain ⟨v, hS⟩ := S.hS
  obtain ⟨v', hO⟩ := S.hO
  obtain ⟨cur, rO⟩ := S.rO
  rintro (e | e | e | e)
  · exact ne_of_heap h hS (mapObj_ne_cells _ _ _ _) e
  · exact ne_of_heap h hO (mapObj_ne_cells _ _ _ _) e
  · exact hne e
  · exact ne_of_heap h rO (mapObj_ne_cells _ _ _ _) e

theorem Inv.pCell {E : Env} {w0 w : World} {st P O : List Fr} {v : Value} (I : Inv E w0 w st P O v) (S : Stat E w0) : w.heap[E.cP]? = some (.cells #[.map (some E.bP)] 36 (0, 0)) := I.still S.hP (S.notTurns S.hP (by decide) (by decide) (by decide))
theorem Inv.mCell {E : Env} {w0 w : World} {st P O : List Fr} {v : Value} (I : Inv E w0 w st P O v) (S : Stat E w0) : w.heap[E.cM]? = some (.cells #[.map (some E.bM)] 32 (0, 0)) := I.still S.hM (S.notTurns S.hM (by decide) (by decide) (by decide))
theorem Inv.cCell {E : Env} {w0 w : World} {st P O : List Fr} {v : Value} (I : Inv E w0 w st P O v) (S : Stat E w0) : w.heap[E.cC]? = some (.cells #[.map (some E.bC)] 34 (0, 0)) := I.still S.hC (S.notTurns S.hC (by decide) (by decide) (by decide))
theorem Inv.mMap {E : Env} {w0 w : World} {st P O : List Fr} {v : Value} (I : Inv E w0 w st P O v) (S : Stat E w0) : w.heap[E.bM]? = some (mapObj E.Lm) := I.still S.mM (S.notTurns_map S.mM S.nPM)
theorem Inv.cMap {E : Env} {w0 w : World} {st P O : List Fr} {v : Value} (I : Inv E w0 w st P O v) (S : Stat E w0) : w.heap[E.bC]? = some (mapObj E.Lc) := I.still S.mC (S.notTurns_map S.mC S.nPC)

theorem Inv.kid {E : Env} {w0 w : World} {st P O : List Fr} {v : Value} (I : Inv E w0 w st P O v) (S : Stat E w0) {a : Option Addr} {ks : List Int} (h : KidRow w0 a ks) {j : Nat} (hj : j < ks.length) :
    ∃ g, a = some ⟨g, 0, none⟩ ∧ w.cell? ⟨g, j, none⟩ = some (.int .i64 (ks.getD j 0)) := by
  obtain ⟨g, cur, e, hg, hc⟩ := h (by intro e; subst e; simp at hj)
  refine ⟨g, e, ?_⟩
  rw [cell_of_row w g j cur 3 (0, 0) (I.still hg (S.notTurns hg (by decide) (by decide) (by decide))), hc j hj]

/-- A new block. -/
theorem Inv.alloc {E : Env} {w0 w : World} {st P O : List Fr} {v : Value} (I : Inv E w0 w st P O v) (o : Obj) : Inv E w0 (w.alloc o) st P O v := by
  have hb : ∀ {k : Nat} {x : Obj}, w.heap[k]? = some x → (w.alloc o).heap[k]? = some x := fun h => by rw [Below.heap_alloc _ _ _ (lt_of_block h)]; exact h
  exact ⟨I.os, I.tape, I.output, by simp; have := I.size; omega, fun k hk hn => by rw [Below.heap_alloc _ _ _ (by have := I.size; omega)]; exact I.frame k hk hn, hb I.hS, I.rowS.alloc o, hb I.hO, I.rowO.alloc o, hb I.hP⟩

/-- Draws. -/
theorem Inv.drewN {E : Env} {w0 w : World} {st P O : List Fr} {v : Value} (I : Inv E w0 w st P O v) (n : Nat) : Inv E w0 (w.drewN n) st P O v :=
  ⟨I.os, I.tape, I.output, I.size, I.frame, I.hS, I.rowS, I.hO, I.rowO, I.hP⟩

theorem Inv.drew {E : Env} {w0 w : World} {st P O : List Fr} {v : Value} (I : Inv E w0 w st P O v) : Inv E w0 w.drew st P O v :=
  ⟨I.os, I.tape, I.output, I.size, I.frame, I.hS, I.rowS, I.hO, I.rowO, I.hP⟩

/-- The row of the entities. -/
theorem Inv.oRow {E : Env} {w0 w : World} {st P O : List Fr} {v : Value} (I : Inv E w0 w st P O v) : ∃ cur, w.heap[E.bO]? = some (.cells cur 31 (0, 0)) := by
  rcases I.rowO.2 with ⟨e', _⟩ | ⟨g, cap, cur, e', _, hh, _⟩
  · cases e'
  · cases e'; exact ⟨cur, hh⟩

/-- A block of another kind than the entities' row, behind an append upon that. -/
theorem Inv.keepO {E : Env} {w0 w w1 : World} {st P O : List Fr} {v : Value} (I : Inv E w0 w st P O v) (hg : w.grownBy w1 (some E.bO)) {k : Nat} {x : Obj} (hk : w.heap[k]? = some x) (hn : ∀ cs, x ≠ .cells cs 31 (0, 0)) : w1.heap[k]? = some x := by
  obtain ⟨cur, hbO⟩ := I.oRow
  rw [hg.block _ (lt_of_block hk) (fun e => by cases e; rw [hbO] at hk; exact hn cur (Option.some.inj hk).symm)]; exact hk

/-- The type of a row tells it from other blocks. -/
theorem row_ne {w : World} {base : Nat} {e : TypeId} {size : Nat} {v : Value} {n : Nat} {xs : List Value} (h : w.ownsRow base e size v n xs) {b : Nat} {o : Obj} (hb : w.heap[b]? = some o) (hne : ∀ cs, o ≠ .cells cs e (0, 0)) : v.ownBlock ≠ some b := by
  rcases h.2 with ⟨rfl, _⟩ | ⟨g, cap, cur, rfl, _, hg, _⟩
  · simp [Value.ownBlock]
  · intro e'
    have : g = b := by simpa [Value.ownBlock] using e'
    subst this
    rw [hg] at hb
    exact hne cur (Option.some.inj hb).symm

theorem row_lt {w : World} {base : Nat} {e : TypeId} {size : Nat} {v : Value} {n : Nat} {xs : List Value} (h : w.ownsRow base e size v n xs) {b : Nat} (hb : v.ownBlock = some b) : base ≤ b ∧ b < w.heap.size := by
  rcases h.2 with ⟨rfl, _⟩ | ⟨g, cap, cur, rfl, hg, hh, _⟩
  · simp [Value.ownBlock] at hb
  · have : g = b := by simpa [Value.ownBlock] using hb
    subst this
    exact ⟨hg, lt_of_block hh⟩

/-- The variable that holds the stack is written: the row stays, as another value owns it. -/
theorem Inv.setS {E : Env} {w0 w : World} {st P O : List Fr} {v : Value} (I : Inv E w0 w st P O v) {v' : Value} {st' : List Fr} (h : w.ownsRow w0.heap.size 39 3 v' st'.length (sflat st')) : Inv E w0 (w.setCell ⟨E.cS, 0, none⟩ v') st' P O v' := by
  have ho : ∀ {k : Nat} {x : Obj}, w.heap[k]? = some x → k ≠ E.cS → (w.setCell ⟨E.cS, 0, none⟩ v').heap[k]? = some x := fun h hn => by rw [Below.heap_setCell _ _ _ _ hn]; exact h
  refine ⟨I.os, I.tape, I.output, by simp [World.setCell]; exact I.size, fun k hk hn => ?_, one_setCell I.hS, ?_, ho I.hO ?_, ?_, ho I.hP ?_⟩
  · rw [Below.heap_setCell _ _ _ _ (fun e => hn (.inl e))]; exact I.frame k hk hn
  · exact ownsRow_setCell_other h (row_ne h I.hS (by intro cs; simp)) _
  · exact ne_of_heap I.hO I.hS (by simp)
  · exact ownsRow_setCell_other I.rowO (row_ne I.rowO I.hS (by intro cs; simp)) _
  · exact ne_of_heap I.hP I.hS (mapObj_ne_cells _ _ _ _)

/-- The stack's row has grown, and its variable has been written. -/
theorem Inv.push {E : Env} {w0 w w1 : World} {st P O : List Fr} {v : Value} (I : Inv E w0 w st P O v) (hg : w.grownBy w1 v.ownBlock) {v' : Value} {st' : List Fr} (h : w1.ownsRow w0.heap.size 39 3 v' st'.length (sflat st')) :
    Inv E w0 (w1.setCell ⟨E.cS, 0, none⟩ v') st' P O v' := by
  have ho : ∀ {k : Nat} {x : Obj}, w.heap[k]? = some x → (∀ cs, x ≠ .cells cs 39 (0, 0)) → w1.heap[k]? = some x := fun hk hn => by
    rw [hg.block _ (lt_of_block hk) (fun e => row_ne I.rowS hk hn e.symm)]; exact hk
  have hS := ho I.hS (by intro cs; simp)
  have hO := ho I.hO (by intro cs; simp)
  have hP := ho I.hP (fun cs => mapObj_ne_cells _ _ _ _)
  have rO := I.rowO.kept hg (.inr (fun e => by
    rcases I.rowO.2 with ⟨e', _⟩ | ⟨g, cap, cur, e', _, hh, _⟩
    · cases e'
    · cases e'
      exact row_ne I.rowS hh (by intro cs; simp) e.symm))
  have ho2 : ∀ {k : Nat} {x : Obj}, w1.heap[k]? = some x → k ≠ E.cS → (w1.setCell ⟨E.cS, 0, none⟩ v').heap[k]? = some x := fun h hn => by rw [Below.heap_setCell _ _ _ _ hn]; exact h
  refine ⟨hg.os.trans I.os, hg.tape.trans I.tape, hg.output.trans I.output, by have h1 := I.size; have h2 := hg.size; simp [World.setCell]; omega, fun k hk hn => ?_, one_setCell hS, ?_, ho2 hO ?_, ?_, ho2 hP ?_⟩
  · rw [Below.heap_setCell _ _ _ _ (fun e => hn (.inl e)), hg.block k (by have := I.size; omega) (fun e => by have := (row_lt I.rowS e.symm).1; omega)]
    exact I.frame k hk hn
  · exact ownsRow_setCell_other h (row_ne h hS (by intro cs; simp)) _
  · exact ne_of_heap hO hS (by simp)
  · exact ownsRow_setCell_other rO (row_ne rO hS (by intro cs; simp)) _
  · exact ne_of_heap hP hS (mapObj_ne_cells _ _ _ _)

/-- An index is marked as placed. -/
theorem Inv.mark {E : Env} {w0 w : World} {st P O : List Fr} {v : Value} (I : Inv E w0 w st P O v) (P' : List Fr) : Inv E w0 (setBlock w E.bP (mapObj (placedL P'))) st P' O v := by
  have ho : ∀ {k : Nat} {x : Obj}, w.heap[k]? = some x → k ≠ E.bP → (setBlock w E.bP (mapObj (placedL P'))).heap[k]? = some x := fun h hn => by rw [setBlock_other _ hn]; exact h
  have hg : ∀ {base : Nat} {e : TypeId} {size : Nat} {u : Value} {n : Nat} {xs : List Value}, w.ownsRow base e size u n xs → (setBlock w E.bP (mapObj (placedL P'))).ownsRow base e size u n xs := fun h => by
    refine ⟨h.1, ?_⟩
    rcases h.2 with h2 | ⟨g, cap, cur, hv, hb, hh, r⟩
    · exact .inl h2
    · exact .inr ⟨g, cap, cur, hv, hb, ho hh (fun e => by subst e; rw [I.hP] at hh; exact mapObj_ne_cells _ _ _ _ (Option.some.inj hh)), r⟩
  exact ⟨I.os, I.tape, I.output, by rw [setBlock_size]; exact I.size, fun k hk hn => by rw [setBlock_other _ (fun e => hn (.inr (.inr (.inl e))))]; exact I.frame k hk hn,
    ho I.hS (ne_of_heap I.hS I.hP (fun e => mapObj_ne_cells _ _ _ _ e.symm)), hg I.rowS, ho I.hO (ne_of_heap I.hO I.hP (fun e => mapObj_ne_cells _ _ _ _ e.symm)), hg I.rowO, setBlock_same I.hP⟩

/-- An entity is laid behind the others, and the variable that holds them has been written. -/
theorem Inv.lay {E : Env} {w0 w w1 : World} {st P O : List Fr} {v : Value} (I : Inv E w0 w st P O v) (hg : w.grownBy w1 (some E.bO)) {f : Fr} (h : w1.ownsRow 0 31 16 (.slice (some ⟨E.bO, 0, none⟩) (O.length + 1) E.n) (O.length + 1) (eflat (O.map (placedE E.M)) ++ (placedE E.M f).cells)) :
    Inv E w0 (w1.setCell ⟨E.cO, 0, none⟩ (.slice (some ⟨E.bO, 0, none⟩) (O.length + 1) E.n)) st P (O ++ [f]) v := by
  obtain ⟨cur, hbO⟩ : ∃ cur, w.heap[E.bO]? = some (.cells cur 31 (0, 0)) := by
    rcases I.rowO.2 with ⟨e', _⟩ | ⟨g, cap, cur, e', _, hh, _⟩
    · cases e'
    · cases e'; exact ⟨cur, hh⟩
  have ho : ∀ {k : Nat} {x : Obj}, w.heap[k]? = some x → (∀ cs, x ≠ .cells cs 31 (0, 0)) → w1.heap[k]? = some x := fun hk hn => by
    rw [hg.block _ (lt_of_block hk) (fun e => by cases e; rw [hbO] at hk; exact hn cur (Option.some.inj hk).symm)]; exact hk
  have hS := ho I.hS (by intro cs; simp)
  have hO := ho I.hO (by intro cs; simp)
  have hP := ho I.hP (fun cs => mapObj_ne_cells _ _ _ _)
  have rS := I.rowS.kept hg (.inr (fun e => row_ne I.rowS hbO (by intro cs; simp) e))
  have ho2 : ∀ {k : Nat} {x : Obj}, w1.heap[k]? = some x → k ≠ E.cO → (w1.setCell ⟨E.cO, 0, none⟩ (.slice (some ⟨E.bO, 0, none⟩) (O.length + 1) E.n)).heap[k]? = some x := fun h hn => by rw [Below.heap_setCell _ _ _ _ hn]; exact h
  have hl : (O ++ [f]).length = O.length + 1 := by simp
  refine ⟨hg.os.trans I.os, hg.tape.trans I.tape, hg.output.trans I.output, by have h1 := I.size; have h2 := hg.size; simp [World.setCell]; omega, fun k hk hn => ?_, ho2 hS ?_, ?_, by rw [hl]; exact one_setCell hO, ?_, ho2 hP ?_⟩
  · rw [Below.heap_setCell _ _ _ _ (fun e => hn (.inr (.inl e))), hg.block k (by have := I.size; omega) (fun e => hn (.inr (.inr (.inr (by cases e; rfl)))))]
    exact I.frame k hk hn
  · exact ne_of_heap hS hO (by simp)
  · exact ownsRow_setCell_other rS (row_ne rS hO (by intro cs; simp)) _
  · rw [hl, List.map_append, List.map_singleton, eflat_snoc]
    exact ownsRow_setCell_other h (row_ne h hO (by intro cs; simp)) _
  · exact ne_of_heap hP hO (mapObj_ne_cells _ _ _ _)
end Go.Proofs.Qxb6001503a
