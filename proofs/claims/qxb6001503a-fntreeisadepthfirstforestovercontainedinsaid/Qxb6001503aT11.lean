/- The worlds of Tree. -/
import Derived.Test.Qxb6001503aT10
import Derived.Test.Qxb6001503aTS
namespace Go.Proofs.Qxb6001503a
open Go.RowKit
open Go.ChangeMaps (setBlock)

theorem below_setBlock {B : Nat} {a w : World} (h : Below B a w) {b : Nat} (hb : B ≤ b) (o : Obj) : Below B a (setBlock w b o) :=
  ⟨h.os, h.tape, h.output, by rw [setBlock_size]; exact h.size, fun k hk => by rw [setBlock_other _ (by omega)]; exact h.block k hk⟩

/-- The cells of an entity. -/
theorem ent_cells {w : World} {b o : Nat} {e : Ent} (h : w.rangeAt b o e.cells) :
    w.cell? ⟨b, o, none⟩ = some (.int .i64 e.i) ∧ w.cell? ⟨b, o + 1, none⟩ = some (.int .i64 e.p) ∧ w.cell? ⟨b, o + 2, none⟩ = some (.int .i64 e.d) ∧ w.cell? ⟨b, o + 3, none⟩ = some (.int .i64 e.pos) ∧
    w.cell? ⟨b, o + 4, none⟩ = some (.string ⟨#[]⟩) ∧ w.cell? ⟨b, o + 5, none⟩ = some (.string ⟨#[]⟩) ∧ w.cell? ⟨b, o + 6, none⟩ = some (.string ⟨#[]⟩) ∧ w.cell? ⟨b, o + 7, none⟩ = some (.string ⟨#[]⟩) ∧ w.cell? ⟨b, o + 8, none⟩ = some (.string ⟨#[]⟩) ∧
    w.cell? ⟨b, o + 9, none⟩ = some (.string ⟨#[]⟩) ∧ w.cell? ⟨b, o + 10, none⟩ = some (.string ⟨#[]⟩) ∧ w.cell? ⟨b, o + 11, none⟩ = some (.string ⟨#[]⟩) ∧ w.cell? ⟨b, o + 12, none⟩ = some (.string ⟨#[]⟩) ∧ w.cell? ⟨b, o + 13, none⟩ = some (.string ⟨#[]⟩) ∧
    w.cell? ⟨b, o + 14, none⟩ = some (.bool false) ∧ w.cell? ⟨b, o + 15, none⟩ = some (.int .i64 e.c) :=
  ⟨h 0 _ rfl, h 1 _ rfl, h 2 _ rfl, h 3 _ rfl, h 4 _ rfl, h 5 _ rfl, h 6 _ rfl, h 7 _ rfl, h 8 _ rfl, h 9 _ rfl, h 10 _ rfl, h 11 _ rfl, h 12 _ rfl, h 13 _ rfl, h 14 _ rfl, h 15 _ rfl⟩

theorem take_snocE {es : List Ent} {k : Nat} (hk : k < es.length) {e : Ent} (he : e = es.getD k noEnt) : es.take (k + 1) = es.take k ++ [e] := by
  rw [List.take_add_one, he]
  simp [List.getD, hk]

/-- The world in which the map of the entities lies. -/
structure W1 (w wr : World) (L : List (Int × Value)) : Prop where
  B : Below w.heap.size w wr
  gt : w.heap.size + 2 ≤ wr.heap.size
  hM : wr.heap[w.heap.size + 1]? = some (.cells #[.map (some w.heap.size)] 32 (0, 0))
  mM : wr.heap[w.heap.size]? = some (mapObj L)

theorem W1.alloc {w wr : World} {L : List (Int × Value)} (h : W1 w wr L) (o : Obj) : W1 w (wr.alloc o) L := by
  have hg := h.gt
  exact ⟨h.B.alloc (by omega) o, by simp; omega, by rw [Below.heap_alloc _ _ _ (by omega)]; exact h.hM, by rw [Below.heap_alloc _ _ _ (by omega)]; exact h.mM⟩

theorem W1.put {w wr : World} {L : List (Int × Value)} (h : W1 w wr L) (L' : List (Int × Value)) : W1 w (setBlock wr w.heap.size (mapObj L')) L' := by
  exact ⟨below_setBlock h.B (Nat.le_refl _) _, by rw [setBlock_size]; exact h.gt, by rw [setBlock_other _ (by omega)]; exact h.hM, setBlock_same h.mM⟩

theorem W1.grown {w wr w' : World} {L : List (Int × Value)} (h : W1 w wr L) {row : Option Nat} (hg : wr.grownBy w' row) (hr : ∀ k, row = some k → w.heap.size + 2 ≤ k) : W1 w w' L := by
  have h2 := h.gt
  have hn : ∀ k, k < w.heap.size + 2 → some k ≠ row := fun k hk e => by have := hr k e.symm; omega
  exact ⟨h.B.grown hg (by omega) (fun k hk => by have := hr k hk; omega), by have := hg.size; omega, by rw [hg.block _ (by omega) (hn _ (by omega))]; exact h.hM, by rw [hg.block _ (by omega) (hn _ (by omega))]; exact h.mM⟩

theorem W1.drew {w wr : World} {L : List (Int × Value)} (h : W1 w wr L) : W1 w wr.drew L := ⟨h.B.drew, h.gt, h.hM, h.mM⟩

theorem W1.setBlock {w wr : World} {L : List (Int × Value)} (h : W1 w wr L) {r : Nat} (hr : w.heap.size + 2 ≤ r) (o : Obj) : W1 w (setBlock wr r o) L :=
  ⟨below_setBlock h.B (by omega) _, by rw [setBlock_size]; exact h.gt, by rw [setBlock_other _ (by omega)]; exact h.hM, by rw [setBlock_other _ (by omega)]; exact h.mM⟩

theorem ownsRow_setBlock {w : World} {r : Nat} {x : Obj} (hx : w.heap[r]? = some x) (hn : ∀ cs t fr, x ≠ .cells cs t fr) (o : Obj) {base : Nat} {e : TypeId} {size : Nat} {u : Value} {n : Nat} {xs : List Value} (h : w.ownsRow base e size u n xs) : (setBlock w r o).ownsRow base e size u n xs := by
  refine ⟨h.1, ?_⟩
  rcases h.2 with h2 | ⟨g, cap, cur, hv, hb, hh, r'⟩
  · exact .inl h2
  · exact .inr ⟨g, cap, cur, hv, hb, by rw [setBlock_other _ (fun e => by subst e; rw [hx] at hh; exact hn _ _ _ (Option.some.inj hh))]; exact hh, r'⟩

/-- The world while the keys are collected. -/
structure W2 (w wr : World) (L : List (Int × Value)) (r : Nat) (seen : List Nat) (v : Value) : Prop where
  X : W1 w wr L
  it : wr.heap[r]? = some (.mapIter (some w.heap.size) L.length seen.toArray L.length)
  ge : w.heap.size + 2 ≤ r
  row : wr.ownsRow (w.heap.size + 2) 3 1 v seen.length (vals (seen.map (keyAt L)))
  nn : ∃ g cap, v = .slice (some ⟨g, 0, none⟩) seen.length cap
  nd : seen.Nodup
  all : ∀ i ∈ seen, i < L.length

theorem W2.row2 {w wr : World} {L : List (Int × Value)} {r : Nat} {seen : List Nat} {v : Value} (h : W2 w wr L r seen v) {w1 w2 : World} (hw1 : w1 = wr ∨ w1 = wr.drew) {o : Obj} (hw2 : w2 = setBlock w1 r o) : w2.ownsRow (w.heap.size + 2) 3 1 v seen.length (vals (seen.map (keyAt L))) := by
  subst hw2
  rcases hw1 with rfl | rfl
  · exact ownsRow_setBlock h.it (by intro cs t fr; simp) _ h.row
  · exact ownsRow_setBlock (w := wr.drew) h.it (by intro cs t fr; simp) _ h.row.drew

theorem W2.size2 {w wr : World} {L : List (Int × Value)} {r : Nat} {seen : List Nat} {v : Value} (h : W2 w wr L r seen v) {w1 w2 : World} (hw1 : w1 = wr ∨ w1 = wr.drew) {o : Obj} (hw2 : w2 = setBlock w1 r o) : w.heap.size + 2 ≤ w2.heap.size := by
  subst hw2
  rw [setBlock_size]
  rcases hw1 with rfl | rfl <;> exact h.X.gt

theorem W2.next {w wr : World} {L : List (Int × Value)} {r : Nat} {seen : List Nat} {v : Value} (h : W2 w wr L r seen v) {w1 w2 w3 : World} (hw1 : w1 = wr ∨ w1 = wr.drew) {i : Nat} (hw2 : w2 = setBlock w1 r (.mapIter (some w.heap.size) L.length (seen ++ [i]).toArray L.length))
    (hi : i < L.length) (hn : ¬ i ∈ seen) {o : Obj} (hg : (w2.alloc o).grownBy w3 v.ownBlock) {v' : Value} (hrow : w3.ownsRow (w.heap.size + 2) 3 1 v' (seen.length + 1) (vals (seen.map (keyAt L)) ++ [.int .i64 (keyAt L i)])) (hnn : ∃ g cap, v' = .slice (some ⟨g, 0, none⟩) (seen.length + 1) cap) : W2 w w3 L r (seen ++ [i]) v' := by
  have hit : w1.heap[r]? = some (.mapIter (some w.heap.size) L.length seen.toArray L.length) := by rcases hw1 with rfl | rfl <;> exact h.it
  have hX : W1 w w1 L := by
    rcases hw1 with rfl | rfl
    · exact h.X
    · exact h.X.drew
  have h1 : w1.ownsRow (w.heap.size + 2) 3 1 v seen.length (vals (seen.map (keyAt L))) := by
    rcases hw1 with rfl | rfl
    · exact h.row
    · exact h.row.drew
  have hX2 : W1 w w2 L := by rw [hw2]; exact hX.setBlock h.ge _
  have hit2 : w2.heap[r]? = some (.mapIter (some w.heap.size) L.length (seen ++ [i]).toArray L.length) := by rw [hw2]; exact setBlock_same hit
  have hlt2 := lt_of_block hit2
  have hl : (seen ++ [i]).length = seen.length + 1 := by simp
  refine ⟨(hX2.alloc o).grown hg (fun k hk => (row_lt h1 hk).1), ?_, h.ge, ?_, by rw [hl]; exact hnn, ?_, ?_⟩
  · rw [hg.block _ (by simp; omega) (fun e => row_ne h1 hit (by intro cs; simp) e.symm), Below.heap_alloc _ _ _ hlt2]
    exact hit2
  · rw [hl]
    simpa [vals] using hrow
  · rw [List.nodup_append]
    refine ⟨h.nd, by simp, fun a ha b hb => ?_⟩
    simp at hb
    subst hb
    rintro rfl
    exact hn ha
  · intro j hj
    rcases List.mem_append.1 hj with hj | hj
    · exact h.all j hj
    · simp at hj; omega

theorem made_hint {t : TypeId} {K E : TypeId} (ht : Try.prog.underlying t = some (.map K E)) (W : World) (n : Int) : (Instr.makeMap t (some (.int .i64 n))).run Try.prog W = .ok (.map (some W.heap.size)) (W.alloc (mapObj [])) := by
  simp [Instr.makeMap, run_underlying ht, asInt, asIntOf, Result.andThen]
  rfl

theorem made_plain (t : TypeId) (W : World) : (Instr.makeMap t none).run Try.prog W = .ok (.map (some W.heap.size)) (W.alloc (mapObj [])) := rfl

theorem nodup_len {α : Type} [DecidableEq α] {A B : List α} (h : A.Nodup) (hs : ∀ x ∈ A, x ∈ B) : A.length ≤ B.length := by
  induction A generalizing B with
  | nil => simp
  | cons x A ih =>
    rw [List.nodup_cons] at h
    have hx : x ∈ B := hs x (by simp)
    have := ih (B := B.erase x) h.2 (fun y hy => by
      have hne : y ≠ x := fun e => h.1 (e ▸ hy)
      exact (List.mem_erase_of_ne hne).2 (hs y (by simp [hy])))
    rw [List.length_erase_of_mem hx] at this
    have hp : 0 < B.length := List.length_pos_of_mem hx
    simp only [List.length_cons]
    omega

theorem W2.room {w wr : World} {L : List (Int × Value)} {r : Nat} {seen : List Nat} {v : Value} (h : W2 w wr L r seen v) {i : Nat} (hi : i < L.length) (hn : ¬ i ∈ seen) : seen.length + 1 ≤ L.length := by
  have := nodup_len (A := i :: seen) (B := List.range L.length) (List.nodup_cons.2 ⟨hn, h.nd⟩) (fun x hx => by
    rcases List.mem_cons.1 hx with rfl | hx
    · simpa using hi
    · simpa using h.all x hx)
  simpa using this

theorem keyAt_eq {L : List (Int × Value)} {i : Nat} (h : i < L.length) : keyAt L i = (L.map (·.1))[i]'(by simpa using h) := by simp [keyAt, List.getD, h]

theorem nodup_map_of_inj {α β : Type} {f : α → β} : ∀ {l : List α}, l.Nodup → (∀ a ∈ l, ∀ b ∈ l, f a = f b → a = b) → (l.map f).Nodup
  | [], _, _ => by simp
  | a :: l, h, hf => by
    rw [List.nodup_cons] at h
    rw [List.map_cons, List.nodup_cons]
    refine ⟨fun hm => ?_, nodup_map_of_inj h.2 (fun x hx y hy => hf x (by simp [hx]) y (by simp [hy]))⟩
    obtain ⟨b, hb, e⟩ := List.mem_map.1 hm
    have := hf b (by simp [hb]) a (by simp) e
    exact h.1 (this ▸ hb)

/-- All the keys have been collected. -/
theorem W2.keys {w wr : World} {L : List (Int × Value)} {r : Nat} {seen : List Nat} {v : Value} (h : W2 w wr L r seen v) (hall : ∀ i, i < L.length → i ∈ seen) (hL : (L.map (·.1)).Nodup) :
    (seen.map (keyAt L)).Nodup ∧ ∀ x, x ∈ seen.map (keyAt L) ↔ x ∈ L.map (·.1) := by
  refine ⟨nodup_map_of_inj h.nd (fun a ha b hb e => ?_), fun x => ⟨fun hx => ?_, fun hx => ?_⟩⟩
  · rw [keyAt_eq (h.all a ha), keyAt_eq (h.all b hb)] at e
    exact (List.getElem_inj hL).1 e
  · obtain ⟨i, hi, rfl⟩ := List.mem_map.1 hx
    rw [keyAt_eq (h.all i hi)]
    exact List.getElem_mem _
  · obtain ⟨i, hi, rfl⟩ := List.mem_iff_getElem.1 hx
    have hi' : i < L.length := by simpa using hi
    exact List.mem_map.2 ⟨i, hall i hi', keyAt_eq hi'⟩

/-- The entity of an index. -/
def entOf (es : List Ent) (k : Int) : Ent := (lastE es k).getD noEnt
/-- Does i hang from a container? -/
def hangs (es : List Ent) (i : Int) : Bool := decide ((entOf es i).c ∈ es.map (·.i)) && (entOf es i).c != 0
/-- The kids of k among ks. -/
def kidsOf (es : List Ent) (ks : List Int) (k : Int) : List Int := ks.filter fun i => hangs es i && (entOf es i).c == k
/-- The roots among ks. -/
def rootsOf (es : List Ent) (ks : List Int) : List Int := ks.filter fun i => !hangs es i

theorem kidsOf_snoc (es : List Ent) (ks : List Int) (i k : Int) : kidsOf es (ks ++ [i]) k = kidsOf es ks k ++ if hangs es i && (entOf es i).c == k then [i] else [] := by
  simp only [kidsOf, List.filter_append, List.filter_cons, List.filter_nil]
theorem rootsOf_snoc (es : List Ent) (ks : List Int) (i : Int) : rootsOf es (ks ++ [i]) = rootsOf es ks ++ if hangs es i then [] else [i] := by
  simp only [rootsOf, List.filter_append, List.filter_cons, List.filter_nil]
  cases hangs es i <;> rfl

/-- The slice of kids. -/
def kv (Lc : List (Int × Value)) (k : Int) : Value := (look Lc k).getD (.slice none 0 0)

/-- The world while the kids and the roots are collected. -/
structure W4 (w wr : World) (L : List (Int × Value)) (cC bC base gK capK : Nat) (K : List Int) (Lc : List (Int × Value)) (vR : Value) (kids : Int → List Int) (roots : List Int) : Prop where
  X : W1 w wr L
  rowK : wr.ownsRow (w.heap.size + 2) 3 1 (.slice (some ⟨gK, 0, none⟩) K.length capK) K.length (vals K)
  ltK : gK < base
  ltC : cC < base
  ltB : bC < base
  geC : w.heap.size + 2 ≤ cC
  geB : w.heap.size + 2 ≤ bC
  leB : base ≤ wr.heap.size
  hC : wr.heap[cC]? = some (.cells #[.map (some bC)] 34 (0, 0))
  mC : wr.heap[bC]? = some (mapObj Lc)
  kid : ∀ k, wr.ownsRow base 3 1 (kv Lc k) (kids k).length (vals (kids k))
  apart : ∀ k l, k ≠ l → ∀ b, (kv Lc k).ownBlock = some b → (kv Lc l).ownBlock ≠ some b
  row : wr.ownsRow base 3 1 vR roots.length (vals roots)
  apartR : ∀ k b, (kv Lc k).ownBlock = some b → vR.ownBlock ≠ some b

theorem W4.start {w w2 : World} {L : List (Int × Value)} {gK capK : Nat} {K : List Int} (X : W1 w w2 L) (hrow : w2.ownsRow (w.heap.size + 2) 3 1 (.slice (some ⟨gK, 0, none⟩) K.length capK) K.length (vals K)) (es : List Ent) :
    W4 w ((w2.alloc (mapObj [])).alloc (.cells #[.map (some w2.heap.size)] 34)) L (w2.heap.size + 1) w2.heap.size (w2.heap.size + 2) gK capK K [] (.slice none 0 0) (kidsOf es (K.take 0)) (rootsOf es (K.take 0)) := by
  have hg := X.gt
  have hnil : ∀ W : World, ∀ b, W.ownsRow b 3 1 (.slice none 0 0) 0 (vals []) := fun W b => ⟨rfl, .inl ⟨rfl, rfl⟩⟩
  refine ⟨(X.alloc _).alloc _, (hrow.alloc _).alloc _, ?_, by omega, by omega, by omega, by omega, by simp, ?_, ?_, fun k => hnil _ _, fun k l _ b hb => ?_, hnil _ _, fun k b hb => ?_⟩
  · have := (row_lt hrow (b := gK) rfl).2; omega
  · have := heap_alloc_new (w2.alloc (mapObj [])) (.cells #[.map (some w2.heap.size)] 34)
    simpa using this
  · rw [Below.heap_alloc _ _ _ (by simp)]; exact heap_alloc_new w2 _
  · simp [kv, look, place, Value.ownBlock] at hb
  · simp [kv, look, place, Value.ownBlock] at hb

theorem W4.alloc {w wr : World} {L : List (Int × Value)} {cC bC base gK capK : Nat} {K : List Int} {Lc : List (Int × Value)} {vR : Value} {kids : Int → List Int} {roots : List Int} (h : W4 w wr L cC bC base gK capK K Lc vR kids roots) (o : Obj) :
    W4 w (wr.alloc o) L cC bC base gK capK K Lc vR kids roots := by
  have h1 := h.ltC; have h2 := h.ltB; have h3 := h.leB
  exact { h with X := h.X.alloc o, rowK := h.rowK.alloc o, leB := by simp; omega, hC := by rw [Below.heap_alloc _ _ _ (by omega)]; exact h.hC, mC := by rw [Below.heap_alloc _ _ _ (by omega)]; exact h.mC, kid := fun k => (h.kid k).alloc o, row := h.row.alloc o }

theorem W4.drew {w wr : World} {L : List (Int × Value)} {cC bC base gK capK : Nat} {K : List Int} {Lc : List (Int × Value)} {vR : Value} {kids : Int → List Int} {roots : List Int} (h : W4 w wr L cC bC base gK capK K Lc vR kids roots) :
    W4 w wr.drew L cC bC base gK capK K Lc vR kids roots :=
  { h with X := h.X.drew, rowK := h.rowK.drew, leB := h.leB, hC := h.hC, mC := h.mC, kid := fun k => (h.kid k).drew, row := h.row.drew }

/-- The row that a slice owns, behind an append upon another. -/
theorem kept_row {w w' : World} {base : Nat} {e : TypeId} {size : Nat} {v : Value} {n : Nat} {xs : List Value} {row : Option Nat} (h : w.ownsRow base e size v n xs) (hg : w.grownBy w' row) (hn : ∀ b, v.ownBlock = some b → row ≠ some b) : w'.ownsRow base e size v n xs := by
  refine ⟨h.1, ?_⟩
  rcases h.2 with h2 | ⟨g, cap, cur, hv, hb, hh, r'⟩
  · exact .inl h2
  · exact .inr ⟨g, cap, cur, hv, hb, by rw [hg.block _ (lt_of_block hh) (fun e => hn g (by rw [hv]; rfl) e.symm)]; exact hh, r'⟩

/-- A root more. -/
theorem W4.root {w wr w' : World} {L : List (Int × Value)} {cC bC base gK capK : Nat} {K : List Int} {Lc : List (Int × Value)} {vR : Value} {kids : Int → List Int} {roots : List Int} (h : W4 w wr L cC bC base gK capK K Lc vR kids roots)
    (hg : wr.grownBy w' vR.ownBlock) {g cap : Nat} {i : Int} (hrow : w'.ownsRow base 3 1 (.slice (some ⟨g, 0, none⟩) (roots.length + 1) cap) (roots.length + 1) (vals roots ++ [.int .i64 i])) (hat : vR.ownBlock = some g ∨ g = wr.heap.size) :
    W4 w w' L cC bC base gK capK K Lc (.slice (some ⟨g, 0, none⟩) (roots.length + 1) cap) kids (roots ++ [i]) := by
  have h1 := h.ltC; have h2 := h.ltB; have h3 := h.leB; have h4 := h.geC; have h5 := h.ltK
  have hge : ∀ k, vR.ownBlock = some k → base ≤ k := fun k hk => (row_lt h.row hk).1
  have hblk : ∀ k, k < base → w'.heap[k]? = wr.heap[k]? := fun k hk => hg.block k (by omega) (fun e => by have := hge k e.symm; omega)
  refine { h with X := h.X.grown hg (fun k hk => by have := hge k hk; omega), rowK := kept_row h.rowK hg (fun b hb e => ?_), leB := by have := hg.size; omega, hC := by rw [hblk _ h1]; exact h.hC, mC := by rw [hblk _ h2]; exact h.mC, kid := fun k => kept_row (h.kid k) hg (fun b hb => h.apartR k b hb), row := ?_, apartR := fun k b hb e => ?_ }
  · have : gK = b := by simpa [Value.ownBlock] using hb
    have := hge b e
    omega
  · have hl : (roots ++ [i]).length = roots.length + 1 := by simp
    rw [hl]
    simpa [vals] using hrow
  · have e' : g = b := by simpa [Value.ownBlock] using e
    subst e'
    rcases hat with e2 | e2
    · exact h.apartR k g hb e2
    · have := (row_lt (h.kid k) hb).2
      omega

theorem kv_put (Lc : List (Int × Value)) (k x : Int) (v : Value) : kv (put k v Lc) x = if x = k then v else kv Lc x := by
  unfold kv
  rw [look_put]
  split <;> rfl

/-- A kid more. -/
theorem W4.kidMore {w wr w' : World} {L : List (Int × Value)} {cC bC base gK capK : Nat} {K : List Int} {Lc : List (Int × Value)} {vR : Value} {kids kids' : Int → List Int} {roots : List Int} (h : W4 w wr L cC bC base gK capK K Lc vR kids roots)
    {k : Int} (hg : wr.grownBy w' (kv Lc k).ownBlock) {g cap n : Nat} {i : Int} (hn : n = (kids k).length) (hrow : w'.ownsRow base 3 1 (.slice (some ⟨g, 0, none⟩) (n + 1) cap) (n + 1) (vals (kids k) ++ [.int .i64 i])) (hat : (kv Lc k).ownBlock = some g ∨ g = wr.heap.size)
    (hk : ∀ x, kids' x = if x = k then kids k ++ [i] else kids x) :
    W4 w (setBlock w' bC (mapObj (put k (.slice (some ⟨g, 0, none⟩) (n + 1) cap) Lc))) L cC bC base gK capK K (put k (.slice (some ⟨g, 0, none⟩) (n + 1) cap) Lc) vR kids' roots := by
  subst hn
  have h1 := h.ltC; have h2 := h.ltB; have h3 := h.leB; have h4 := h.geC; have h5 := h.ltK; have h6 := h.geB
  have hge : ∀ j, (kv Lc k).ownBlock = some j → base ≤ j := fun j hj => (row_lt (h.kid k) hj).1
  have hblk : ∀ j, j < base → w'.heap[j]? = wr.heap[j]? := fun j hj => hg.block j (by omega) (fun e => by have := hge j e.symm; omega)
  have hmC : w'.heap[bC]? = some (mapObj Lc) := by rw [hblk _ h2]; exact h.mC
  have hset : ∀ {base : Nat} {e : TypeId} {size : Nat} {u : Value} {n : Nat} {xs : List Value}, w'.ownsRow base e size u n xs → (setBlock w' bC (mapObj (put k (.slice (some ⟨g, 0, none⟩) ((kids k).length + 1) cap) Lc))).ownsRow base e size u n xs :=
    fun h => ownsRow_setBlock hmC (fun cs t fr => mapObj_ne_cells _ _ _ _) _ h
  have hnew : ∀ l, l ≠ k → ∀ b, (kv Lc l).ownBlock = some b → g ≠ b := by
    intro l hl b hb e
    subst e
    rcases hat with e2 | e2
    · exact h.apart l k hl g hb e2
    · have := (row_lt (h.kid l) hb).2
      omega
  have hnR : vR.ownBlock ≠ some g := by
    intro e
    rcases hat with e2 | e2
    · exact h.apartR k g e2 e
    · have := (row_lt h.row e).2
      omega
  refine { h with X := (h.X.grown hg (fun j hj => by have := hge j hj; omega)).setBlock h6 _, rowK := hset (kept_row h.rowK hg (fun b hb e => ?_)), leB := by rw [setBlock_size]; have := hg.size; omega, hC := ?_, mC := setBlock_same hmC, kid := fun x => ?_, apart := fun x y hxy b hb => ?_, row := hset (kept_row h.row hg (fun b hb e => h.apartR k b e hb)), apartR := fun x b hb => ?_ }
  · have : gK = b := by simpa [Value.ownBlock] using hb
    have := hge b e
    omega
  · have hCw : w'.heap[cC]? = some (.cells #[.map (some bC)] 34 (0, 0)) := by rw [hblk _ h1]; exact h.hC
    rw [setBlock_other _ (ne_of_heap hCw hmC (fun e => mapObj_ne_cells _ _ _ _ e.symm))]
    exact hCw
  · rw [kv_put, hk x]
    by_cases e : x = k
    · rw [if_pos e, if_pos e]
      have hl : (kids k ++ [i]).length = (kids k).length + 1 := by simp
      rw [hl]
      have := hset hrow
      simpa [vals] using this
    · rw [if_neg e, if_neg e]
      exact hset (kept_row (h.kid x) hg (fun b hb => h.apart x k e b hb))
  · rw [kv_put] at hb ⊢
    by_cases e1 : x = k
    · rw [if_pos e1] at hb
      have e3 : g = b := by simpa [Value.ownBlock] using hb
      subst e3
      have e2 : ¬ y = k := fun e2 => hxy (e1.trans e2.symm)
      rw [if_neg e2]
      intro hy
      exact hnew y e2 g hy rfl
    · rw [if_neg e1] at hb
      by_cases e2 : y = k
      · rw [if_pos e2]
        intro hy
        have e3 : g = b := by simpa [Value.ownBlock] using hy
        exact hnew x e1 b hb e3
      · rw [if_neg e2]
        exact h.apart x y hxy b hb
  · rw [kv_put] at hb
    by_cases e1 : x = k
    · rw [if_pos e1] at hb
      have e3 : g = b := by simpa [Value.ownBlock] using hb
      subst e3
      exact hnR
    · rw [if_neg e1] at hb
      exact h.apartR x b hb
end Go.Proofs.Qxb6001503a
