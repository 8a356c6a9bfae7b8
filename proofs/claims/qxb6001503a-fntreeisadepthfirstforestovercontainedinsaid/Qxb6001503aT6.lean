/- Maps keyed by ints that the call itself makes and from which nothing is struck: the block is told by its entries in the order of their laying. -/
import Derived.Test.Qxb6001503aT5
import Derived.Maps.OwnSet
import Derived.Maps.OwnOps
import Derived.Maps.RangeWalk
namespace Go.Proofs.Qxb6001503a
open Go.RowKit
open Go.ChangeMaps (setBlock)

/-- The entries, the first of them born n. -/
def entsFrom : Nat → List (Int × Value) → List MapEntry
  | _, [] => []
  | n, p :: L => ⟨.int .i64 p.1, p.2, n⟩ :: entsFrom (n + 1) L

/-- The block of a map. -/
def mapObj (L : List (Int × Value)) : Obj := .map (entsFrom 0 L).toArray L.length

theorem entsFrom_length : ∀ (n : Nat) (L : List (Int × Value)), (entsFrom n L).length = L.length
  | _, [] => rfl
  | n, p :: L => by simp [entsFrom, entsFrom_length (n + 1) L]

/-- The place of a key, and its element. -/
def place (k : Int) : List (Int × Value) → Option (Nat × Value)
  | [] => none
  | p :: L => if k = p.1 then some (0, p.2) else (place k L).map fun q => (q.1 + 1, q.2)

/-- The element at a key. -/
def look (L : List (Int × Value)) (k : Int) : Option Value := (place k L).map (·.2)

/-- The entry at a key, laid anew or in its place. -/
def put (k : Int) (v : Value) : List (Int × Value) → List (Int × Value)
  | [] => [(k, v)]
  | p :: L => if k = p.1 then (k, v) :: L else p :: put k v L

theorem findNow_ents (k : Int) : ∀ (L : List (Int × Value)) (n i : Nat), Instr.findNow (.int .i64) (.int .i64 k) (entsFrom n L) i = some ((place k L).map fun q => (i + q.1, q.2))
  | [], _, _ => rfl
  | p :: L, n, i => by
    unfold entsFrom Instr.findNow
    simp only [Instr.sameNow, if_true]
    by_cases h : k = p.1
    · simp [h, place]
    · have hb : (k == p.1) = false := beq_eq_false_iff_ne.2 h
      rw [hb]
      simp only [findNow_ents k L (n + 1) (i + 1), place, if_neg h, Option.map_map]
      congr 1
      cases place k L with
      | none => rfl
      | some q => simp; omega

theorem put_none {k : Int} {v : Value} : ∀ {L : List (Int × Value)}, place k L = none → put k v L = L ++ [(k, v)]
  | [], _ => rfl
  | p :: L, h => by
    unfold place at h
    split at h
    · cases h
    · rename_i hne
      have : place k L = none := by simpa using h
      simp [put, hne, put_none this]

theorem put_length {k : Int} {v : Value} : ∀ {L : List (Int × Value)} {q : Nat × Value}, place k L = some q → (put k v L).length = L.length
  | [], _, h => by cases h
  | p :: L, q, h => by
    unfold place at h
    split at h
    · rename_i he; simp [put, he]
    · rename_i hne
      cases hp : place k L with
      | none => rw [hp] at h; cases h
      | some q' => simp [put, hne, put_length hp]

theorem entsFrom_snoc (k : Int) (v : Value) : ∀ (n : Nat) (L : List (Int × Value)), entsFrom n (L ++ [(k, v)]) = entsFrom n L ++ [⟨.int .i64 k, v, n + L.length⟩]
  | n, [] => rfl
  | n, p :: L => by
    simp only [List.cons_append, entsFrom, entsFrom_snoc k v (n + 1) L, List.length_cons]
    congr 3
    congr 1
    omega

theorem entsFrom_modify (k : Int) (v : Value) : ∀ (L : List (Int × Value)) (n : Nat) (q : Nat × Value), place k L = some q →
    (entsFrom n L).modify q.1 (fun e => { e with key := .int .i64 k, val := v }) = entsFrom n (put k v L)
  | [], _, _, h => by cases h
  | p :: L, n, q, h => by
    unfold place at h
    split at h
    · rename_i he
      cases h
      simp [entsFrom, put, he]
    · rename_i hne
      cases hp : place k L with
      | none => rw [hp] at h; cases h
      | some q' =>
        rw [hp] at h
        cases h
        simp only [entsFrom, put, if_neg hne, List.modify_succ_cons]
        rw [entsFrom_modify k v L (n + 1) q' hp]

theorem place_key {k : Int} : ∀ {L : List (Int × Value)} {n : Nat} {q : Nat × Value}, place k L = some q → ((entsFrom n L)[q.1]?).map (·.key) = some (.int .i64 k)
  | [], _, _, h => by cases h
  | p :: L, n, q, h => by
    unfold place at h
    split at h
    · rename_i he
      cases h
      simp [entsFrom, he]
    · rename_i hne
      cases hp : place k L with
      | none => rw [hp] at h; cases h
      | some q' =>
        rw [hp] at h
        cases h
        simpa [entsFrom] using place_key (n := n + 1) hp

section
variable {P : Program} (w : World) {T K E : TypeId} {b : Nat} {L : List (Int × Value)}

/-- 'm[k]', with 'ok' or without. -/
theorem run_lookup_im (ht : P.underlying T = some (.map K E)) (hk : P.underlying K = some (.int .i64)) {z : Value} (hz : (zeroValue E).run P w = .ok z w) (hb : w.heap[b]? = some (mapObj L)) (k : Int) (c : Bool) :
    (Instr.lookup T (.map (some b)) (.int .i64 k) c).run P w = .ok (if c then .tuple #[(look L k).getD z, .bool (look L k).isSome] else (look L k).getD z) w := by
  unfold mapObj at hb
  have hck : ∀ e, (Instr.checkKey e 10000 K (.int .i64 k)).run P w = .ok () w := fun e => MapKept.run_checkKey hk (by simp [MapKept.IsKey]) e 9999
  have hf : (Instr.findKey K (.int .i64 k) (entsFrom 0 L)).run P w = .ok ((place k L).map fun q => (0 + q.1, q.2)) w := MapKept.run_findKey hk (findNow_ents k L 0 0)
  unfold look
  cases hp : place k L with
  | none => simp [Instr.lookup, run_underlying ht, MapKept.run_getObj_map hb, hck, hf, hp, hz, Result.andThen]
  | some q => simp [Instr.lookup, run_underlying ht, MapKept.run_getObj_map hb, hck, hf, hp, Result.andThen]

/-- 'm[k] = v'. -/
theorem run_update_im (ht : P.underlying T = some (.map K E)) (hk : P.underlying K = some (.int .i64)) (hb : w.heap[b]? = some (mapObj L)) (k : Int) (v : Value) :
    (Instr.mapUpdate T (.map (some b)) (.int .i64 k) v).run P w = .ok () (setBlock w b (mapObj (put k v L))) := by
  unfold mapObj at hb
  have hck : ∀ e, (Instr.checkKey e 10000 K (.int .i64 k)).run P w = .ok () w := fun e => MapKept.run_checkKey hk (by simp [MapKept.IsKey]) e 9999
  have hf : (Instr.findKey K (.int .i64 k) (entsFrom 0 L)).run P w = .ok ((place k L).map fun q => (0 + q.1, q.2)) w := MapKept.run_findKey hk (findNow_ents k L 0 0)
  have hset : ∀ o, (setObj b o).run P w = .ok () (setBlock w b o) := fun o => by simp [setObj, Sem.run, hb, setBlock]
  cases hp : place k L with
  | none =>
    have e : mapObj (put k v L) = .map ((entsFrom 0 L).toArray.push ⟨.int .i64 k, v, L.length⟩) (L.length + 1) := by
      unfold mapObj
      rw [put_none hp, entsFrom_snoc, Nat.zero_add]
      simp
    rw [e]
    simp [Instr.mapUpdate, run_underlying ht, MapKept.run_getObj_map hb, hck, hf, hp, hset, Result.andThen]
  | some q =>
    have hkey := place_key (n := 0) hp
    have e2 : ∀ W, (Instr.keyThatStays (.int .i64 k) (.int .i64 k)).run P W = .ok (.int .i64 k) W := fun W => by
      simp [Instr.keyThatStays, Instr.sameBits]
    have e : mapObj (put k v L) = .map ((entsFrom 0 L).toArray.modify q.1 fun e => { e with key := .int .i64 k, val := v }) L.length := by
      unfold mapObj
      rw [put_length hp, ← entsFrom_modify k v L 0 q hp]
      simp
    rw [e]
    simp [Instr.mapUpdate, run_underlying ht, MapKept.run_getObj_map hb, hck, hf, hp, hkey, e2, hset, Result.andThen]

variable {ops : Array Oper} {rest : List Oper} {o : Oper} {a : Act} {Q : Exit → Act → World → Prop}

/-- A look-up, at the operation. -/
theorem wpList_lookup_im (hg : o.guard = none) (m x : Operand) (t : TypeId) (c : Bool) (hop : o.op = Op.lookup t m x c) (K E : TypeId) (ht : P.underlying t = some (.map K E)) (hk : P.underlying K = some (.int .i64))
    (z : Value) (hz : ∀ W, (zeroValue E).run P W = .ok z W) (b : Nat) (L : List (Int × Value)) (hm : a.eval m = .map (some b)) (hb : w.heap[b]? = some (mapObj L)) (k : Int) (hx : a.eval x = .int .i64 k)
    (u : Value) (hu : (if c then .tuple #[(look L k).getD z, .bool (look L k).isSome] else (look L k).getD z) = u) (h : wpList P ops Q rest (a.put o.dst u) w) : wpList P ops Q (o :: rest) a w := by
  refine wpList_plain hg fun K' hK' => ?_
  have hrun := run_lookup_im w ht hk (hz w) hb k c
  rw [hu] at hrun
  unfold Oper.wp
  simp only [execOp, hop, hm, hx, hrun, Result.andThen_ok, Sem.run_bind, Sem.run_pure]
  exact hK' _ _ h

/-- A store, at the operation. -/
theorem wpList_update_im (hg : o.guard = none) (m x y : Operand) (t : TypeId) (hop : o.op = Op.mapUpdate t m x y) (K E : TypeId) (ht : P.underlying t = some (.map K E)) (hk : P.underlying K = some (.int .i64))
    (b : Nat) (L : List (Int × Value)) (hm : a.eval m = .map (some b)) (hb : w.heap[b]? = some (mapObj L)) (k : Int) (hx : a.eval x = .int .i64 k) (v : Value) (hv : a.eval y = v)
    (h : ∀ w', w' = setBlock w b (mapObj (put k v L)) → wpList P ops Q rest (a.put o.dst undef) w') : wpList P ops Q (o :: rest) a w := by
  refine wpList_plain hg fun K' hK' => ?_
  have hrun := run_update_im w ht hk hb k v
  unfold Oper.wp
  simp [execOp, hop, hm, hx, hv, hrun, Result.andThen]
  exact hK' _ _ (h _ rfl)
end
end Go.Proofs.Qxb6001503a
