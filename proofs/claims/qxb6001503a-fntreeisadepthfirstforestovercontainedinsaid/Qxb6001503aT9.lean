/- The walk of the closure of Tree. -/
import Derived.Test.Qxb6001503aT8
import Derived.Deep.LoopGhost
import Derived.Deep.RegionHeld3
import Derived.Deep.DrawnRows
import Derived.Deep.QuietTactic
import Derived.BigQuiet
import Derived.Deep.RegionLaw
namespace Go.Proofs.Qxb6001503a
open Go.RowKit
open Go.ChangeMaps (setBlock)

theorem info39 : (Try.prog.info? 39).map (fun i => (i.zero, i.size, i.bytes)) = some (some (.agg #[.int .i64 0, .int .i64 0, .int .i64 0]), 3, 24) := by kernel_rfl

/-- 's[:0]' of an empty slice. -/
theorem slice_zero {w0 w : World} {v : Value} (h : w.ownsRow w0.heap.size 39 3 v 0 []) (W : World) : (Instr.sliceAt 37 v none (some (.int .i64 0)) none).run Try.prog W = .ok v W := by
  rw [run_sliceAt_slice _ _ _ _ _ _ Try.underlying37]
  rcases h.2 with ⟨rfl, _⟩ | ⟨g, cap, cur, rfl, _⟩
  · rw [run_slice_h W 37 none 0 0 Try.underlying37 .i64 0 (by omega) (by omega)]
    kernel_rfl
  · rw [run_slice_h W 37 _ 0 cap Try.underlying37 .i64 0 (by omega) (by omega)]
    have hs : (sizeOf (Try.prog.elem 37)).run Try.prog W = .ok 3 W := by kernel_rfl
    rw [hs]
    simp [Result.andThen, sliced, Addr.add]

theorem cells_three_new (w : World) (x y z : Value) (t : TypeId) : ∀ j u, [x, y, z][j]? = some u → (w.alloc (.cells #[x, y, z] t)).cell? ((⟨w.heap.size, 0, none⟩ : Addr).add j) = some u := by
  intro j u hj
  match j, hj with
  | 0, hj => simp at hj; subst hj; simp [Addr.add]
  | 1, hj => simp at hj; subst hj; simp [Addr.add]
  | 2, hj => simp at hj; subst hj; simp [Addr.add]

theorem Fr.oneCell (f : Fr) : ∀ u ∈ f.cells, u.oneCell' = true := by
  intro u hu
  simp [Fr.cells] at hu
  rcases hu with rfl | rfl | rfl <;> rfl

theorem zero4 (W : World) : (zeroValue 4).run Try.prog W = .ok (.bool false) W := by kernel_rfl
theorem zero22 (W : World) : (zeroValue 22).run Try.prog W = .ok (.slice none 0 0) W := by kernel_rfl
theorem zero31 (W : World) : (zeroValue 31).run Try.prog W = .ok noEnt.val W := by kernel_rfl

theorem ent_val {L : List (Int × Value)} {k : Int} {m : Ent} (h : look L k = some m.val) : (if false then .tuple #[(look L k).getD noEnt.val, .bool (look L k).isSome] else (look L k).getD noEnt.val) = Value.agg #[.int .i64 m.i, .int .i64 m.p, .int .i64 m.d, .int .i64 m.pos, .string ⟨#[]⟩, .string ⟨#[]⟩, .string ⟨#[]⟩, .string ⟨#[]⟩, .string ⟨#[]⟩, .string ⟨#[]⟩, .string ⟨#[]⟩, .string ⟨#[]⟩, .string ⟨#[]⟩, .string ⟨#[]⟩, .bool false, .int .i64 m.c] := by
  rw [h]; rfl

theorem placed_val {out : List Fr} {k : Int} {b : Bool} (h : isDone out k = b) : (if false then .tuple #[(look (placedL out) k).getD (.bool false), .bool (look (placedL out) k).isSome] else (look (placedL out) k).getD (.bool false)) = Value.bool b := by
  rw [look_placed, h]; cases b <;> rfl

theorem new_at (w : World) (o : Obj) (B : Nat) (hB : B = w.heap.size) : (w.alloc o).heap[B]? = some o := by subst hB; exact heap_alloc_new w o

/-- The variable of the stack behind an append upon it. -/
theorem Inv.keepS {E : Env} {w0 w w1 : World} {st P O : List Fr} {v : Value} (I : Inv E w0 w st P O v) (hg : w.grownBy w1 v.ownBlock) : w1.heap[E.cS]? = some (.cells #[v] 37 (0, 0)) := by
  rw [hg.block _ (lt_of_block I.hS) (fun e => row_ne I.rowS I.hS (by intro cs; simp) e.symm)]; exact I.hS

/-- The frame at the top. -/
theorem top_cells {w : World} {base : Nat} {f : Fr} {st : List Fr} {g cap : Nat} (h : w.ownsRow base 39 3 (.slice (some ⟨g, 0, none⟩) (st.length + 1) cap) (st.length + 1) (sflat (f :: st))) :
    w.cell? ⟨g, st.length * 3, none⟩ = some (.int .i64 f.i) ∧ w.cell? ⟨g, st.length * 3 + 1, none⟩ = some (.int .i64 f.p) ∧ w.cell? ⟨g, st.length * 3 + 2, none⟩ = some (.int .i64 f.d) := by
  have hl := sflat_length st
  refine ⟨?_, ?_, ?_⟩
  · rw [h.cellAt _ (by omega), sflat_cons, List.getElem?_append_right (by omega)]; simp [hl, Fr.cells]
  · rw [h.cellAt _ (by omega), sflat_cons, List.getElem?_append_right (by omega), hl, Nat.add_sub_cancel_left]; rfl
  · rw [h.cellAt _ (by omega), sflat_cons, List.getElem?_append_right (by omega), hl, Nat.add_sub_cancel_left]; rfl

set_option maxHeartbeats 2000000 in
set_option maxRecDepth 100000 in
theorem walk_any (E : Env) (w0 w : World) (r : Int) (out : List Fr) (v : Value) (S : Stat E w0) (I : Inv E w0 w [] out out v) (PP : Pure E.K [] out) (hr : r ∈ E.K) :
    Calls Try.prog 15 #[.int .i64 r, .pointer (some ⟨E.cS, 0, none⟩), .pointer (some ⟨E.cP, 0, none⟩), .pointer (some ⟨E.cM, 0, none⟩), .pointer (some ⟨E.cO, 0, none⟩), .pointer (some ⟨E.cC, 0, none⟩)] w
      fun e w' => e = .returned (.tuple #[]) ∧ ∃ out' v', Inv E w0 w' [] out' out' v' ∧ Pure E.K [] out' ∧ Reach E.kids ([⟨r, 0, 0⟩], out) ([], out') := by
  obtain ⟨i0, hi, hz0, hz1, hz2⟩ := info_parts info39
  have hsl := slice_zero (w0 := w0) (w := w) (v := v) I.rowS
  have cS := cell_of_one I.hS
  have fS := free_of_one I.hS
  have hsz := I.size
  go_enter Try.func15, Try.ntmps15
  go_wp2_with (at_builtin; refine wpList_append_lies _ rfl _ _ 37 rfl w0.heap.size 39 i0 (.agg #[.int .i64 0, .int .i64 0, .int .i64 0]) 3 24 Try.underlying37 hi hz0 hz1 hz2 rfl (by omega) v 0 [] rfl (I.rowS.alloc _) ⟨w.heap.size, 0, none⟩ 1 1 (Fr.cells ⟨r, 0, 0⟩) rfl rfl (cells_three_new _ _ _ _ _) (Fr.oneCell _) (by omega) (by unfold maxLen; omega) (by omega) (by simp; omega) (w.heap.size + 1) (by simp) ?_)
  intro g cap w1 hown1 hgrow1 hat1 hlt1
  have hS1 := (I.alloc _).keepS hgrow1
  have I1 := (I.alloc _).push hgrow1 (st' := [⟨r, 0, 0⟩]) hown1
  have cS1 := cell_of_one hS1
  have fS1 := free_of_one hS1
  have P1 : Hid (Pure E.K [⟨r, 0, 0⟩] out) := ⟨fun f hf => by simp at hf; subst hf; exact hr, PP.nodup, PP.outK, fun f hf => by simp at hf; subst hf; exact ⟨Int.le_refl _, by simp⟩, by simp⟩
  clear I PP hsl cS fS hsz hgrow1 hat1 hlt1 hown1 hS1
  go_wp2
  clear cS1 fS1
  go_loopg [10] (meas E.K [⟨r, 0, 0⟩] out) (fun gk _ wr => ∃ st o v, Inv E w0 wr st o o v ∧ Hid (Pure E.K st o) ∧ Hid (Reach E.kids ([⟨r, 0, 0⟩], out) (st, o)) ∧ meas E.K st o ≤ gk)
  case atStart => exact ⟨_, _, _, I1, P1, Reach.refl _ _, Nat.le_refl _⟩
  case round =>
    clear I1 P1
    obtain ⟨st, o, v, I, PP, RR, hgk⟩ := hrel
    have cS := cell_of_one I.hS
    have fS := free_of_one I.hS
    have lS := lt_of_block I.hS
    rcases st with _ | ⟨f, st⟩
    · rcases I.rowS.2 with ⟨rfl, _⟩ | ⟨g, cap, cur, rfl, _⟩
      · go_wp2
        go_end0
        exact ⟨rfl, o, _, I, PP.out, RR.out⟩
      · go_wp2
        go_end0
        exact ⟨rfl, o, _, I, PP.out, RR.out⟩
    · obtain ⟨g, cap, rfl, hgb, hgl⟩ := I.rowS.form (by simp)
      obtain ⟨t0, t1, t2⟩ := top_cells I.rowS
      have hsh := PP.out.short
      have hol := PP.out.out_le
      have hKl := S.len
      have hsl : st.length ≤ 20000000 := by
        have : o.length * E.K.length ≤ 4096 * 4096 := Nat.mul_le_mul (by omega) hKl
        simp only [List.length_cons] at hsh
        omega
      have hpop := ownsRow_pop (last := f.cells) (sflat_length st) (by have := I.rowS; rw [sflat_cons] at this; exact this)
      have I2 := (I.setS (st' := st) hpop).alloc (.cells #[.int .i64 f.i, .int .i64 f.p, .int .i64 f.d] 39)
      clear hsh hol hKl hpop
      have hcap : st.length + 1 ≤ cap := by
        rcases I.rowS.2 with ⟨e, _⟩ | ⟨g', cap', cur, e, _, _, h, _⟩
        · cases e
        · cases e; exact h
      have cP := cell_of_one (I.pCell S)
      have lP := lt_of_block (I.pCell S)
      have nPS : E.cP ≠ E.cS := ne_of_heap (I.pCell S) I.hS (by simp)
      cases hd : isDone o f.i with
      | true =>
        have tok : True := trivial
        go_wp2_with (at_lookup; have _t := tok; refine wpList_lookup_im _ rfl _ _ 36 false rfl 3 4 Try.underlying36 Try.underlying3 (.bool false) zero4 E.bP (placedL o) rfl I2.hP f.i rfl (.bool true) (placed_val hd) ?_; clear tok; clear _t)
        go_roundg (meas E.K st o)
        case measure => have := meas_skip E.K f st o; omega
        case rel => exact ⟨st, o, _, I2, PP.out.skip, RR.out.skip hd, Nat.le_refl _⟩
      | false =>
        have hfK := PP.out.inK f (by simp)
        have hMl := S.lookM f.i hfK
        have hF2 : ((wr.setCell ⟨E.cS, 0, none⟩ (.slice (some ⟨g, 0, none⟩) st.length cap)).alloc (.cells #[.int .i64 f.i, .int .i64 f.p, .int .i64 f.d] 39)).heap[wr.heap.size]? = some (.cells #[.int .i64 f.i, .int .i64 f.p, .int .i64 f.d] 39 (0, 0)) := by
          have := heap_alloc_new (wr.setCell ⟨E.cS, 0, none⟩ (.slice (some ⟨g, 0, none⟩) st.length cap)) (.cells #[.int .i64 f.i, .int .i64 f.p, .int .i64 f.d] 39)
          simpa [World.setCell] using this
        have tok1 : True := trivial
        have tok2 : True := trivial
        have tok3 : True := trivial
        go_wp2_with (first
          | (at_lookup; have _t := tok1; refine wpList_lookup_im _ rfl _ _ 36 false rfl 3 4 Try.underlying36 Try.underlying3 (.bool false) zero4 E.bP (placedL o) rfl I2.hP f.i rfl (.bool false) (placed_val hd) ?_; clear tok1; clear _t)
          | (at_mapUpdate; have _t := tok2; refine wpList_update_im _ rfl _ _ _ 36 rfl 3 4 Try.underlying36 Try.underlying3 E.bP (placedL o) rfl I2.hP f.i rfl (.bool true) rfl ?_; intro w3 hw3; clear tok2; clear _t; rw [put_placed hd f.p f.d] at hw3; have I3 := I2.mark (o ++ [f]); have hF3 := hF2; rw [← setBlock_other (mapObj (placedL (o ++ [f]))) (ne_of_heap hF2 I2.hP (fun e => mapObj_ne_cells _ _ _ _ e.symm))] at hF3; rw [← hw3] at I3 hF3; clear hw3 hF2 I2 cS fS lS cP lP nPS t0 t1 t2 I; have cM3 := cell_of_one (I3.mCell S); have cF0 : w3.cell? ⟨wr.heap.size, 0, none⟩ = some (.int .i64 f.i) := cell_of_row w3 wr.heap.size 0 _ _ _ hF3; have cF1 : w3.cell? ⟨wr.heap.size, 1, none⟩ = some (.int .i64 f.p) := cell_of_row w3 wr.heap.size 1 _ _ _ hF3; have cF2 : w3.cell? ⟨wr.heap.size, 2, none⟩ = some (.int .i64 f.d) := cell_of_row w3 wr.heap.size 2 _ _ _ hF3; have lF := lt_of_block hF3)
          | (at_lookup; have _t := tok3; refine wpList_lookup_im _ rfl _ _ 32 false rfl 3 31 Try.underlying32 Try.underlying3 noEnt.val zero31 E.bM E.Lm rfl (I3.mMap S) f.i rfl _ (ent_val hMl) ?_; clear tok3; clear _t))
        go_region
        obtain ⟨j0, hj, hy0, hy1, hy2⟩ := info_parts info31
        have hlt := PP.out.lt hd
        have hltn : o.length + 1 ≤ E.n := by have := S.cap; omega
        have cO3 := cell_of_one I3.hO
        have lO := lt_of_block I3.hO
        have I4 := ((I3.alloc (.cells #[.int .i64 (E.M f.i).i, .int .i64 f.p, .int .i64 f.d, .int .i64 (E.M f.i).pos, .string ⟨#[]⟩, .string ⟨#[]⟩, .string ⟨#[]⟩, .string ⟨#[]⟩, .string ⟨#[]⟩, .string ⟨#[]⟩, .string ⟨#[]⟩, .string ⟨#[]⟩, .string ⟨#[]⟩, .string ⟨#[]⟩, .bool false, .int .i64 (E.M f.i).c] 31)).alloc (.cells #[.int .i64 (E.M f.i).i, .int .i64 f.p, .int .i64 f.d, .int .i64 (E.M f.i).pos, .string ⟨#[]⟩, .string ⟨#[]⟩, .string ⟨#[]⟩, .string ⟨#[]⟩, .string ⟨#[]⟩, .string ⟨#[]⟩, .string ⟨#[]⟩, .string ⟨#[]⟩, .string ⟨#[]⟩, .string ⟨#[]⟩, .bool false, .int .i64 (E.M f.i).c] 31)).drew
        have hF4 : (((w3.alloc (.cells #[.int .i64 (E.M f.i).i, .int .i64 f.p, .int .i64 f.d, .int .i64 (E.M f.i).pos, .string ⟨#[]⟩, .string ⟨#[]⟩, .string ⟨#[]⟩, .string ⟨#[]⟩, .string ⟨#[]⟩, .string ⟨#[]⟩, .string ⟨#[]⟩, .string ⟨#[]⟩, .string ⟨#[]⟩, .string ⟨#[]⟩, .bool false, .int .i64 (E.M f.i).c] 31)).alloc (.cells #[.int .i64 (E.M f.i).i, .int .i64 f.p, .int .i64 f.d, .int .i64 (E.M f.i).pos, .string ⟨#[]⟩, .string ⟨#[]⟩, .string ⟨#[]⟩, .string ⟨#[]⟩, .string ⟨#[]⟩, .string ⟨#[]⟩, .string ⟨#[]⟩, .string ⟨#[]⟩, .string ⟨#[]⟩, .string ⟨#[]⟩, .bool false, .int .i64 (E.M f.i).c] 31)).drew).heap[wr.heap.size]? = some (.cells #[.int .i64 f.i, .int .i64 f.p, .int .i64 f.d] 39 (0, 0)) := by
          show ((w3.alloc (.cells #[.int .i64 (E.M f.i).i, .int .i64 f.p, .int .i64 f.d, .int .i64 (E.M f.i).pos, .string ⟨#[]⟩, .string ⟨#[]⟩, .string ⟨#[]⟩, .string ⟨#[]⟩, .string ⟨#[]⟩, .string ⟨#[]⟩, .string ⟨#[]⟩, .string ⟨#[]⟩, .string ⟨#[]⟩, .string ⟨#[]⟩, .bool false, .int .i64 (E.M f.i).c] 31)).alloc (.cells #[.int .i64 (E.M f.i).i, .int .i64 f.p, .int .i64 f.d, .int .i64 (E.M f.i).pos, .string ⟨#[]⟩, .string ⟨#[]⟩, .string ⟨#[]⟩, .string ⟨#[]⟩, .string ⟨#[]⟩, .string ⟨#[]⟩, .string ⟨#[]⟩, .string ⟨#[]⟩, .string ⟨#[]⟩, .string ⟨#[]⟩, .bool false, .int .i64 (E.M f.i).c] 31)).heap[wr.heap.size]? = _
          rw [Below.heap_alloc _ _ _ (by simp; omega), Below.heap_alloc _ _ _ lF]; exact hF3
        have hnews : ∀ j u, (placedE E.M f).cells[j]? = some u → (((w3.alloc (.cells #[.int .i64 (E.M f.i).i, .int .i64 f.p, .int .i64 f.d, .int .i64 (E.M f.i).pos, .string ⟨#[]⟩, .string ⟨#[]⟩, .string ⟨#[]⟩, .string ⟨#[]⟩, .string ⟨#[]⟩, .string ⟨#[]⟩, .string ⟨#[]⟩, .string ⟨#[]⟩, .string ⟨#[]⟩, .string ⟨#[]⟩, .bool false, .int .i64 (E.M f.i).c] 31)).alloc (.cells #[.int .i64 (E.M f.i).i, .int .i64 f.p, .int .i64 f.d, .int .i64 (E.M f.i).pos, .string ⟨#[]⟩, .string ⟨#[]⟩, .string ⟨#[]⟩, .string ⟨#[]⟩, .string ⟨#[]⟩, .string ⟨#[]⟩, .string ⟨#[]⟩, .string ⟨#[]⟩, .string ⟨#[]⟩, .string ⟨#[]⟩, .bool false, .int .i64 (E.M f.i).c] 31)).drew).cell? ((⟨w3.heap.size + 1, 0, none⟩ : Addr).add j) = some u :=
          World.news_of_block (cs := (placedE E.M f).cells.toArray) (t := 31) (fr := (0, 0)) (new_at (w3.alloc (.cells #[.int .i64 (E.M f.i).i, .int .i64 f.p, .int .i64 f.d, .int .i64 (E.M f.i).pos, .string ⟨#[]⟩, .string ⟨#[]⟩, .string ⟨#[]⟩, .string ⟨#[]⟩, .string ⟨#[]⟩, .string ⟨#[]⟩, .string ⟨#[]⟩, .string ⟨#[]⟩, .string ⟨#[]⟩, .string ⟨#[]⟩, .bool false, .int .i64 (E.M f.i).c] 31)) (.cells #[.int .i64 (E.M f.i).i, .int .i64 f.p, .int .i64 f.d, .int .i64 (E.M f.i).pos, .string ⟨#[]⟩, .string ⟨#[]⟩, .string ⟨#[]⟩, .string ⟨#[]⟩, .string ⟨#[]⟩, .string ⟨#[]⟩, .string ⟨#[]⟩, .string ⟨#[]⟩, .string ⟨#[]⟩, .string ⟨#[]⟩, .bool false, .int .i64 (E.M f.i).c] 31) (w3.heap.size + 1) (by simp))
        have tok4 : True := trivial
        go_wp2_with (at_builtin; have _t := tok4; refine wpList_append_fits _ rfl _ _ 25 rfl 0 31 j0 16 Try.underlying25 hj hy1 E.bO o.length E.n _ rfl I4.rowO ⟨w3.heap.size + 1, 0, none⟩ 1 1 (placedE E.M f).cells rfl rfl hnews (fun u hu => Array.all_eq_true_iff_forall_mem.1 (Ent.oneCell (placedE E.M f)) u (by simpa using hu)) (by omega) ?_; clear tok4; clear _t)
        intro w4 hown4 hgrow4
        have hO4 := I4.keepO hgrow4 I4.hO (by intro cs; simp)
        have hF5 := I4.keepO hgrow4 hF4 (by intro cs; simp)
        have I5 := I4.lay hgrow4 (f := f) hown4
        have cO4 := cell_of_one hO4
        have fO4 := free_of_one hO4
        have hC4 := I4.keepO hgrow4 (I4.cCell S) (by intro cs; simp)
        have cC4 := cell_of_one hC4
        have nCO : E.cC ≠ E.cO := ne_of_heap hC4 hO4 (by simp)
        have nFO : wr.heap.size ≠ E.cO := ne_of_heap hF5 hO4 (by simp)
        have cF4 : w4.cell? ⟨wr.heap.size, 0, none⟩ = some (.int .i64 f.i) := cell_of_row w4 wr.heap.size 0 _ _ _ hF5
        have hF6 : (w4.setCell ⟨E.cO, 0, none⟩ (.slice (some ⟨E.bO, 0, none⟩) (o.length + 1) E.n)).heap[wr.heap.size]? = some (.cells #[.int .i64 f.i, .int .i64 f.p, .int .i64 f.d] 39 (0, 0)) := by
          rw [Below.heap_setCell _ _ _ _ nFO]; exact hF5
        obtain ⟨ka, kc, hkv, hkr⟩ := S.kidsC f.i
        have hkK := S.kidsK f.i
        have hkL := S.kidsL f.i
        obtain ⟨kl, hkl⟩ : ∃ kl, kl = E.kids f.i := ⟨_, rfl⟩
        rw [← hkl] at hkv hkr hkK hkL
        have HKL := hide hkl
        have HKV := hide hkv
        clear hown4 hgrow4 hO4 hC4 I4 hF4 hF5 hnews cO3 lO hF3 cM3 cF0 cF1 cF2 lF I3 hj hy0 hy1 hy2 hkl hkv
        have tok5 : True := trivial
        go_wp2_with (at_lookup; have _t := tok5; refine wpList_lookup_im _ rfl _ _ 34 false rfl 3 22 Try.underlying34 Try.underlying3 (.slice none 0 0) zero22 E.bC E.Lc rfl (I5.cMap S) f.i rfl (.slice ka kl.length kc) HKV.out ?_; clear tok5; clear _t)
        have hn0 : wrap64 ((kl.length : Int) - 1) = (kl.length : Int) - 1 := IntWalk.wrap64_in _ (by have := S.len; omega)
        rw [hn0]
        clear hn0
        obtain ⟨F, eF⟩ : ∃ F, F = wr.heap.size := ⟨_, rfl⟩
        rw [← eF] at hF6 hgl ⊢
        have HF := hide eF
        clear eF
        go_loopg [10] kl.length (fun j s10 wi => ∃ v, s10 = .int .i64 ((j : Int) - 1) ∧ j ≤ kl.length ∧ Inv E w0 wi (pushJ kl (o ++ [f]) f st j) (o ++ [f]) (o ++ [f]) v ∧ wi.heap[F]? = some (.cells #[.int .i64 f.i, .int .i64 f.p, .int .i64 f.d] 39 (0, 0)) ∧ v.ownBlock ≠ some F)
        case atStart => exact ⟨_, rfl, Nat.le_refl _, by rw [pushJ_end _ _ _ _ _ (Nat.le_refl _)]; exact I5, hF6, by simp [Value.ownBlock]; omega⟩
        case round =>
          clear I5 hF6 cO4 fO4 cC4 nCO nFO cF4
          obtain ⟨v, hs10, hjl, I, hF, hvF⟩ := hrel
          rcases gk with _ | j
          · have e10 : u10 = .int .i64 (-1) := hs10
            clear hs10
            subst e10
            go_wp2
            go_roundg (meas E.K (pushK kl (o ++ [f]) f ++ st) (o ++ [f]))
            case measure => have := meas_place PP.out hd hkL; omega
            case rel => exact ⟨_, _, _, by have := I; rw [pushJ_zero] at this; exact this, PP.out.place hd hkK hkL, by have := RR.out.place hd; rw [← HKL.out] at this; exact this, Nat.le_refl _⟩
          · have e10 : u10 = .int .i64 (j : Int) := by rw [hs10]; congr 1; omega
            clear hs10
            subst e10
            obtain ⟨x, hx⟩ : ∃ x, x = kl.getD j 0 := ⟨_, rfl⟩
            have HX := hide hx
            obtain ⟨gq, hq, ck⟩ := I.kid S hkr (j := j) (by omega)
            rw [← hx] at ck
            clear hx
            subst hq
            have cP := cell_of_one (I.pCell S)
            have i0' : (0 : Int) ≤ (j : Int) := by omega
            have i1' : (j : Int) < (kl.length : Int) := by omega
            cases hdx : isDone (o ++ [f]) x with
            | true =>
              have hlk : ∀ nq, (Instr.lookup 36 (.map (some E.bP)) (.int .i64 x) false).run Try.prog (wr.drewN nq) = .ok (.bool true) (wr.drewN nq) := fun nq => (run_lookup_im _ Try.underlying36 Try.underlying3 (zero4 _) (I.drewN nq).hP x false).trans (by rw [placed_val hdx])
              go_wp2_with fail
              go_quiet (fail)
              go_wp2_with fail
              go_roundg j
              case measure => omega
              case rel => exact ⟨v, by rw [IntWalk.wrap64_in _ (by have := S.len; omega)], by omega, by rw [pushJ_no (by omega) HX.out hdx]; exact I.drewN _, hF, hvF⟩
            | false =>
              have hlk : ∀ nq, (Instr.lookup 36 (.map (some E.bP)) (.int .i64 x) false).run Try.prog (wr.drewN nq) = .ok (.bool false) (wr.drewN nq) := fun nq => (run_lookup_im _ Try.underlying36 Try.underlying3 (zero4 _) (I.drewN nq).hP x false).trans (by rw [placed_val hdx])
              go_wp2_with fail
              go_quiet (fail)
              go_wp2_with fail
              have I5 := I.drewN nq
              have hF5 : (wr.drewN nq).heap[F]? = some (.cells #[.int .i64 f.i, .int .i64 f.p, .int .i64 f.d] 39 (0, 0)) := hF
              clear hlk cP ck I hF
              generalize wr.drewN nq = w5 at I5 hF5 ⊢
              obtain ⟨gq', hq, ck⟩ := I5.kid S hkr (j := j) (by omega)
              cases hq
              rw [← HX.out] at ck
              have cS := cell_of_one I5.hS
              have fS := free_of_one I5.hS
              have cF0 : w5.cell? ⟨F, 0, none⟩ = some (.int .i64 f.i) := cell_of_row w5 F 0 _ _ _ hF5
              have cF2 : w5.cell? ⟨F, 2, none⟩ = some (.int .i64 f.d) := cell_of_row w5 F 2 _ _ _ hF5
              have lF := lt_of_block hF5
              have lS := lt_of_block I5.hS
              have lk : gq < w5.heap.size := World.block_lt_of_cell? w5 _ ck
              have hpl := pushJ_length kl (o ++ [f]) f st (j + 1)
              have hdp := PP.out.dep f (by simp)
              have hol := PP.out.out_le
              have hKl := S.len
              have hbase := I5.size
              have hwr : IntKind.i64.wrap (f.d + 1) = f.d + 1 := by rw [IntKind.wrap_i64]; omega
              have aF : v.ownBlock ≠ some F := hvF
              have aS : v.ownBlock ≠ some E.cS := row_ne I5.rowS I5.hS (by intro cs; simp)
              have aq : v.ownBlock ≠ some gq := by
                intro e
                obtain ⟨g2, cur2, e2, hg2, _⟩ := hkr (by intro e; rw [e] at hjl; simp at hjl)
                cases e2
                have := (row_lt I5.rowS e).1
                have := lt_of_block hg2
                omega
              have I6 := (I5.alloc (.cells #[.int .i64 x, .int .i64 f.i, .int .i64 (f.d + 1)] 39)).drew
              have nF : F ≠ E.cS := by
                intro e; rw [e, I5.hS] at hF5; simp at hF5
              have nq' : E.cS ≠ gq := by
                obtain ⟨g2, cur2, e2, hg2, _⟩ := hkr (by intro e; rw [e] at hjl; simp at hjl)
                cases e2
                obtain ⟨v0, hv0⟩ := S.hS
                exact ne_of_heap hv0 hg2 (by simp)
              go_region_law
                ((refine step_append_lies _ (by rfl) _ _ _ (by rfl) w0.heap.size 39 i0 _ 3 24 Try.underlying37 hi hz0 hz1 hz2 rfl (by omega) v _ _ (by rfl) I6.rowS
                    ⟨w5.heap.size, 0, none⟩ 1 1 (Fr.cells ⟨x, f.i, f.d + 1⟩) (by rfl) (by rfl) (World.news_of_block (cs := #[.int .i64 x, .int .i64 f.i, .int .i64 (f.d + 1)]) (t := 39) (fr := (0, 0)) (heap_alloc_new w5 _)) (Fr.oneCell _)
                    (by omega) (by unfold maxLen; omega) (by omega) (by simp; omega) (w5.heap.size + 1) (by simp) ?_; intro gg cap2 w6 hown6 hgrow hat hlt6; have hS6 := I6.keepS hgrow; have cS6 := cell_of_one hS6; have fS6 := free_of_one hS6))
              all_goals
                have I7 := I6.push hgrow (st' := ⟨x, f.i, f.d + 1⟩ :: pushJ kl (o ++ [f]) f st (j + 1)) (by rw [sflat_cons]; exact hown6)
                have hF7 : w6.heap[F]? = some (.cells #[.int .i64 f.i, .int .i64 f.p, .int .i64 f.d] 39 (0, 0)) := by
                  rw [hgrow.block F (by show F < (w5.alloc _).heap.size; simp; omega) (Ne.symm aF)]
                  show (w5.alloc _).heap[F]? = _
                  rw [Below.heap_alloc _ _ _ lF]
                  exact hF5
                have hgF : gg ≠ F := by
                  rcases hat with h | h
                  · intro e; exact aF (e ▸ h)
                  · omega
                go_wp2_with fail
                go_roundg j
                case measure => omega
                case rel => exact ⟨_, rfl, by omega, by rw [pushJ_yes (by omega) HX.out hdx]; exact I7, by rw [Below.heap_setCell _ _ _ _ nF]; exact hF7, by simpa [Value.ownBlock] using hgF⟩
end Go.Proofs.Qxb6001503a
