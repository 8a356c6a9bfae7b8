/- The walk of the law FnCandidatesOfAllIdsGiveTheWholeListNoneGiveAnEmptyOne. -/
import Derived.Test.Qxb6001205aW6
import Derived.Deep.RegionWith
import Derived.Deep.DeepCutAuto
namespace Go.Proofs.Qxb6001205a
open Go.RowKit

theorem sel_all (ids names : List ByteArray) : sel ids.reverse (grp ids names) = grp ids names := by
  unfold sel
  rw [List.filter_eq_self]
  intro c hc
  unfold grp at hc
  rw [List.mem_map] at hc
  obtain ⟨i, hi, rfl⟩ := hc
  rw [List.mem_range] at hi
  show inS ids.reverse (ids.getD i ByteArray.empty) = true
  rw [inS_iff, List.mem_reverse, getD_at hi]
  exact List.getElem_mem hi

theorem sel_none (cs : List Cand) : sel [] cs = [] := by
  unfold sel
  rw [List.filter_eq_nil_iff]
  intro c _
  simp [inS]

theorem below_then {w0 w1 w2 : World} (h : Below w0.heap.size w0 w1) (k : Below w1.heap.size w1 w2) : Below w0.heap.size w0 w2 := h.trans (k.mono h.size)

theorem StrRow.nil (w : World) (a : Option Addr) : StrRow w a [] := fun h => absurd rfl h

theorem below_undrew {w w' : World} (h : Below w.drew.heap.size w.drew w') : Below w.heap.size w w' := ⟨h.os, h.tape, h.output, h.size, h.block⟩

theorem below_undrewN {w w' : World} {n : Nat} (h : Below (w.drewN n).heap.size (w.drewN n) w') : Below w.heap.size w w' := ⟨h.os, h.tape, h.output, h.size, h.block⟩

/-- The five cells of a group at block B. -/
def Five (w : World) (B : Nat) (c0 c1 c2 c3 c4 : Value) : Prop :=
  B < w.heap.size ∧ w.cell? ⟨B, 0, none⟩ = some c0 ∧ w.cell? ⟨B, 1, none⟩ = some c1 ∧ w.cell? ⟨B, 2, none⟩ = some c2 ∧ w.cell? ⟨B, 3, none⟩ = some c3 ∧ w.cell? ⟨B, 4, none⟩ = some c4

theorem Five.new (w : World) (c0 c1 c2 c3 c4 : Value) (t : TypeId) : Five (w.alloc (.cells #[c0, c1, c2, c3, c4] t)) w.heap.size c0 c1 c2 c3 c4 := by
  refine ⟨by simp, ?_, ?_, ?_, ?_, ?_⟩
  all_goals (rw [World.cell?_alloc_at _ _ _ _ rfl]; rfl)

theorem Five.below {w w' : World} {B : Nat} {c0 c1 c2 c3 c4 : Value} (h : Five w B c0 c1 c2 c3 c4) (hb : Below w.heap.size w w') : Five w' B c0 c1 c2 c3 c4 := by
  obtain ⟨hl, h0, h1, h2, h3, h4⟩ := h
  exact ⟨Nat.lt_of_lt_of_le hl hb.size, (hb.cell (by exact hl)).trans h0, (hb.cell (by exact hl)).trans h1, (hb.cell (by exact hl)).trans h2, (hb.cell (by exact hl)).trans h3, (hb.cell (by exact hl)).trans h4⟩

/-- ZZcandidatesOf, asked for nothing. -/
theorem zz_none (x y z : ByteArray) (n1 : Int) (a : Option Addr) (cap : Nat) (cs : List Cand) (a2 : Option Addr) (c2 : Nat) (w : World) (h : CandRow w a cs) (m1 : cs.length ≤ 4096) :
    Calls Try.prog 10 #[.agg #[.string x, .string y, .string z, .int .i64 n1, .slice a cs.length cap], .slice a2 0 c2] w fun e w' => ∃ a' cap', e = .returned (.slice (some a') 0 cap') ∧ Below w.heap.size w w' := by
  refine (zz_any x y z n1 a cap cs a2 c2 [] w h (StrRow.nil _ _) m1 (by simp)).mono ?_
  rintro e w' ⟨a', cap', rs, rfl, _, hrs, hb⟩
  have e := hrs.out
  rw [sel_none] at e
  subst e
  exact ⟨a', cap', rfl, hb⟩

theorem all_of {cs ps : List Cand} {s0 s1 rs : List ByteArray} (hp : ps = sel rs cs) (hr : rs = s0.reverse) (hc : cs = grp s0 s1) : ps = cs := by
  rw [hp, hr, hc]; exact sel_all s0 s1

set_option maxHeartbeats 1000000 in
theorem law5 (a0 : Option Addr) (c0 : Nat) (s0 : List ByteArray) (a1 : Option Addr) (c1 : Nat) (s1 : List ByteArray) (w : World)
    (h0 : StrRow w a0 s0) (h1 : StrRow w a1 s1) (m0 : s0.length ≤ maxLen) (m1 : s1.length ≤ maxLen) :
    Calls Try.prog 5 #[.slice a0 s0.length c0, .slice a1 s1.length c1] w fun e w' => e = .returned (.bool true) ∧ Below w.heap.size w w' := by
  have hT : Calls Try.prog 7 #[.slice a0 s0.length c0, .slice a1 s1.length c1, .slice none 0 0] w fun e w' =>
      (∃ b, e = .returned (.bool b) ∧ (b = false → s0.length ≤ 4096 ∧ s1.length ≤ 4096 ∧ List.length ([] : List ByteArray) ≤ 4096)) ∧ w' = w :=
    tooBig_any a0 c0 s0 a1 c1 s1 none 0 [] w h0 h1 (StrRow.nil _ _) m0 m1 (by simp)
  have q26 : ∀ (w : World) (a : Option Addr) (n c n' c' : Nat), (binOp .eql 26 (.slice a n c) (.slice none n' c')).run Try.prog w = .ok (.bool a.isNone) w := fun w a n c n' c' => Lib.run_eql_slice_nil w _ _ a n c n' c' Try.underlying26
  have n26 : ∀ (w : World) (a : Option Addr) (n c n' c' : Nat), (binOp .neq 26 (.slice a n c) (.slice none n' c')).run Try.prog w = .ok (.bool (!a.isNone)) w := fun w a n c n' c' => run_neq_slice_nil_any w _ _ a n c n' c' Try.underlying26
  have HT := hide hT
  clear hT
  go_enter Try.func5, Try.ntmps5
  go_wp2_with fail
  refine (guard2_any a0 c0 s0 a1 c1 s1 w h0 h1 m0 m1).mono ?_
  rintro e w' ⟨⟨b, rfl⟩, rfl⟩
  cases b with
  | false =>
    go_wp2_with fail
    go_ret
    exact ⟨rfl, Below.refl _ _⟩
  | true =>
  go_wp2_with fail
  refine (unhide HT).mono ?_
  rintro e w' ⟨⟨b, rfl, hb⟩, rfl⟩
  clear HT
  cases b with
  | true =>
    go_wp2_with fail
    go_ret
    exact ⟨rfl, Below.refl _ _⟩
  | false =>
  obtain ⟨k0, k1, _⟩ := hb rfl
  clear hb m0 m1
  go_wp2_with fail
  refine (copy_any a0 c0 s0 _ h0 k0).mono ?_
  rintro e w1 ⟨a2, c2, rfl, r2, B1⟩
  have r1 := h1.below B1
  clear h0 h1
  go_wp2_with fail
  refine (copy_any a1 c1 s1 _ r1 k1).mono ?_
  rintro e w2 ⟨a3, c3, rfl, r3, B2⟩
  have r2' := r2.below B2
  have B12 := below_then B1 B2
  clear r1 r2 B1 B2
  go_wp2_with fail
  refine (group_any a2 c2 s0 a3 c3 s1 _ r2' r3 k0 k1).mono ?_
  rintro e w3 ⟨x, y, z, ga, gc, cs, rfl, g1, hcs, B3⟩
  have B03 := below_then B12 B3
  have r2 := r2'.below B3
  clear r2' r3 B12 B3
  have hcl : cs.length ≤ 4096 := by rw [hcs.out, grp_length]; exact k0
  have hA : Below w3.heap.size w3 (w3.alloc (.cells #[.string x, .string y, .string z, .int .i64 1, .slice ga cs.length gc] 28)) := (Below.refl _ _).alloc (Nat.le_refl _) _
  have g2 := g1.below hA
  have r4 := r2.below hA
  have B04 := below_then B03 hA
  have F4 := Five.new w3 (.string x) (.string y) (.string z) (.int .i64 1) (.slice ga cs.length gc) 28
  clear g1 r2 B03 hA
  go_wp2_with fail
  refine (reversed_any a2 c2 s0 _ r4 k0).mono ?_
  rintro e w5 ⟨ra, rc, rs, rfl, r5, hrs, B5⟩
  have F5 := F4.below B5
  have g5 := g2.below B5
  have B05 := below_then B04 B5
  clear r4 g2 B04 F4 B5
  have hrl : rs.length ≤ 4096 := by rw [hrs.out, List.length_reverse]; exact k0
  obtain ⟨q, q0, q1, q2, q3, q4⟩ := F5
  go_wp2_with fail
  go_region_with (first
    | (go_at_call 10; refine (zz_any x y z 1 ga gc cs ra rc rs _ (by exact g5) (by exact r5) hcl hrl).mono ?_; rintro e w6 ⟨pa, pc, ps, rfl, p1, hps, B6d⟩; have B6 := below_undrew B6d; clear B6d; obtain rfl := all_of hps.out hrs.out hcs.out; obtain ⟨_, q0', q1', q2', q3', q4'⟩ := Five.below (w := w5) ⟨q, q0, q1, q2, q3, q4⟩ B6)
    | (go_at_call 12; refine (same_any _ _ _ _ _ _ (by assumption) (by exact g5.below B6) (by unfold maxLen; omega)).mono ?_; rintro e w7 ⟨rfl, nq, rfl⟩))
  all_goals (
    have B06 := below_then B05 B6
    have g6 := g5.below B6
    clear g5 r5 B05 B6
    go_wp2_with fail
    refine (zz_none x y z 1 ga gc _ none 0 _ (by exact g6) hcl).mono ?_
    rintro e w8 ⟨na, nc, rfl, B8⟩
    have B8' := below_undrewN B8
    obtain ⟨_, t0, t1, t2, t3, t4⟩ := Five.below ⟨‹_›, q0', q1', q2', q3', q4'⟩ B8'
    have B08 := below_then B06 B8'
    have g8 := g6.below B8'
    clear B8 B8' g6 B06 q0' q1' q2' q3' q4' q0 q1 q2 q3 q4
    have hA8 : Below w8.heap.size w8 (w8.alloc (.cells #[] 9)) := (Below.refl _ _).alloc (Nat.le_refl _) _
    have g9 := g8.below hA8
    have B09 := below_then B08 hA8
    clear g8 B08 hA8
    go_wp2_with fail
    refine (zz_none x y z 1 ga gc _ _ 0 _ (by exact g9) hcl).mono ?_
    rintro e w9 ⟨ma, mc, rfl, B9⟩
    have B10 := below_then B09 B9
    clear g9 B09 B9
    go_wp2_with fail
    go_ret
    exact ⟨rfl, B10⟩)
end Go.Proofs.Qxb6001205a
