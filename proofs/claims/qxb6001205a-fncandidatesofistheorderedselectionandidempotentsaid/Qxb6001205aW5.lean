/- The walk of zzGroup. -/
import Derived.Test.Qxb6001205aW4
namespace Go.Proofs.Qxb6001205a
open Go.RowKit

theorem info34 : (Try.prog.info? 34).map (fun i => (i.zero, i.size, i.bytes)) = some (some (.agg #[.string ByteArray.empty, .string ByteArray.empty]), 2, 32) := by kernel_rfl

/-- The cells of a list of candidates. -/
def flat (cs : List Cand) : List Value := cs.flatMap fun c => [.string c.1, .string c.2]

theorem flat_length (cs : List Cand) : (flat cs).length = cs.length * 2 := by
  induction cs with
  | nil => rfl
  | cons c cs ih => simp [flat] at ih ⊢; omega

theorem flat_append (cs ds : List Cand) : flat (cs ++ ds) = flat cs ++ flat ds := by simp [flat]

theorem flat_at (cs : List Cand) (i : Nat) (h : i < cs.length) : (flat cs)[i * 2]? = some (.string (cs.getD i noCand).1) ∧ (flat cs)[i * 2 + 1]? = some (.string (cs.getD i noCand).2) := by
  induction cs generalizing i with
  | nil => simp at h
  | cons c cs ih =>
    cases i with
    | zero => simp [flat]
    | succ i =>
      have := ih i (by simpa using h)
      have e : flat (c :: cs) = .string c.1 :: .string c.2 :: flat cs := by simp [flat]
      rw [e, show (i + 1) * 2 = i * 2 + 1 + 1 by omega]
      simpa using this

/-- The candidates that zzGroup makes. -/
def grp (ids names : List ByteArray) : List Cand := (List.range ids.length).map fun i => (ids.getD i ByteArray.empty, names.getD i ByteArray.empty)

theorem grp_length (ids names : List ByteArray) : (grp ids names).length = ids.length := by simp [grp]

theorem grp_take (ids names : List ByteArray) (k : Nat) (h : k < ids.length) : (grp ids names).take (k + 1) = (grp ids names).take k ++ [(ids.getD k ByteArray.empty, names.getD k ByteArray.empty)] := by
  rw [List.take_succ_eq_append_getElem (by rw [grp_length]; exact h)]
  simp [grp]

/-- What is owned reads as candidates. -/
theorem CandRow.ofOwn {w : World} {base g cap : Nat} {cs : List Cand} (h : w.ownsRow base 34 2 (.slice (some ⟨g, 0, none⟩) cs.length cap) cs.length (flat cs)) : CandRow w (some ⟨g, 0, none⟩) cs := by
  intro hne
  refine ⟨g, 0, rfl, ?_, fun i hi => ?_⟩
  · rcases h.2 with ⟨h', _⟩ | ⟨g', cap', cur, h', _, hg, _⟩
    · simp at h'
    · simp only [Value.slice.injEq, Option.some.injEq, Addr.mk.injEq, and_true, true_and] at h'
      obtain ⟨rfl, rfl⟩ := h'
      exact (Array.getElem?_eq_some_iff.1 hg).1
  · have := flat_at cs i hi
    rw [Nat.zero_add, h.cellAt (i * 2) (by omega), h.cellAt (i * 2 + 1) (by omega)]
    exact this

theorem cells_two_new (w : World) (x y : Value) (t : TypeId) : ∀ j u, [x, y][j]? = some u → (w.alloc (.cells #[x, y] t)).cell? ((⟨w.heap.size, 0, none⟩ : Addr).add j) = some u := by
  intro j u hj
  match j, hj with
  | 0, hj => simp at hj; subst hj; simp [Addr.add]
  | 1, hj => simp at hj; subst hj; simp [Addr.add]

theorem five_cells {w wr : World} {c0 c1 c2 c3 c4 : Value} {t : TypeId} (B : Below (w.heap.size + 1) (w.alloc (.cells #[c0, c1, c2, c3, c4] t)) wr) :
    (wr.cell? ⟨w.heap.size, 0, none⟩ = some c0 ∧ wr.cell? ⟨w.heap.size, 1, none⟩ = some c1 ∧ wr.cell? ⟨w.heap.size, 2, none⟩ = some c2 ∧ wr.cell? ⟨w.heap.size, 3, none⟩ = some c3 ∧ wr.cell? ⟨w.heap.size, 4, none⟩ = some c4) ∧
    ∀ j, wr.frozen? ⟨w.heap.size, j, none⟩ = false := by
  refine ⟨⟨?_, ?_, ?_, ?_, ?_⟩, fun j => ?_⟩
  all_goals first
    | (rw [B.cell (by show w.heap.size < _; omega), World.cell?_alloc_at _ _ _ _ rfl]; rfl)
    | (rw [B.frozen (by show w.heap.size < _; omega), World.frozen?_alloc_at _ _ _ _ rfl])

theorem two_one (s t : ByteArray) : ∀ u ∈ [Value.string s, Value.string t], u.oneCell' = true := by
  intro u hu
  simp at hu
  rcases hu with rfl | rfl <;> rfl

/-- What zzGroup ends in. -/
def GroupEnd (w : World) (s0 s1 : List ByteArray) (e : Ending) (w' : World) : Prop :=
  ∃ x y z a cap cs, e = .returned (.agg #[.string x, .string y, .string z, .int .i64 1, .slice a (List.length cs) cap]) ∧ CandRow w' a cs ∧ Hid (cs = grp s0 s1) ∧ Below w.heap.size w w'

theorem group_end {w w' : World} {s0 s1 : List ByteArray} {k n g base : Nat} (x y z : ByteArray) (h : w'.ownsRow base 34 2 (.slice (some ⟨g, 0, none⟩) k n) k (flat (grp s0 s1))) (hk : k = (grp s0 s1).length) (hb : Below w.heap.size w w') :
    GroupEnd w s0 s1 (.returned (.agg #[.string x, .string y, .string z, .int .i64 1, .slice (some ⟨g, 0, none⟩) k n])) w' := by
  subst hk
  exact ⟨x, y, z, _, n, grp s0 s1, rfl, CandRow.ofOwn h, rfl, hb⟩

set_option maxHeartbeats 400000 in
/-- zzGroup. -/
theorem group_any (a0 : Option Addr) (c0 : Nat) (s0 : List ByteArray) (a1 : Option Addr) (c1 : Nat) (s1 : List ByteArray) (w : World)
    (h0 : StrRow w a0 s0) (h1 : StrRow w a1 s1) (m0 : s0.length ≤ 4096) (m1 : s1.length ≤ 4096) :
    Calls Try.prog 9 #[.slice a0 s0.length c0, .slice a1 s1.length c1] w fun e w' => GroupEnd w s0 s1 e w' := by
  obtain ⟨i0, hi, hz0, hz1, hz2⟩ := info_parts info34
  go_enter Try.func9, Try.ntmps9
  go_wp2_with (at_make; refine wpList_make_own _ rfl _ _ 26 rfl (w.heap.size + 1) 34 i0 (.agg #[.string ByteArray.empty, .string ByteArray.empty]) 2 Try.underlying26 hi hz0 hz1 _ _ _ s0.length rfl rfl rfl (by rw [hz2]; omega) (by unfold maxLen; omega) (by simp) ?_)
  intro w1 hown hgrow
  have B0 := (Below.refl (w.heap.size + 1) _).grown hgrow (by simp) (by intro k hk; cases hk)
  clear hgrow
  go_wp2
  go_loopw [5, 6] (fun v i wr => ∃ k : Nat, k ≤ s0.length ∧ i = .int .i64 k ∧ v = .slice (some ⟨w.heap.size + 1, 0, none⟩) k s0.length ∧
      wr.ownsRow (w.heap.size + 1) 34 2 (.slice (some ⟨w.heap.size + 1, 0, none⟩) k s0.length) k (flat ((grp s0 s1).take k)) ∧
      Below (w.heap.size + 1) (w.alloc (.cells #[.string ⟨#[]⟩, .string ⟨#[]⟩, .string ⟨#[]⟩, .int .i64 0, .slice none 0 0] 28)) wr) (fun _ i _ => s0.length - (intOf i).toNat)
  case atStart => exact ⟨0, Nat.zero_le _, rfl, rfl, hown, B0⟩
  case round =>
    clear hown B0
    obtain ⟨k, hk, rfl, rfl, hown, B⟩ := hrel
    have hsz : w.heap.size + 1 ≤ wr.heap.size := by have := B.size; simpa using this
    by_cases hlt : k < s0.length
    · obtain ⟨b0, o0, rfl, hb0, hc0⟩ := h0 (by intro e; subst e; simp at hlt)
      have hcx : wr.cell? ⟨b0, o0 + k, none⟩ = some (.string (s0.getD k ByteArray.empty)) := by
        rw [B.cell (p := ⟨b0, o0 + k, none⟩) (by show b0 < _; omega), World.cell?_alloc_past _ _ _ (by show b0 < _; omega)]
        exact hc0 k hlt
      obtain ⟨s, hs⟩ : ∃ s, s = s0.getD k ByteArray.empty := ⟨_, rfl⟩
      rw [← hs] at hcx
      obtain ⟨t, ht⟩ : ∃ t, t = s1.getD k ByteArray.empty := ⟨_, rfl⟩
      have HG : Hid (flat ((grp s0 s1).take (k + 1)) = flat ((grp s0 s1).take k) ++ [.string s, .string t]) := by
        show _ = _
        rw [grp_take s0 s1 k hlt, flat_append, hs, ht]; rfl
      have HS : Hid (s = s0.getD k ByteArray.empty) := hs
      clear hs hc0
      by_cases hl1 : k < s1.length
      · obtain ⟨b1, o1, rfl, hb1, hc1⟩ := h1 (by intro e; subst e; simp at hl1)
        have hcy : wr.cell? ⟨b1, o1 + k, none⟩ = some (.string t) := by
          rw [B.cell (p := ⟨b1, o1 + k, none⟩) (by show b1 < _; omega), World.cell?_alloc_past _ _ _ (by show b1 < _; omega), ht]
          exact hc1 k hl1
        clear ht hc1
        go_wp2_with (at_builtin; refine wpList_append_fits _ rfl _ _ 26 rfl (w.heap.size + 1) 34 i0 2 Try.underlying26 hi hz1 (w.heap.size + 1) k s0.length _ rfl (hown.alloc _) ⟨wr.heap.size, 0, none⟩ 1 1 [.string s, .string t] rfl rfl (cells_two_new _ _ _ _) (two_one _ _) (by omega) ?_)
        intro w2 hown2 hgrow2
        have B2 := (B.alloc hsz _).grown hgrow2 (by simp; omega) (by intro j hj; cases hj; exact Nat.le_refl _)
        rw [← HG.out] at hown2
        clear hown B hgrow2 hcx hcy
        go_wp2
        go_roundw
        case rel => exact ⟨k + 1, by omega, by go_num, rfl, hown2, B2⟩
        case measure => simp [intOf]; omega
      · have ht0 : t = ByteArray.empty := by rw [ht]; simp [List.getD, show s1.length ≤ k by omega]
        subst ht0
        clear ht
        go_wp2_with (at_builtin; refine wpList_append_fits _ rfl _ _ 26 rfl (w.heap.size + 1) 34 i0 2 Try.underlying26 hi hz1 (w.heap.size + 1) k s0.length _ rfl (hown.alloc _) ⟨wr.heap.size, 0, none⟩ 1 1 [.string s, .string ByteArray.empty] rfl rfl (cells_two_new _ _ _ _) (two_one _ _) (by omega) ?_)
        intro w2 hown2 hgrow2
        have B2 := (B.alloc hsz _).grown hgrow2 (by simp; omega) (by intro j hj; cases hj; exact Nat.le_refl _)
        rw [← HG.out] at hown2
        clear hown B hgrow2 hcx
        go_wp2
        go_roundw
        case rel => exact ⟨k + 1, by omega, by go_num, rfl, hown2, B2⟩
        case measure => simp [intOf]; omega
    · obtain ⟨⟨q0, q1, q2, q3, q4⟩, qf⟩ := five_cells B
      have hown2 := ownsRow_setCell_below (ownsRow_setCell_below (ownsRow_setCell_below (ownsRow_setCell_below (ownsRow_setCell_below hown (a := ⟨w.heap.size, 0, none⟩) (Nat.lt_succ_self _) (.string ⟨#[103]⟩)) (a := ⟨w.heap.size, 1, none⟩) (Nat.lt_succ_self _) (.string ⟨#[103, 114, 111, 117, 112]⟩)) (a := ⟨w.heap.size, 2, none⟩) (Nat.lt_succ_self _) (.string ⟨#[98, 111, 97, 114, 100]⟩)) (a := ⟨w.heap.size, 3, none⟩) (Nat.lt_succ_self _) (.int .i64 1)) (a := ⟨w.heap.size, 4, none⟩) (Nat.lt_succ_self _) (.slice (some ⟨w.heap.size + 1, 0, none⟩) k s0.length)
      have B2 : Below w.heap.size w wr := ((Below.refl _ _).alloc (Nat.le_refl _) _).trans (B.mono (Nat.le_succ _))
      have B3 := ((((B2.setCell (p := ⟨w.heap.size, 0, none⟩) (Nat.le_refl _) (.string ⟨#[103]⟩)).setCell (p := ⟨w.heap.size, 1, none⟩) (Nat.le_refl _) (.string ⟨#[103, 114, 111, 117, 112]⟩)).setCell (p := ⟨w.heap.size, 2, none⟩) (Nat.le_refl _) (.string ⟨#[98, 111, 97, 114, 100]⟩)).setCell (p := ⟨w.heap.size, 3, none⟩) (Nat.le_refl _) (.int .i64 1)).setCell (p := ⟨w.heap.size, 4, none⟩) (Nat.le_refl _) (.slice (some ⟨w.heap.size + 1, 0, none⟩) k s0.length)
      have e : k = s0.length := by omega
      have hT : (grp s0 s1).take k = grp s0 s1 := List.take_of_length_le (by rw [grp_length]; omega)
      rw [hT] at hown2
      have hlen : k = (grp s0 s1).length := by rw [grp_length]; exact e
      have H2 := hide (group_end ⟨#[103]⟩ ⟨#[103, 114, 111, 117, 112]⟩ ⟨#[98, 111, 97, 114, 100]⟩ hown2 hlen B3)
      clear hown2 B3 hT hlen B2 hown B e
      go_wp2
      exact bodyPost_ret (v := .agg #[.string ⟨#[103]⟩, .string ⟨#[103, 114, 111, 117, 112]⟩, .string ⟨#[98, 111, 97, 114, 100]⟩, .int .i64 1, .slice (some ⟨w.heap.size + 1, 0, none⟩) k s0.length]) (by simp [results, Try.results9, go_sem, q0, q1, q2, q3, q4]) rfl (unhide H2)
end Go.Proofs.Qxb6001205a
