/- The walk of tickedClaims. -/
import Derived.Test.Qxb6000490aV4
namespace Go.Proofs.Qxb6000490a
open Go.RowKit

/-- Are all ticked values offered? -/
def allOk (offered ticked : List ByteArray) : Bool := ticked.all (okV offered)

theorem allOk_step {offered ticked : List ByteArray} {v : ByteArray} {k : Nat} (hk : k < ticked.length) (hv : v = ticked.getD k ByteArray.empty) (h : allOk offered (ticked.take k) = true) (h1 : okV offered v = true) : allOk offered (ticked.take (k + 1)) = true := by
  unfold allOk at h ⊢
  rw [List.take_succ_eq_append_getElem hk, List.all_append, h, Bool.true_and]
  rw [getD_at hk] at hv
  simp [← hv, h1]

theorem allOk_no {offered ticked : List ByteArray} {v : ByteArray} {k : Nat} (hk : k < ticked.length) (hv : v = ticked.getD k ByteArray.empty) (h1 : okV offered v = false) : allOk offered ticked = false := by
  unfold allOk
  rw [List.all_eq_false]
  rw [getD_at hk] at hv
  exact ⟨v, by rw [hv]; exact List.getElem_mem hk, by rw [h1]; simp⟩

/-- The cells of the names. -/
def nameCells (ticked : List ByteArray) : List Value := ticked.map fun v => .string (rest v)

theorem nameCells_step {ticked : List ByteArray} {v : ByteArray} {k : Nat} (hk : k < ticked.length) (hv : v = ticked.getD k ByteArray.empty) : nameCells (ticked.take (k + 1)) = nameCells (ticked.take k) ++ [.string (rest v)] := by
  unfold nameCells
  rw [List.take_succ_eq_append_getElem hk, List.map_append]
  rw [getD_at hk] at hv
  simp [← hv]

/-- What tickedClaims ends in. -/
def TickEnd (w : World) (offered ticked : List ByteArray) (e : Ending) (w' : World) : Prop :=
  Below w.heap.size w w' ∧
  ((allOk offered ticked = true ∧ ∃ a cap, e = .returned (.tuple #[.slice (some a) ticked.length cap, .bool true]) ∧ StrRow w' (some a) (ticked.map rest)) ∨
   (allOk offered ticked = false ∧ e = .returned (.tuple #[.slice none 0 0, .bool false])))

theorem StrRow.ofOwn {w : World} {base g cap n : Nat} {rs : List ByteArray} (hn : rs.length = n) (h : w.ownsRow base 9 1 (.slice (some ⟨g, 0, none⟩) n cap) n (rs.map .string)) : StrRow w (some ⟨g, 0, none⟩) rs := by
  intro hne
  refine ⟨g, 0, rfl, ?_, fun i hi => ?_⟩
  · rcases h.2 with ⟨h', _⟩ | ⟨g', cap', cur, h', _, hg, _⟩
    · simp at h'
    · simp only [Value.slice.injEq, Option.some.injEq, Addr.mk.injEq, and_true, true_and] at h'
      obtain ⟨rfl, rfl⟩ := h'
      exact (Array.getElem?_eq_some_iff.1 hg).1
  · rw [Nat.zero_add, h.cellAt i (by omega), getD_at hi]
    simp [hi]

theorem tick_yes {w w' : World} {offered ticked : List ByteArray} {k n g base : Nat} (hk : k = ticked.length) (h : w'.ownsRow base 9 1 (.slice (some ⟨g, 0, none⟩) k n) k (nameCells (ticked.take k))) (ha : allOk offered (ticked.take k) = true) (hb : Below w.heap.size w w') :
    TickEnd w offered ticked (.returned (.tuple #[.slice (some ⟨g, 0, none⟩) k n, .bool true])) w' := by
  subst hk
  rw [List.take_length] at h ha
  have e : (ticked.map rest).map Value.string = nameCells ticked := by simp [nameCells]
  rw [← e] at h
  exact ⟨hb, .inl ⟨ha, ⟨g, 0, none⟩, n, rfl, StrRow.ofOwn (List.length_map _) h⟩⟩

theorem tick_no {w w' : World} {offered ticked : List ByteArray} (h : allOk offered ticked = false) (hb : Below w.heap.size w w') :
    TickEnd w offered ticked (.returned (.tuple #[.slice none 0 0, .bool false])) w' := ⟨hb, .inr ⟨h, rfl⟩⟩

theorem one_cell (s : ByteArray) : ∀ u ∈ [Value.string s], u.oneCell' = true := by
  intro u hu
  simp at hu
  subst hu; rfl

theorem cells_one_new (w : World) (x : Value) (t : TypeId) : ∀ j u, [x][j]? = some u → (w.alloc (.cells #[x] t)).cell? ((⟨w.heap.size, 0, none⟩ : Addr).add j) = some u := by
  intro j u hj
  match j, hj with
  | 0, hj => simp at hj; subst hj; simp [Addr.add]

set_option maxHeartbeats 1000000 in
/-- tickedClaims. -/
theorem ticked_any (a0 : Option Addr) (c0 : Nat) (offered : List ByteArray) (a1 : Option Addr) (c1 : Nat) (ticked : List ByteArray) (w : World)
    (h0 : StrRow w a0 offered) (h1 : StrRow w a1 ticked) (m0 : offered.length ≤ 4096) (m1 : ticked.length ≤ 4096) (hS : Short ticked) :
    Calls Try.prog 15 #[.slice a0 offered.length c0, .slice a1 ticked.length c1] w fun e w' => TickEnd w offered ticked e w' := by
  obtain ⟨i0, hi, hz0, hz1, hz2⟩ := info_parts info9
  go_enter Try.func15, Try.ntmps15
  go_wp2_with (at_make; refine wpList_make_own _ rfl _ _ 22 rfl w.heap.size 9 i0 (.string ByteArray.empty) 1 Try.underlying22 hi hz0 hz1 _ _ _ ticked.length rfl rfl rfl (by rw [hz2]; omega) (by unfold maxLen; omega) (Nat.le_refl _) ?_)
  intro w1 hown hgrow
  have B0 := (Below.refl w.heap.size _).grown hgrow (Nat.le_refl _) (by intro k hk; cases hk)
  clear hgrow
  go_wp2
  go_loopw [6, 16] (fun v i wr => ∃ k : Nat, k ≤ ticked.length ∧ i = .int .i64 k ∧ v = .slice (some ⟨w.heap.size, 0, none⟩) k ticked.length ∧
      wr.ownsRow w.heap.size 9 1 (.slice (some ⟨w.heap.size, 0, none⟩) k ticked.length) k (nameCells (ticked.take k)) ∧
      Hid (allOk offered (ticked.take k) = true) ∧ Below w.heap.size w wr) (fun _ i _ => ticked.length - (intOf i).toNat)
  case atStart => exact ⟨0, Nat.zero_le _, rfl, rfl, hown, by simp [Hid, allOk], B0⟩
  case round =>
    clear hown B0
    obtain ⟨k, hk, rfl, rfl, hown, HA, B⟩ := hrel
    have hsz := B.size
    by_cases hlt : k < ticked.length
    · obtain ⟨b0, o0, rfl, hb0, hc0⟩ := h1 (by intro e; subst e; simp at hlt)
      have hcx : wr.cell? ⟨b0, o0 + k, none⟩ = some (.string (ticked.getD k ByteArray.empty)) := (B.cell (p := ⟨b0, o0 + k, none⟩) hb0).trans (hc0 k hlt)
      obtain ⟨t, ht⟩ : ∃ t, t = ticked.getD k ByteArray.empty := ⟨_, rfl⟩
      have hts : t.size ≤ 2097152 := by rw [ht, getD_at hlt]; exact hS _ (List.getElem_mem hlt)
      rw [← ht] at hcx
      have HT := hide ht
      clear ht hc0
      have h0' := h0.below B
      cases hp : isPre t with
      | false =>
        have hN : okV offered t = false := by simp [okV, hp]
        have HE := hide (tick_no (allOk_no hlt HT.out hN) B)
        clear hN
        go_wp2_with fail
        refine (cut_no t _ hts hp).mono ?_
        rintro e w' ⟨rfl, rfl⟩
        go_wp2_with fail
        go_ret2
        exact HE.out
      | true =>
        go_wp2_with fail
        refine (cut_yes t _ hts hp).mono ?_
        rintro e w' ⟨rfl, rfl⟩
        go_wp2_with fail
        refine (contains_any a0 c0 offered (rest t) _ h0' (by unfold maxLen; omega)).mono ?_
        rintro e w' ⟨rfl, rfl⟩
        cases hin : inS offered (rest t) with
        | false =>
          have hN : okV offered t = false := by simp [okV, hp, hin]
          have HE := hide (tick_no (allOk_no hlt HT.out hN) B)
          clear hN
          go_wp2_with fail
          go_ret2
          exact HE.out
        | true =>
          have hN : okV offered t = true := by simp [okV, hp, hin]
          have HA' := hide (allOk_step hlt HT.out HA.out hN)
          have HC := hide (nameCells_step hlt HT.out)
          clear hN
          go_wp2_with (at_builtin; refine wpList_append_fits _ rfl _ _ 22 rfl w.heap.size 9 i0 1 Try.underlying22 hi hz1 w.heap.size k ticked.length _ rfl (hown.alloc _) ⟨_, 0, none⟩ 1 1 [.string (rest t)] rfl rfl (cells_one_new _ _ _) (one_cell _) (by omega) ?_)
          intro w2 hown2 hgrow2
          have B2 := (B.alloc hsz _).grown hgrow2 (by simp; omega) (by intro j hj; cases hj; exact Nat.le_refl _)
          rw [← HC.out] at hown2
          clear hown B hgrow2 hcx h0' HA
          go_wp2
          go_roundw
          case rel => exact ⟨k + 1, by omega, by go_num, rfl, hown2, HA', B2⟩
          case measure => simp [intOf]; omega
    · have HE := hide (tick_yes (by omega) hown HA.out B)
      go_wp2
      go_ret2
      exact HE.out

set_option maxHeartbeats 400000 in
/-- ZZtickedClaims. -/
theorem zz_any (a0 : Option Addr) (c0 : Nat) (offered : List ByteArray) (a1 : Option Addr) (c1 : Nat) (ticked : List ByteArray) (w : World)
    (h0 : StrRow w a0 offered) (h1 : StrRow w a1 ticked) (m0 : offered.length ≤ 4096) (m1 : ticked.length ≤ 4096) (hS : Short ticked) :
    Calls Try.prog 10 #[.slice a0 offered.length c0, .slice a1 ticked.length c1] w fun e w' => TickEnd w offered ticked e w' := by
  go_enter Try.func10, Try.ntmps10
  go_wp2_with fail
  refine (ticked_any a0 c0 offered a1 c1 ticked w h0 h1 m0 m1 hS).mono ?_
  rintro e w' ⟨hb, ⟨ha, a, cap, rfl, r1⟩ | ⟨ha, rfl⟩⟩
  · go_wp2
    go_ret2
    exact ⟨hb, .inl ⟨ha, a, cap, rfl, r1⟩⟩
  · go_wp2
    go_ret2
    exact ⟨hb, .inr ⟨ha, rfl⟩⟩
end Go.Proofs.Qxb6000490a
