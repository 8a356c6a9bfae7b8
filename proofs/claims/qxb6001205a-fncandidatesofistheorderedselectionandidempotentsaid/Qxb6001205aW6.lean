/- The walk of candidatesOf. -/
import Derived.Test.Qxb6001205aW5
namespace Go.Proofs.Qxb6001205a
open Go.RowKit

/-- The candidates whose ids are among ids. -/
def sel (ids : List ByteArray) (cs : List Cand) : List Cand := cs.filter fun c => inS ids c.1

theorem sel_le (ids : List ByteArray) (cs : List Cand) : (sel ids cs).length ≤ cs.length := List.length_filter_le _ _

theorem cand_take (cs : List Cand) (k : Nat) (h : k < cs.length) : cs.take (k + 1) = cs.take k ++ [cs.getD k noCand] := by
  rw [List.take_succ_eq_append_getElem h]; simp [List.getD, h]

theorem sel_yes {ids : List ByteArray} {cs : List Cand} {k : Nat} {s t : ByteArray} (hk : k < cs.length) (hc : (s, t) = cs.getD k noCand) (hi : inS ids s = true) :
    sel ids (cs.take (k + 1)) = sel ids (cs.take k) ++ [(s, t)] := by
  rw [cand_take cs k hk, ← hc]; simp [sel, List.filter_append, hi]

theorem sel_no {ids : List ByteArray} {cs : List Cand} {k : Nat} {s t : ByteArray} (hk : k < cs.length) (hc : (s, t) = cs.getD k noCand) (hi : inS ids s = false) :
    sel ids (cs.take (k + 1)) = sel ids (cs.take k) := by
  rw [cand_take cs k hk, ← hc]; simp [sel, List.filter_append, hi]

theorem take_len (cs : List Cand) (k : Nat) (ids : List ByteArray) : (sel ids (cs.take k)).length ≤ k :=
  Nat.le_trans (sel_le _ _) (List.length_take_le _ _)

theorem cells_two_at (w : World) (x y : Value) (t : TypeId) (B : Nat) (hB : B = w.heap.size) : ∀ j u, [x, y][j]? = some u → (w.alloc (.cells #[x, y] t)).cell? ((⟨B, 0, none⟩ : Addr).add j) = some u := by
  subst hB; exact cells_two_new w x y t

/-- What candidatesOf ends in. -/
def SelEnd (w : World) (ids : List ByteArray) (cs : List Cand) (e : Ending) (w' : World) : Prop :=
  ∃ a cap rs, e = .returned (.slice (some a) (List.length rs) cap) ∧ CandRow w' (some a) rs ∧ Hid (rs = sel ids cs) ∧ Below w.heap.size w w'

theorem sel_end {w w' : World} {ids : List ByteArray} {cs : List Cand} {base : Nat} {v : Value} (h : w'.ownsRow base 34 2 v (sel ids cs).length (flat (sel ids cs))) (hn : v ≠ .slice none 0 0) (hb : Below w.heap.size w w') :
    SelEnd w ids cs (.returned v) w' := by
  rcases h.2 with ⟨h', _⟩ | ⟨g, cap, cur, rfl, _⟩
  · exact absurd h' hn
  · exact ⟨⟨g, 0, none⟩, cap, sel ids cs, rfl, CandRow.ofOwn h, rfl, hb⟩

theorem ownBlock_ge {w : World} {base : Nat} {e : TypeId} {size : Nat} {v : Value} {n : Nat} {xs : List Value} (h : w.ownsRow base e size v n xs) : ∀ k, v.ownBlock = some k → base ≤ k := by
  intro k hk
  rcases h.2 with ⟨rfl, _⟩ | ⟨g, cap, cur, rfl, hg, _⟩
  · cases hk
  · cases hk; exact hg

set_option maxHeartbeats 400000 in
/-- candidatesOf. -/
theorem cands_any (x y z : ByteArray) (n1 : Int) (a : Option Addr) (cap : Nat) (cs : List Cand) (a2 : Option Addr) (c2 : Nat) (ids : List ByteArray) (w : World)
    (h : CandRow w a cs) (h2 : StrRow w a2 ids) (m1 : cs.length ≤ 4096) (m2 : ids.length ≤ 4096) :
    Calls Try.prog 17 #[.agg #[.string x, .string y, .string z, .int .i64 n1, .slice a cs.length cap], .slice a2 ids.length c2] w fun e w' => SelEnd w ids cs e w' := by
  obtain ⟨i0, hi, hz0, hz1, hz2⟩ := info_parts info34
  go_enter Try.func17, Try.ntmps17
  go_wp2_with (at_make; refine wpList_make_own _ rfl _ _ 26 rfl (w.heap.size + 1) 34 i0 (.agg #[.string ByteArray.empty, .string ByteArray.empty]) 2 Try.underlying26 hi hz0 hz1 _ _ _ ids.length rfl rfl rfl (by rw [hz2]; omega) (by unfold maxLen; omega) (by simp) ?_)
  intro w1 hown hgrow
  have B0 := (Below.refl (w.heap.size + 1) _).grown hgrow (by simp) (by intro k hk; cases hk)
  obtain ⟨⟨q0, q1, q2, q3, q4⟩, qf⟩ := five_cells B0
  clear hgrow
  go_wp2
  clear q0 q1 q2 q3 q4 qf
  go_loopw [5, 14] (fun v i wr => ∃ k : Nat, k ≤ cs.length ∧ i = .int .i64 k ∧ v ≠ .slice none 0 0 ∧
      wr.ownsRow (w.heap.size + 1) 34 2 v (sel ids (cs.take k)).length (flat (sel ids (cs.take k))) ∧
      Below w.heap.size w wr ∧ w.heap.size + 1 ≤ wr.heap.size) (fun _ i _ => cs.length - (intOf i).toNat)
  case atStart => exact ⟨0, Nat.zero_le _, rfl, by simp, hown, ((Below.refl _ _).alloc (Nat.le_refl _) _).trans (B0.mono (Nat.le_succ _)), by have := B0.size; simpa using this⟩
  case round =>
    clear hown B0
    obtain ⟨k, hk, rfl, hne, hown, B, hsz⟩ := hrel
    by_cases hlt : k < cs.length
    · obtain ⟨b0, o0, rfl, hb0, hc0⟩ := h (by intro e; subst e; simp at hlt)
      obtain ⟨c, hc⟩ : ∃ c, c = cs.getD k noCand := ⟨_, rfl⟩
      obtain ⟨s, t⟩ := c
      have p1 : wr.cell? ⟨b0, o0 + k * 2, none⟩ = some (.string s) := by
        rw [B.cell (p := ⟨b0, o0 + k * 2, none⟩) hb0, (hc0 k hlt).1, ← hc]
      have p2 : wr.cell? ⟨b0, o0 + k * 2 + 1, none⟩ = some (.string t) := by
        rw [B.cell (p := ⟨b0, o0 + k * 2 + 1, none⟩) hb0, (hc0 k hlt).2, ← hc]
      have HC := hide hc
      clear hc hc0
      have hB2 : Below w.heap.size w (wr.alloc (.cells #[.string s, .string t] 34)) := B.alloc (by omega) _
      have h2' := h2.below hB2
      have hown' := hown.alloc (.cells #[.string s, .string t] 34)
      have htl := take_len cs k ids
      have hc1 : (wr.alloc (.cells #[.string s, .string t] 34)).cell? ⟨wr.heap.size, 0, none⟩ = some (.string s) := by rw [World.cell?_alloc_at _ _ _ _ rfl]; rfl
      have hc2 : (wr.alloc (.cells #[.string s, .string t] 34)).cell? ⟨wr.heap.size, 1, none⟩ = some (.string t) := by rw [World.cell?_alloc_at _ _ _ _ rfl]; rfl
      have hsz2 : w.heap.size + 1 ≤ (wr.alloc (.cells #[.string s, .string t] 34)).heap.size := by simp; omega
      go_wp2_with fail
      refine (contains_any a2 c2 ids s _ h2' (by unfold maxLen; omega)).mono ?_
      rintro e w' ⟨rfl, rfl⟩
      clear h2'
      cases hin : inS ids s with
      | false =>
        have R := sel_no hlt HC.out hin
        have HR := hide R
        clear R hc1 hc2 p1 p2
        go_wp2
        go_roundw
        case rel => exact ⟨k + 1, by omega, by go_num, hne, by rw [HR.out]; exact hown', hB2, hsz2⟩
        case measure => simp [intOf]; omega
      | true =>
        have R := sel_yes hlt HC.out hin
        have HR := hide R
        clear R p1 p2
        go_wp2_with (at_builtin; refine wpList_append_own _ rfl _ _ 26 rfl (w.heap.size + 1) 34 i0 (.agg #[.string ByteArray.empty, .string ByteArray.empty]) 2 32 Try.underlying26 hi hz0 hz1 hz2 rfl (by decide) _ _ _ rfl (hown'.alloc _) ⟨wr.heap.size + 1, 0, none⟩ 1 1 [.string s, .string t] rfl rfl (cells_two_at _ _ _ _ _ (by simp)) (two_one _ _) (by unfold maxLen; omega) (by omega) (by simp; omega) ?_)
        intro v' w2 hown2 hgrow2 hnil
        have hb2 : Below w.heap.size w w2 := (hB2.alloc (by omega) _).grown hgrow2 (by simp; omega) (fun j hj => Nat.le_trans (Nat.le_succ _) (ownBlock_ge hown j hj))
        have hs2 : w.heap.size + 1 ≤ w2.heap.size := by have := hgrow2.size; simp at this; omega
        have hn2 : v' ≠ .slice none 0 0 := fun e => by first | exact hnil e | (have := (hnil.1 e).2; omega)
        have hown3 : w2.ownsRow (w.heap.size + 1) 34 2 v' (sel ids (cs.take (k + 1))).length (flat (sel ids (cs.take (k + 1)))) := by
          rw [HR.out, flat_append, List.length_append]; exact hown2
        clear hown hown' hown2 hgrow2 hnil hB2 B hc1 hc2 hne
        go_wp2
        go_roundw
        case rel => exact ⟨k + 1, by omega, by go_num, hn2, hown3, hb2, hs2⟩
        case measure => simp [intOf]; omega
    · go_wp2
      go_ret
      have e : k = cs.length := by omega
      subst e
      rw [List.take_length] at hown
      exact sel_end hown hne B

theorem SelEnd.since {w0 w1 w' : World} {ids : List ByteArray} {cs : List Cand} {e : Ending} (h : SelEnd w1 ids cs e w') (hb : Below w0.heap.size w0 w1) : SelEnd w0 ids cs e w' := by
  obtain ⟨a, cap, rs, h1, h2, h3, h4⟩ := h
  exact ⟨a, cap, rs, h1, h2, h3, hb.trans (h4.mono hb.size)⟩

set_option maxHeartbeats 400000 in
/-- ZZcandidatesOf. -/
theorem zz_any (x y z : ByteArray) (n1 : Int) (a : Option Addr) (cap : Nat) (cs : List Cand) (a2 : Option Addr) (c2 : Nat) (ids : List ByteArray) (w : World)
    (h : CandRow w a cs) (h2 : StrRow w a2 ids) (m1 : cs.length ≤ 4096) (m2 : ids.length ≤ 4096) :
    Calls Try.prog 10 #[.agg #[.string x, .string y, .string z, .int .i64 n1, .slice a cs.length cap], .slice a2 ids.length c2] w fun e w' => SelEnd w ids cs e w' := by
  have hb : Below w.heap.size w (w.alloc (.cells #[.string x, .string y, .string z, .int .i64 n1, .slice a cs.length cap] 28)) := (Below.refl _ _).alloc (Nat.le_refl _) _
  have h' := h.below hb
  have h2' := h2.below hb
  go_enter Try.func10, Try.ntmps10
  go_wp2_with fail
  refine (cands_any x y z n1 a cap cs a2 c2 ids _ h' h2' m1 m2).mono ?_
  intro e w' hE
  have hE' := hE.since hb
  obtain ⟨ra, rc, rs, rfl, r1, r2, r3⟩ := hE'
  clear hE
  go_wp2_with fail
  go_ret
  exact ⟨ra, rc, rs, rfl, r1, r2, r3⟩
end Go.Proofs.Qxb6001205a
