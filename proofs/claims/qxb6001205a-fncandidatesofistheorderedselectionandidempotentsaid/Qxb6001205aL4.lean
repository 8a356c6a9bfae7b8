/- The walk of the law FnCandidatesOfIsTheOrderedSelectionAndIdempotent. -/
import Derived.Test.Qxb6001205aL5
namespace Go.Proofs.Qxb6001205a
open Go.RowKit

theorem sel_sub (ids : List ByteArray) (cs : List Cand) : (sel ids cs).Sublist cs := List.filter_sublist

theorem sub_skip {a b : Cand} {la lb : List Cand} (h : (a :: la).Sublist (b :: lb)) (hne : a ≠ b) : (a :: la).Sublist lb := by
  cases h with
  | cons _ h => exact h
  | cons_cons _ h => exact absurd rfl hne

/-- Matching on: the head is not met. -/
theorem sub_next {ps cs : List Cand} {i j : Nat} (hi : i < ps.length) (hj : j < cs.length) (h : (ps.drop i).Sublist (cs.drop j)) (hne : ps.getD i noCand ≠ cs.getD j noCand) : (ps.drop i).Sublist (cs.drop (j + 1)) := by
  rw [List.drop_eq_getElem_cons hi, List.drop_eq_getElem_cons hj] at h
  rw [List.drop_eq_getElem_cons hi]
  have e1 : ps.getD i noCand = ps[i] := by simp [List.getD, hi]
  have e2 : cs.getD j noCand = cs[j] := by simp [List.getD, hj]
  rw [e1, e2] at hne
  exact sub_skip h hne

/-- Matching on: the head is met. -/
theorem sub_hit {ps cs : List Cand} {i j : Nat} (hi : i < ps.length) (hj : j < cs.length) (h : (ps.drop i).Sublist (cs.drop j)) (he : ps.getD i noCand = cs.getD j noCand) : (ps.drop (i + 1)).Sublist (cs.drop (j + 1)) := by
  rw [List.drop_eq_getElem_cons hi, List.drop_eq_getElem_cons hj] at h
  have e1 : ps.getD i noCand = ps[i] := by simp [List.getD, hi]
  have e2 : cs.getD j noCand = cs[j] := by simp [List.getD, hj]
  rw [e1, e2] at he
  rw [he] at h
  exact List.cons_sublist_cons.1 h

/-- There is something left to meet. -/
theorem sub_lt {ps cs : List Cand} {i j : Nat} (hi : i < ps.length) (h : (ps.drop i).Sublist (cs.drop j)) : j < cs.length := by
  have := h.length_le
  simp only [List.length_drop] at this
  omega

theorem sel_has {ids : List ByteArray} {cs ps : List Cand} (hp : ps = sel ids cs) {i : Nat} (hi : i < ps.length) : inS ids (ps.getD i noCand).1 = true := by
  have e1 : ps.getD i noCand = ps[i] := by simp [List.getD, hi]
  have hm : ps[i] ∈ sel ids cs := by rw [← hp]; exact List.getElem_mem hi
  rw [e1]
  unfold sel at hm
  rw [List.mem_filter] at hm
  exact hm.2

theorem sel_again {ids : List ByteArray} {cs ps : List Cand} (hp : ps = sel ids cs) : sel (ps.map (·.1)) cs = ps := by
  rw [hp]
  unfold sel
  apply List.filter_congr
  intro c hc
  rw [Bool.eq_iff_iff, inS_iff, inS_iff, List.mem_map]
  constructor
  · rintro ⟨d, hd, e⟩
    rw [List.mem_filter] at hd
    rw [← e]
    exact (inS_iff _ _).1 hd.2
  · intro h
    exact ⟨c, List.mem_filter.2 ⟨hc, (inS_iff _ _).2 h⟩, rfl⟩

theorem cand_ne {c d : Cand} (h : (c.1.toList == d.1.toList) = false ∨ (c.2.toList == d.2.toList) = false) : d ≠ c := by
  rintro rfl
  rcases h with h | h
  · rw [(str_eq_iff _ _).2 rfl] at h; cases h
  · rw [(str_eq_iff _ _).2 rfl] at h; cases h

theorem cand_eq {c d : Cand} (h1 : (c.1.toList == d.1.toList) = true) (h2 : (c.2.toList == d.2.toList) = true) : d = c := by
  obtain ⟨c1, c2⟩ := c
  obtain ⟨d1, d2⟩ := d
  have e1 := (str_eq_iff _ _).1 h1
  have e2 := (str_eq_iff _ _).1 h2
  simp only at e1 e2
  rw [e1, e2]

/-- ZZcandidatesOf, asked for the ids of a selection. -/
theorem zz_again (x y z : ByteArray) (n1 : Int) (a : Option Addr) (cap : Nat) (cs ps : List Cand) (ids : List ByteArray) (a2 : Option Addr) (c2 : Nat) (w : World)
    (h : CandRow w a cs) (h2 : StrRow w a2 (ps.map (·.1))) (hp : ps = sel ids cs) (m1 : cs.length ≤ 4096) (m2 : ps.length ≤ 4096) :
    Calls Try.prog 10 #[.agg #[.string x, .string y, .string z, .int .i64 n1, .slice a cs.length cap], .slice a2 ps.length c2] w fun e w' => ∃ a' cap', e = .returned (.slice (some a') ps.length cap') ∧ CandRow w' (some a') ps ∧ Below w.heap.size w w' := by
  have hl : (ps.map (·.1)).length = ps.length := List.length_map _
  have C := zz_any x y z n1 a cap cs a2 c2 (ps.map (·.1)) w h h2 m1 (by omega)
  rw [hl] at C
  refine C.mono ?_
  rintro e w' ⟨a', cap', rs, rfl, hr, hrs, hb⟩
  have er := hrs.out
  rw [sel_again hp] at er
  subst er
  exact ⟨a', cap', rfl, hr, hb⟩

theorem map_getD (ps : List Cand) (j : Nat) (h : j < ps.length) : (ps.map (·.1)).getD j ByteArray.empty = (ps.getD j noCand).1 := by
  simp [List.getD, h]

theorem below_ofdrewN {w w' : World} {n : Nat} (h : Below w.heap.size (w.drewN n) w') : Below w.heap.size w w' := ⟨h.os, h.tape, h.output, h.size, h.block⟩

set_option maxHeartbeats 4000000 in
set_option maxRecDepth 100000 in
theorem law4 (a0 : Option Addr) (c0 : Nat) (s0 : List ByteArray) (a1 : Option Addr) (c1 : Nat) (s1 : List ByteArray) (b0 : Option Addr) (d0 : Nat) (ids : List ByteArray) (w : World)
    (h0 : StrRow w a0 s0) (h1 : StrRow w a1 s1) (h2 : StrRow w b0 ids) (m0 : s0.length ≤ maxLen) (m1 : s1.length ≤ maxLen) (m2 : ids.length ≤ maxLen) :
    Calls Try.prog 4 #[.slice a0 s0.length c0, .slice a1 s1.length c1, .slice b0 ids.length d0] w fun e w' => e = .returned (.bool true) ∧ Below w.heap.size w w' := by
  have q26 : ∀ (w : World) (a : Option Addr) (n c n' c' : Nat), (binOp .eql 26 (.slice a n c) (.slice none n' c')).run Try.prog w = .ok (.bool a.isNone) w := fun w a n c n' c' => Lib.run_eql_slice_nil w _ _ a n c n' c' Try.underlying26
  go_enter Try.func4, Try.ntmps4
  go_wp2_with fail
  refine (guard3_any a0 c0 s0 a1 c1 s1 b0 d0 ids w h0 h1 h2 m0 m1 m2).mono ?_
  rintro e w' ⟨⟨b, rfl⟩, rfl⟩
  cases b with
  | false =>
    go_wp2_with fail
    go_ret
    exact ⟨rfl, Below.refl _ _⟩
  | true =>
  go_wp2_with fail
  refine (tooBig_any a0 c0 s0 a1 c1 s1 b0 d0 ids _ h0 h1 h2 m0 m1 m2).mono ?_
  rintro e w' ⟨⟨b, rfl, hb⟩, rfl⟩
  cases b with
  | true =>
    go_wp2_with fail
    go_ret
    exact ⟨rfl, Below.refl _ _⟩
  | false =>
  obtain ⟨k0, k1, k2⟩ := hb rfl
  clear hb m0 m1 m2
  go_wp2_with fail
  refine (copy_any a0 c0 s0 _ h0 k0).mono ?_
  rintro e w1 ⟨a2, c2, rfl, r2, B1⟩
  have r1 := h1.below B1
  have i1 := h2.below B1
  clear h0 h1 h2
  go_wp2_with fail
  refine (copy_any a1 c1 s1 _ r1 k1).mono ?_
  rintro e w2 ⟨a3, c3, rfl, r3, B2⟩
  have r2' := r2.below B2
  have i2 := i1.below B2
  have B12 := below_then B1 B2
  clear r1 r2 i1 B1 B2
  go_wp2_with fail
  refine (copy_any b0 d0 ids _ i2 k2).mono ?_
  rintro e w2' ⟨b1, d1, rfl, i3, B2'⟩
  have r2 := r2'.below B2'
  have r3' := r3.below B2'
  have B13 := below_then B12 B2'
  clear i2 r2' r3 B12 B2'
  go_wp2_with fail
  refine (group_any a2 c2 s0 a3 c3 s1 _ r2 r3' k0 k1).mono ?_
  rintro e w3 ⟨x, y, z, ga, gc, cs, rfl, g1, hcs, B3⟩
  have B03 := below_then B13 B3
  have i4 := i3.below B3
  clear r2 r3' i3 B13 B3
  have hcl : cs.length ≤ 4096 := by rw [hcs.out, grp_length]; exact k0
  clear hcs
  have hA : Below w3.heap.size w3 (w3.alloc (.cells #[.string x, .string y, .string z, .int .i64 1, .slice ga cs.length gc] 28)) := (Below.refl _ _).alloc (Nat.le_refl _) _
  have g2 := g1.below hA
  have i5 := i4.below hA
  have B04 := below_then B03 hA
  have F4 := Five.new w3 (.string x) (.string y) (.string z) (.int .i64 1) (.slice ga cs.length gc) 28
  clear g1 i4 B03 hA
  go_wp2_with fail
  refine (zz_any x y z 1 ga gc cs b1 d1 ids _ g2 i5 hcl k2).mono ?_
  rintro e w5 ⟨pa, pc, ps, rfl, p5, hps, B5⟩
  have F5 := F4.below B5
  have g5 := g2.below B5
  have i6 := i5.below B5
  have B05 := below_then B04 B5
  clear g2 i5 B04 F4 B5
  have hpl : ps.length ≤ cs.length := by rw [hps.out]; exact sel_le _ _
  have HS0 : Hid ((ps.drop 0).Sublist (cs.drop 0)) := by rw [hps.out]; exact sel_sub ids cs
  obtain ⟨q, q0, q1, q2, q3, q4⟩ := F5
  have hd : decide (cs.length < ps.length) = false := by simp; omega
  go_wp2_with fail
  clear hd
  go_loopw [9, 10] (fun vj vi wr => ∃ j i n : Nat, i ≤ ps.length ∧ vi = .int .i64 i ∧ vj = .int .i64 j ∧ j ≤ cs.length ∧ Hid ((ps.drop i).Sublist (cs.drop j)) ∧ wr = w5.drewN n) (fun _ vi _ => ps.length - (intOf vi).toNat)
  case atStart => exact ⟨0, 0, 0, Nat.zero_le _, rfl, rfl, Nat.zero_le _, HS0, rfl⟩
  case round =>
    obtain ⟨j, i, n, hi, rfl, rfl, hj, HS, rfl⟩ := hrel
    by_cases hlt : i < ps.length
    · have hjl := sub_lt hlt HS.out
      obtain ⟨b2, o2, hpa, u1, u2⟩ := p5.read hlt
      obtain rfl := Option.some.inj hpa
      obtain ⟨c, hc⟩ : ∃ c, c = ps.getD i noCand := ⟨_, rfl⟩
      have hin : inS ids c.1 = true := by rw [hc]; exact sel_has hps.out hlt
      obtain ⟨s, t⟩ := c
      rw [← hc] at u1 u2
      have HC := hide hc
      clear hc
      go_wp2_with fail
      refine (has_any b1 d1 ids s _ (by exact i6) (by unfold maxLen; omega)).mono ?_
      rintro e w' ⟨rfl, rfl⟩
      rw [show inS ids s = true from hin]
      clear hin
      go_wp2_with fail
      go_loopw [9] (fun vj wr => ∃ j n : Nat, vj = .int .i64 j ∧ j < cs.length ∧ Hid ((ps.drop i).Sublist (cs.drop j)) ∧ wr = w5.drewN n) (fun vj _ => cs.length - (intOf vj).toNat)
      case atStart => exact ⟨j, n, rfl, hjl, HS, rfl⟩
      case round =>
        clear HS hj hjl n
        obtain ⟨j, n, rfl, hjl, HS, rfl⟩ := hrel
        obtain ⟨b3, o3, rfl, v1, v2⟩ := g5.read hjl
        obtain ⟨c, hc⟩ : ∃ c, c = cs.getD j noCand := ⟨_, rfl⟩
        obtain ⟨s', t'⟩ := c
        rw [← hc] at v1 v2
        have HD := hide hc
        clear hc
        have hji : (j : Int) < (cs.length : Int) := by omega
        have hii : (i : Int) < (ps.length : Int) := by omega
        cases e1 : (s'.toList == s.toList) with
        | false =>
          have HN : Hid ((ps.drop i).Sublist (cs.drop (j + 1))) := sub_next hlt hjl HS.out (by rw [← HC.out, ← HD.out]; exact cand_ne (.inl e1))
          have hj2 := sub_lt hlt HN.out
          go_wp2
          go_quiet (fail)
          go_wp2
          go_roundw
          case rel => exact ⟨j + 1, _, by go_num, hj2, HN, rfl⟩
          case measure => simp [intOf]; omega
        | true =>
          cases e2 : (t'.toList == t.toList) with
          | false =>
            have HN : Hid ((ps.drop i).Sublist (cs.drop (j + 1))) := sub_next hlt hjl HS.out (by rw [← HC.out, ← HD.out]; exact cand_ne (.inr e2))
            have hj2 := sub_lt hlt HN.out
            go_wp2
            go_quiet (fail)
            go_wp2
            go_roundw
            case rel => exact ⟨j + 1, _, by go_num, hj2, HN, rfl⟩
            case measure => simp [intOf]; omega
          | true =>
            have HN : Hid ((ps.drop (i + 1)).Sublist (cs.drop (j + 1))) := sub_hit hlt hjl HS.out (by rw [← HC.out, ← HD.out]; exact cand_eq e1 e2)
            have hne : ((j : Int) == (cs.length : Int)) = false := beq_eq_false_iff_ne.2 (by omega)
            go_wp2
            go_quiet (fail)
            go_wp2
            go_roundw
            case rel => exact ⟨j + 1, i + 1, _, by omega, by go_num, by go_num, by omega, HN, rfl⟩
            case measure => simp [intOf]; omega
    · clear HS HS0 hj
      go_wp2_with fail
      clear hi hlt
      go_loopw [11, 12] (fun vc vk wr => ∃ k : Nat, k ≤ cs.length ∧ vk = .int .i64 k ∧ vc = .int .i64 (sel ids (cs.take k)).length ∧ wr = w5.drewN n) (fun _ vk _ => cs.length - (intOf vk).toNat)
      case atStart => exact ⟨0, Nat.zero_le _, rfl, rfl, rfl⟩
      case round =>
        obtain ⟨k, hk, rfl, rfl, rfl⟩ := hrel
        have htl := take_len cs k ids
        by_cases hkl : k < cs.length
        · obtain ⟨b3, o3, rfl, v1, v2⟩ := g5.read hkl
          obtain ⟨c, hc⟩ : ∃ c, c = cs.getD k noCand := ⟨_, rfl⟩
          obtain ⟨s', t'⟩ := c
          rw [← hc] at v1 v2
          have HD := hide hc
          clear hc
          go_wp2_with fail
          refine (has_any b1 d1 ids s' _ (by exact i6) (by unfold maxLen; omega)).mono ?_
          rintro e w' ⟨rfl, rfl⟩
          cases hin : inS ids s' with
          | false =>
            have HR := hide (sel_no hkl HD.out hin)
            go_wp2
            go_roundw
            case rel => exact ⟨k + 1, by omega, by go_num, by rw [HR.out], by first | rfl | trivial⟩
            case measure => simp [intOf]; omega
          | true =>
            have HR := hide (sel_yes hkl HD.out hin)
            go_wp2
            go_roundw
            case rel => exact ⟨k + 1, by omega, by go_num, by rw [HR.out, List.length_append]; go_num, by first | rfl | trivial⟩
            case measure => simp [intOf]; omega
        · have ek : k = cs.length := by omega
          subst ek
          rw [List.take_length] at htl
          rw [List.take_length, ← hps.out]
          obtain ⟨i0, ti, hz0, hz1, hz2⟩ := info_parts info9
          clear htl
          go_wp2_with (at_make; refine wpList_make_full _ rfl _ _ 22 rfl w5.heap.size 9 i0 (.string ByteArray.empty) 1 Try.underlying22 ti hz0 hz1 _ _ _ _ ps.length rfl rfl rfl rfl (by rw [hz2]; omega) (by unfold maxLen; omega) (Nat.le_refl _) ?_)
          intro w6 hown hgrow
          have F0 := Fill.start hown (fun j => (ps.getD j noCand).1)
          have D0 : Below w5.heap.size w5 w6 := below_ofdrewN ((Below.refl _ _).grown hgrow (Nat.le_refl _) (by intro k hk; cases hk))
          clear hown hgrow
          go_wp2
          go_loopw [14] (fun vi wr => ∃ k : Nat, k ≤ ps.length ∧ vi = .int .i64 k ∧ Fill wr w5.heap.size ps.length k (fun j => (ps.getD j noCand).1) ∧ Below w5.heap.size w5 wr) (fun vi _ => ps.length - (intOf vi).toNat)
          case atStart => exact ⟨0, Nat.zero_le _, rfl, F0, D0⟩
          case round =>
            clear F0 D0
            obtain ⟨k, hk', rfl, F, D⟩ := hrel
            by_cases hlt : k < ps.length
            · obtain ⟨b2, o2, hpa, hb2, hc2⟩ := p5 (by intro e; subst e; simp at hlt)
              obtain rfl := Option.some.inj hpa
              have hcx : wr.cell? ⟨b2, o2 + k * 2, none⟩ = some (.string (ps.getD k noCand).1) := (D.cell (p := ⟨b2, o2 + k * 2, none⟩) hb2).trans (hc2 k hlt).1
              obtain ⟨t, ht⟩ : ∃ t, t = (ps.getD k noCand).1 := ⟨_, rfl⟩
              rw [← ht] at hcx
              have HT := hide ht
              obtain ⟨u, hu⟩ := F.cell hlt
              have hf := F.frozen
              clear ht hc2
              go_wp2
              go_roundw
              case rel => exact ⟨k + 1, by omega, by go_num, F.store hlt HT.out, D.setCell (Nat.le_refl _) _⟩
              case measure => simp [intOf]; omega
            · have ek : k = ps.length := by omega
              subst ek
              have R := F.done (ss := ps.map (·.1)) (List.length_map _) (fun j hj => map_getD ps j hj)
              obtain ⟨_, t0, t1, t2, t3, t4⟩ := Five.below ⟨q, q0, q1, q2, q3, q4⟩ D
              have g7 := g5.below D
              have p7 := p5.below D
              have D7 := below_then B05 D
              clear F D g5 p5 B05 q0 q1 q2 q3 q4
              go_wp2_with fail
              refine (zz_again x y z 1 ga gc cs ps ids _ _ _ (by exact g7) (by exact R) hps.out hcl (by omega)).mono ?_
              rintro e w8 ⟨ra, rc, rfl, r8, B8⟩
              have p8 := p7.below B8
              have D8 := below_then D7 B8
              go_wp2_with fail
              refine (same_any (some pa) (some ra) _ _ ps _ (by exact p8) (by exact r8) (by unfold maxLen; omega)).mono ?_
              rintro e w9 ⟨rfl, nq, rfl⟩
              go_wp2_with fail
              go_ret
              exact ⟨rfl, below_drewN D8 _⟩
end Go.Proofs.Qxb6001205a
