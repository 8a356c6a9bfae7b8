/- The walk of the law FnTickedClaimsAcceptsEveryOfferedChoice. -/
import Derived.Test.Qxb6000490aM4
namespace Go.Proofs.Qxb6000490a
open Go.RowKit

theorem ix_of (z : Int) (n : Nat) (hn : (0 : Int) < (n : Int)) : ∃ m : Nat, z % (n : Int) = (m : Int) ∧ m < n :=
  ⟨(z % (n : Int)).toNat, by have := Int.emod_nonneg z (show (n : Int) ≠ 0 by omega); omega, by have := Int.emod_lt_of_pos z hn; have := Int.emod_nonneg z (show (n : Int) ≠ 0 by omega); omega⟩

/-- The index that the j-th pick comes to. -/
def pickAt (zs : List Int) (n j : Nat) : Nat := (zs.getD j 0 % (n : Int)).toNat
/-- The j-th ticked value. -/
def tickAt (s0 : List ByteArray) (zs : List Int) (j : Nat) : ByteArray := (⟨#[99, 108, 97, 105, 109, 58]⟩ : ByteArray) ++ s0.getD (pickAt zs s0.length j) ByteArray.empty
/-- All ticked values. -/
def ticks (s0 : List ByteArray) (zs : List Int) : List ByteArray := (List.range zs.length).map (tickAt s0 zs)

theorem ticks_length (s0 : List ByteArray) (zs : List Int) : (ticks s0 zs).length = zs.length := by simp [ticks]

theorem ticks_at (s0 : List ByteArray) (zs : List Int) (j : Nat) (h : j < zs.length) : (ticks s0 zs).getD j ByteArray.empty = tickAt s0 zs j := by
  simp [ticks, List.getD, h]

theorem pick_lt (zs : List Int) (n j : Nat) (hn : (0 : Int) < (n : Int)) : pickAt zs n j < n := by
  unfold pickAt
  have := Int.emod_lt_of_pos (zs.getD j 0) hn
  have := Int.emod_nonneg (zs.getD j 0) (show (n : Int) ≠ 0 by omega)
  omega

theorem pick_int (zs : List Int) (n j : Nat) (hn : (0 : Int) < (n : Int)) {z : Int} (hz : z = zs.getD j 0) : z % (n : Int) = (pickAt zs n j : Int) := by
  unfold pickAt
  rw [hz]
  have := Int.emod_nonneg (zs.getD j 0) (show (n : Int) ≠ 0 by omega)
  omega

theorem isPre_join (o : ByteArray) : isPre ((⟨#[99, 108, 97, 105, 109, 58]⟩ : ByteArray) ++ o) = true := by
  obtain ⟨⟨l⟩⟩ := o
  have e : (⟨#[99, 108, 97, 105, 109, 58]⟩ : ByteArray) ++ (⟨⟨l⟩⟩ : ByteArray) = ⟨([99, 108, 97, 105, 109, 58] ++ l).toArray⟩ := ByteArray.mk_append_mk [99, 108, 97, 105, 109, 58] l
  rw [e]
  unfold isPre
  rw [ByteArray.toList_eq, ByteArray.extract_mk]
  simp only [Bool.and_eq_true, decide_eq_true_eq, beq_iff_eq]
  refine ⟨?_, by simp⟩
  show 6 ≤ ([99, 108, 97, 105, 109, 58] ++ l).length
  simp only [List.length_append, List.length_cons, List.length_nil]
  omega

theorem rest_join (o : ByteArray) : rest ((⟨#[99, 108, 97, 105, 109, 58]⟩ : ByteArray) ++ o) = o := by
  have h := join_rest (isPre_join o)
  generalize hr : rest ((⟨#[99, 108, 97, 105, 109, 58]⟩ : ByteArray) ++ o) = r at h
  obtain ⟨⟨l⟩⟩ := o
  obtain ⟨⟨m⟩⟩ := r
  have e1 : (⟨#[99, 108, 97, 105, 109, 58]⟩ : ByteArray) ++ (⟨⟨l⟩⟩ : ByteArray) = ⟨([99, 108, 97, 105, 109, 58] ++ l).toArray⟩ := ByteArray.mk_append_mk [99, 108, 97, 105, 109, 58] l
  have e2 : (⟨#[99, 108, 97, 105, 109, 58]⟩ : ByteArray) ++ (⟨⟨m⟩⟩ : ByteArray) = ⟨([99, 108, 97, 105, 109, 58] ++ m).toArray⟩ := ByteArray.mk_append_mk [99, 108, 97, 105, 109, 58] m
  rw [e1, e2] at h
  simp at h
  rw [h]

theorem ticks_ok (s0 : List ByteArray) (zs : List Int) (hn : (0 : Int) < (s0.length : Int)) : allOk s0 (ticks s0 zs) = true := by
  unfold allOk
  rw [List.all_eq_true]
  intro v hv
  unfold ticks at hv
  rw [List.mem_map] at hv
  obtain ⟨j, _, rfl⟩ := hv
  rw [okV_iff]
  unfold tickAt
  refine ⟨isPre_join _, ?_⟩
  rw [rest_join, getD_at (pick_lt zs s0.length j hn)]
  exact List.getElem_mem _

theorem ticks_short (s0 : List ByteArray) (zs : List Int) (hn : (0 : Int) < (s0.length : Int)) (hS : Tight s0) : Short (ticks s0 zs) := by
  intro v hv
  unfold ticks at hv
  rw [List.mem_map] at hv
  obtain ⟨j, _, rfl⟩ := hv
  unfold tickAt
  rw [ByteArray.size_append, getD_at (pick_lt zs s0.length j hn)]
  have h1 := hS _ (List.getElem_mem (pick_lt zs s0.length j hn))
  have h2 : (⟨#[99, 108, 97, 105, 109, 58]⟩ : ByteArray).size = 6 := rfl
  omega

/-- ZZtickedClaims, all values offered. -/
theorem zz_yes (a0 : Option Addr) (c0 : Nat) (offered : List ByteArray) (a1 : Option Addr) (c1 n : Nat) (ticked : List ByteArray) (w : World)
    (h0 : StrRow w a0 offered) (h1 : StrRow w a1 ticked) (m0 : offered.length ≤ 4096) (hn : ticked.length = n) (m1 : n ≤ 4096) (hS : Short ticked) (hA : allOk offered ticked = true) :
    Calls Try.prog 10 #[.slice a0 offered.length c0, .slice a1 n c1] w fun e w' => ∃ a cap, e = .returned (.tuple #[.slice (some a) n cap, .bool true]) ∧ StrRow w' (some a) (ticked.map rest) ∧ Below w.heap.size w w' := by
  subst hn
  refine (zz_any a0 c0 offered a1 c1 ticked w h0 h1 m0 m1 hS).mono ?_
  rintro e w' ⟨hb, ⟨_, a, cap, rfl, r⟩ | ⟨ha, _⟩⟩
  · exact ⟨a, cap, rfl, r, hb⟩
  · rw [hA] at ha; cases ha

theorem copy_none (a : Option Addr) (c : Nat) (w : World) : Calls Try.prog 8 #[.slice a 0 c] w fun e w' => ∃ a' c', e = .returned (.slice a' 0 c') ∧ Below w.heap.size w w' := by
  refine (copy_any a c [] w (StrRow.nil _ _) (by simp)).mono ?_
  rintro e w' ⟨a', c', rfl, _, hb⟩
  exact ⟨a', c', rfl, hb⟩

theorem zz_none (a0 : Option Addr) (c0 : Nat) (a1 : Option Addr) (c1 : Nat) (w : World) :
    Calls Try.prog 10 #[.slice a0 0 c0, .slice a1 0 c1] w fun e w' => ∃ a cap, e = .returned (.tuple #[.slice (some a) 0 cap, .bool true]) ∧ Below w.heap.size w w' := by
  refine (zz_yes a0 c0 [] a1 c1 0 [] w (StrRow.nil _ _) (StrRow.nil _ _) (by simp) rfl (by simp) (fun s hs => absurd hs List.not_mem_nil) rfl).mono ?_
  rintro e w' ⟨a, cap, rfl, _, hb⟩
  exact ⟨a, cap, rfl, hb⟩

theorem make_none (w : World) : (Instr.makeSlice 22 (.int .i64 0) (.int .i64 0)).run Try.prog w = .ok (.slice (some ⟨w.heap.size, 0, none⟩) 0 0) (w.alloc (.cells #[] 9)) := by kernel_rfl

set_option maxHeartbeats 1000000 in
set_option maxRecDepth 100000 in
theorem law3 (a0 : Option Addr) (c0 : Nat) (s0 : List ByteArray) (a1 : Option Addr) (c1 : Nat) (zs : List Int) (w : World)
    (h0 : StrRow w a0 s0) (h1 : NumRow w a1 zs) (m0 : s0.length ≤ maxLen) (hz : ∀ z ∈ zs, 0 ≤ z ∧ z ≤ 65535) :
    Calls Try.prog 3 #[.slice a0 s0.length c0, .slice a1 zs.length c1] w fun e w' => e = .returned (.bool true) ∧ Below w.heap.size w w' := by
  by_cases k0 : s0.length ≤ 4096
  · by_cases k1 : zs.length ≤ 4096
    · go_enter Try.func3, Try.ntmps3
      go_wp2_with fail
      refine (guard1_any a0 c0 s0 a1 c1 zs.length w h0 m0).mono ?_
      rintro e w' ⟨⟨b, rfl, hS⟩, rfl⟩
      cases b with
      | false =>
        go_wp2_with fail
        go_ret
        exact ⟨rfl, Below.refl _ _⟩
      | true =>
      obtain ⟨T0, _⟩ := hS rfl
      clear hS m0
      have d0 : decide ((4096 : Int) < (s0.length : Int)) = false := by simp; omega
      have d1 : decide ((4096 : Int) < (zs.length : Int)) = false := by simp; omega
      go_wp2_with fail
      refine (bytes_any a0 c0 s0 _ h0 (by unfold maxLen; omega)).mono ?_
      rintro e w' ⟨⟨x0, rfl⟩, rfl⟩
      clear d0 d1
      by_cases hbig : (1048576 : Int) < wrap64 (x0 + 2 * (zs.length : Int))
      · go_wp2_with fail
        go_ret
        exact ⟨rfl, Below.refl _ _⟩
      by_cases hn : s0.length = 0
      · obtain rfl : s0 = [] := List.length_eq_zero_iff.1 hn
        have hmk := make_none
        clear hn
        go_wp2_with fail
        refine wp_loop_rounds 1 ?_
        rw [rounds_succ]
        go_wp2_with fail
        refine (copy_none a0 c0 _).mono ?_
        rintro e w1 ⟨a2, c2, rfl, B1⟩
        have r1 := h1.below B1
        clear h0 h1
        go_wp2_with fail
        refine (copyN_any a1 c1 zs _ r1 k1).mono ?_
        rintro e w2 ⟨a3, c3, rfl, r3, B2⟩
        have B12 := below_then B1 B2
        have hA : Below w2.heap.size w2 (w2.alloc (.cells #[] 9)) := (Below.refl _ _).alloc (Nat.le_refl _) _
        have B13 := below_then B12 hA
        clear r1 r3 B1 B2 B12 hA
        go_wp2_with fail
        refine wp_loop_rounds 1 ?_
        rw [rounds_succ]
        go_wp2_with fail
        refine (zz_none a2 c2 _ _ _).mono ?_
        rintro e w3 ⟨na, nc, rfl, B3⟩
        have B14 := below_then B13 B3
        clear B13 B3
        go_wp2_with fail
        refine wp_loop_rounds 1 ?_
        rw [rounds_succ]
        go_wp2_with fail
        go_ret
        exact ⟨rfl, B14⟩
      have hn0 : ((s0.length : Int) == 0) = false := beq_eq_false_iff_ne.2 (by omega)
      have hn1 : (0 : Int) < (s0.length : Int) := by omega
      go_wp2_with fail
      clear hn0 hbig
      go_loop [4, 7, 8] (fun r n i => ∃ k : Nat, k ≤ zs.length ∧ i = .int .i64 k ∧ (∃ x, n = .int .i64 x) ∧ BoolSlot r) (fun _ _ i => zs.length - (intOf i).toNat)
      case atStart => exact ⟨0, Nat.zero_le _, rfl, ⟨_, rfl⟩, BoolSlot.mk _⟩
      case round =>
        obtain ⟨k, hk, rfl, ⟨x, rfl⟩, ⟨rb, rfl⟩⟩ := hrel
        by_cases hlt : k < zs.length
        · obtain ⟨b1, o1, rfl, hc1⟩ := h1.read hlt
          obtain ⟨z, hzk⟩ : ∃ z, z = zs.getD k 0 := ⟨_, rfl⟩
          obtain ⟨z1, z2⟩ : 0 ≤ z ∧ z ≤ 65535 := by rw [hzk, show zs.getD k 0 = zs[k] by simp [List.getD, hlt]]; exact hz _ (List.getElem_mem hlt)
          rw [← hzk] at hc1
          have HZ := hide hzk
          clear hzk
          obtain ⟨m, hm, hml⟩ := ix_of z s0.length hn1
          obtain ⟨b0, o0, rfl, hc0⟩ := h0.read hml
          go_wp2
          · go_ret
            exact ⟨rfl, Below.refl _ _⟩
          · go_round
            case rel => exact ⟨k + 1, by omega, by go_num, ⟨_, rfl⟩, BoolSlot.mk _⟩
            case measure => simp [intOf]; omega
        · go_wp2_with fail
          clear hlt
          refine (copy_any a0 c0 s0 _ h0 k0).mono ?_
          rintro e w1 ⟨a2, c2, rfl, r2, B1⟩
          have r1 := h1.below B1
          clear h0 h1
          go_wp2_with fail
          refine (copyN_any a1 c1 zs _ r1 k1).mono ?_
          rintro e w2 ⟨a3, c3, rfl, r3, B2⟩
          have r2' := r2.below B2
          have B12 := below_then B1 B2
          clear r1 r2 B1 B2
          obtain ⟨i0, ti, hz0, hz1, hz2⟩ := info_parts info9
          go_wp2_with (at_make; refine wpList_make_full _ rfl _ _ 22 rfl w2.heap.size 9 i0 (.string ByteArray.empty) 1 Try.underlying22 ti hz0 hz1 _ _ _ _ zs.length rfl rfl rfl rfl (by rw [hz2]; omega) (by unfold maxLen; omega) (Nat.le_refl _) ?_)
          intro w3 hown hgrow
          have F0 := Fill.start hown (tickAt s0 zs)
          have D0 : Below w2.heap.size w2 w3 := (Below.refl _ _).grown hgrow (Nat.le_refl _) (by intro k hk; cases hk)
          clear hown hgrow
          go_wp2
          go_loopw [10] (fun i wr => ∃ k : Nat, k ≤ zs.length ∧ i = .int .i64 k ∧ Fill wr w2.heap.size zs.length k (tickAt s0 zs) ∧ Below w2.heap.size w2 wr) (fun i _ => zs.length - (intOf i).toNat)
          case atStart => exact ⟨0, Nat.zero_le _, rfl, F0, D0⟩
          case round =>
            clear F0 D0
            obtain ⟨j, hj, rfl, F, D⟩ := hrel
            by_cases hlt : j < zs.length
            · have hpl := pick_lt zs s0.length j hn1
              obtain ⟨b1, o1, rfl, hb1, hc1⟩ := r3 (by intro e; subst e; simp at hlt)
              obtain ⟨b0, o0, rfl, hb0, hc0⟩ := r2' (by intro e; subst e; simp at hpl)
              have hx1 : wr.cell? ⟨b1, o1 + j, none⟩ = some (.int .u16 (zs.getD j 0)) := (D.cell (p := ⟨b1, o1 + j, none⟩) hb1).trans (hc1 j hlt)
              have hx0 : wr.cell? ⟨b0, o0 + pickAt zs s0.length j, none⟩ = some (.string (s0.getD (pickAt zs s0.length j) ByteArray.empty)) := (D.cell (p := ⟨b0, o0 + pickAt zs s0.length j, none⟩) hb0).trans (hc0 _ hpl)
              obtain ⟨z, hzk⟩ : ∃ z, z = zs.getD j 0 := ⟨_, rfl⟩
              obtain ⟨z1, z2⟩ : 0 ≤ z ∧ z ≤ 65535 := by rw [hzk, show zs.getD j 0 = zs[j] by simp [List.getD, hlt]]; exact hz _ (List.getElem_mem hlt)
              have hzm := pick_int zs s0.length j hn1 hzk
              obtain ⟨t, ht⟩ : ∃ t, t = s0.getD (pickAt zs s0.length j) ByteArray.empty := ⟨_, rfl⟩
              have hts : t.size ≤ 1048576 := by rw [ht, getD_at hpl]; exact T0 _ (List.getElem_mem hpl)
              have HT : Hid ((⟨#[99, 108, 97, 105, 109, 58]⟩ : ByteArray) ++ t = tickAt s0 zs j) := by rw [ht]; rfl
              rw [← ht] at hx0
              rw [← hzk] at hx1
              generalize pickAt zs s0.length j = m at *
              obtain ⟨u, hu⟩ := F.cell hlt
              have hf := F.frozen
              clear ht hzk hc1 hc0
              go_wp2
              go_roundw
              case rel => exact ⟨j + 1, by omega, by go_num, F.store hlt HT.out, D.setCell (Nat.le_refl _) _⟩
              case measure => simp [intOf]; omega
            · have ej : j = zs.length := by omega
              subst ej
              have R := F.done (ticks_length s0 zs) (fun i hi => ticks_at s0 zs i hi)
              have r4 := r3.below D
              have o4 := r2'.below D
              have B14 := below_then B12 D
              clear F D r3 r2' B12
              have HO := hide (ticks_ok s0 zs hn1)
              have HSh := ticks_short s0 zs hn1 T0
              go_wp2_with fail
              refine (zz_yes a2 c2 s0 _ _ zs.length (ticks s0 zs) _ (by exact o4) (by exact R) k0 (ticks_length s0 zs) k1 HSh HO.out).mono ?_
              rintro e w5 ⟨na, nc, rfl, n5, B5⟩
              have r5 := r4.below B5
              have o5 := o4.below B5
              have B15 := below_then B14 B5
              clear R r4 o4 B14 B5 hlt
              go_wp2_with fail
              go_loopw [13] (fun i wr => ∃ k n : Nat, k ≤ zs.length ∧ i = .int .i64 k ∧ wr = w5.drewN n) (fun i _ => zs.length - (intOf i).toNat)
              case atStart => exact ⟨0, 0, Nat.zero_le _, rfl, rfl⟩
              case round =>
                obtain ⟨j, n, hj, rfl, rfl⟩ := hrel
                by_cases hlt : j < zs.length
                · have hpl := pick_lt zs s0.length j hn1
                  obtain ⟨b1, o1, rfl, hx1⟩ := r5.read hlt
                  obtain ⟨b0, o0, rfl, hx0⟩ := o5.read hpl
                  obtain ⟨nb, no, hna, hn'⟩ := n5.read (k := j) (by rw [List.length_map, ticks_length]; exact hlt)
                  obtain rfl := Option.some.inj hna
                  obtain ⟨z, hzk⟩ : ∃ z, z = zs.getD j 0 := ⟨_, rfl⟩
                  obtain ⟨z1, z2⟩ : 0 ≤ z ∧ z ≤ 65535 := by rw [hzk, show zs.getD j 0 = zs[j] by simp [List.getD, hlt]]; exact hz _ (List.getElem_mem hlt)
                  have hzm := pick_int zs s0.length j hn1 hzk
                  rw [show ((ticks s0 zs).map rest).getD j ByteArray.empty = s0.getD (pickAt zs s0.length j) ByteArray.empty by
                    rw [getD_at (by rw [List.length_map, ticks_length]; exact hlt), List.getElem_map, ← getD_at (by rw [ticks_length]; exact hlt), ticks_at s0 zs j hlt]
                    exact rest_join _] at hn'
                  obtain ⟨t, ht⟩ : ∃ t, t = s0.getD (pickAt zs s0.length j) ByteArray.empty := ⟨_, rfl⟩
                  rw [← ht] at hx0 hn'
                  rw [← hzk] at hx1
                  generalize pickAt zs s0.length j = m at *
                  have hmi : (m : Int) < (s0.length : Int) := by omega
                  have hji : (j : Int) < (zs.length : Int) := by omega
                  clear ht hzk
                  go_wp2
                  go_quiet (fail)
                  go_wp2
                  go_roundw
                  case rel => exact ⟨j + 1, _, by omega, by go_num, rfl⟩
                  case measure => simp [intOf]; omega
                · go_wp2
                  go_ret
                  exact ⟨rfl, below_drewN B15 _⟩
    · have g1 : (4096 : Int) < (zs.length : Int) := by omega
      have d0 : decide ((4096 : Int) < (s0.length : Int)) = false := by simp; omega
      go_enter Try.func3, Try.ntmps3
      go_wp2_with fail
      refine (guard1_any a0 c0 s0 a1 c1 zs.length w h0 m0).mono ?_
      rintro e w' ⟨⟨b, rfl, hS⟩, rfl⟩
      clear hS
      cases b with
      | false =>
        go_wp2_with fail
        go_ret
        exact ⟨rfl, Below.refl _ _⟩
      | true =>
        go_wp2_with fail
        go_ret
        exact ⟨rfl, Below.refl _ _⟩
  · have g1 : (4096 : Int) < (s0.length : Int) := by omega
    go_enter Try.func3, Try.ntmps3
    go_wp2_with fail
    refine (guard1_any a0 c0 s0 a1 c1 zs.length w h0 m0).mono ?_
    rintro e w' ⟨⟨b, rfl, hS⟩, rfl⟩
    clear hS
    cases b with
    | false =>
      go_wp2_with fail
      go_ret
      exact ⟨rfl, Below.refl _ _⟩
    | true =>
      go_wp2_with fail
      go_ret
      exact ⟨rfl, Below.refl _ _⟩
end Go.Proofs.Qxb6000490a
