/- The walk of the law FnTickedClaimsAcceptsExactlyTheOfferedValues. -/
import Derived.Test.Qxb6000490aV5
namespace Go.Proofs.Qxb6000490a
open Go.RowKit

theorem below_then {w0 w1 w2 : World} (h : Below w0.heap.size w0 w1) (k : Below w1.heap.size w1 w2) : Below w0.heap.size w0 w2 := h.trans (k.mono h.size)

theorem okV_at {offered ticked : List ByteArray} (h : allOk offered ticked = true) {k : Nat} (hk : k < ticked.length) : isPre (ticked.getD k ByteArray.empty) = true := by
  unfold allOk at h
  rw [List.all_eq_true] at h
  have := h _ (List.getElem_mem hk)
  rw [okV_iff] at this
  rw [getD_at hk]; exact this.1

/-- The prefix and what stands behind it make the value again. -/
theorem join_rest {v : ByteArray} (h : isPre v = true) : (⟨#[99, 108, 97, 105, 109, 58]⟩ : ByteArray) ++ rest v = v := by
  unfold isPre at h
  simp only [Bool.and_eq_true, decide_eq_true_eq, beq_iff_eq] at h
  obtain ⟨h6, h⟩ := h
  obtain ⟨⟨l⟩⟩ := v
  rw [ByteArray.toList_eq, ByteArray.extract_mk] at h
  unfold rest
  rw [ByteArray.extract_mk]
  simp at h
  have hl : (⟨⟨l⟩⟩ : ByteArray).size = l.length := rfl
  rw [hl] at h6 ⊢
  have e : (⟨#[99, 108, 97, 105, 109, 58]⟩ : ByteArray) = ⟨(l.take 6).toArray⟩ := by rw [h]
  rw [e, ByteArray.mk_append_mk]
  rw [List.take_of_length_le (l := List.drop 6 l) (by simp), List.take_append_drop]

set_option maxHeartbeats 1000000 in
set_option maxRecDepth 100000 in
theorem law4 (a0 : Option Addr) (c0 : Nat) (s0 : List ByteArray) (a1 : Option Addr) (c1 : Nat) (s1 : List ByteArray) (w : World)
    (h0 : StrRow w a0 s0) (h1 : StrRow w a1 s1) (m0 : s0.length ≤ maxLen) (m1 : s1.length ≤ maxLen) :
    Calls Try.prog 4 #[.slice a0 s0.length c0, .slice a1 s1.length c1] w fun e w' => e = .returned (.bool true) ∧ Below w.heap.size w w' := by
  have q22 : ∀ (w : World) (a : Option Addr) (n c n' c' : Nat), (binOp .eql 22 (.slice a n c) (.slice none n' c')).run Try.prog w = .ok (.bool a.isNone) w := fun w a n c n' c' => Lib.run_eql_slice_nil w _ _ a n c n' c' Try.underlying22
  by_cases k0 : s0.length ≤ 4096
  · by_cases k1 : s1.length ≤ 4096
    · go_enter Try.func4, Try.ntmps4
      go_wp2_with fail
      refine (guard2_any a0 c0 s0 a1 c1 s1 w h0 h1 m0 m1).mono ?_
      rintro e w' ⟨⟨b, rfl, hS⟩, rfl⟩
      cases b with
      | false =>
        go_wp2_with fail
        go_ret
        exact ⟨rfl, Below.refl _ _⟩
      | true =>
      obtain ⟨T0, T1⟩ := hS rfl
      have S0 := T0.short
      have S1 := T1.short
      clear T0 T1
      clear hS m0 m1
      have d0 : decide ((4096 : Int) < (s0.length : Int)) = false := by simp; omega
      have d1 : decide ((4096 : Int) < (s1.length : Int)) = false := by simp; omega
      go_wp2_with fail
      refine (bytes_any a0 c0 s0 _ h0 (by unfold maxLen; omega)).mono ?_
      rintro e w' ⟨⟨x0, rfl⟩, rfl⟩
      go_wp2_with fail
      refine (bytes_any a1 c1 s1 _ h1 (by unfold maxLen; omega)).mono ?_
      rintro e w' ⟨⟨x1, rfl⟩, rfl⟩
      clear d0 d1
      obtain ⟨xs, hxs⟩ : ∃ xs, xs = decide (1048576 < wrap64 (x0 + x1)) := ⟨_, rfl⟩
      cases xs with
      | true =>
        have hbig : (1048576 : Int) < wrap64 (x0 + x1) := by simpa using hxs.symm
        clear hxs
        go_wp2_with fail
        go_ret
        exact ⟨rfl, Below.refl _ _⟩
      | false =>
      have hbig : ¬ (1048576 : Int) < wrap64 (x0 + x1) := by simpa using hxs.symm
      clear hxs
      go_wp2_with fail
      refine (copy_any a0 c0 s0 _ h0 k0).mono ?_
      rintro e w1 ⟨a2, c2, rfl, r2, B1⟩
      have r1 := h1.below B1
      clear h0 h1 hbig
      go_wp2_with fail
      refine (copy_any a1 c1 s1 _ r1 k1).mono ?_
      rintro e w2 ⟨a3, c3, rfl, r3, B2⟩
      have r2' := r2.below B2
      have B12 := below_then B1 B2
      clear r1 r2 B1 B2
      go_wp2_with fail
      go_loop [5, 6] (fun v i => ∃ k : Nat, k ≤ s1.length ∧ i = .int .i64 k ∧ v = .bool true ∧ Hid (allOk s0 (s1.take k) = true)) (fun _ i => s1.length - (intOf i).toNat)
      case atStart => exact ⟨0, Nat.zero_le _, rfl, rfl, by simp [Hid, allOk]⟩
      case round =>
        obtain ⟨k, hk, rfl, rfl, HA⟩ := hrel
        by_cases hlt : k < s1.length
        · obtain ⟨b, off, rfl, hc⟩ := r3.read hlt
          obtain ⟨t, ht⟩ : ∃ t, t = s1.getD k ByteArray.empty := ⟨_, rfl⟩
          have hts : t.size ≤ 2097152 := by rw [ht, getD_at hlt]; exact S1 _ (List.getElem_mem hlt)
          rw [← ht] at hc
          have HT := hide ht
          clear ht
          go_wp2_with fail
          refine (offers_any a2 c2 s0 t _ r2' k0 S0 hts).mono ?_
          rintro e w' ⟨rfl, rfl⟩
          cases hin : okV s0 t with
          | true =>
            have HA' := hide (allOk_step hlt HT.out HA.out hin)
            clear HA
            go_wp2
            go_round
            case rel => exact ⟨k + 1, by omega, by go_num, rfl, HA'⟩
            case measure => simp [intOf]; omega
          | false =>
            have hno := allOk_no hlt HT.out hin
            have HN := hide hno
            clear HA hno
            go_wp2_with fail
            refine (zz_any a2 c2 s0 _ c3 s1 _ r2' (by exact r3) k0 k1 S1).mono ?_
            rintro e w3 ⟨B3, ⟨ha, _⟩ | ⟨ha, rfl⟩⟩
            · rw [HN.out] at ha; cases ha
            · have B13 := below_then B12 B3
              clear ha B3
              go_wp2_with fail
              go_ret
              exact ⟨rfl, B13⟩
        · have hyes : allOk s0 s1 = true := by have := HA.out; rwa [List.take_of_length_le (by omega)] at this
          have HY := hide hyes
          clear HA hyes
          go_wp2_with fail
          refine (zz_any a2 c2 s0 a3 c3 s1 _ r2' r3 k0 k1 S1).mono ?_
          rintro e w3 ⟨B3, ⟨_, na, nc, rfl, n3⟩ | ⟨ha, _⟩⟩
          rotate_left
          · rw [HY.out] at ha; cases ha
          have B13 := below_then B12 B3
          have t3 := r3.below B3
          clear r3 r2' B12 B3 hlt
          go_wp2_with fail
          go_loopw [9] (fun i wr => ∃ k n : Nat, k ≤ s1.length ∧ i = .int .i64 k ∧ wr = w3.drewN n) (fun i _ => s1.length - (intOf i).toNat)
          case atStart => exact ⟨0, 0, Nat.zero_le _, rfl, rfl⟩
          case round =>
            obtain ⟨j, n, hj, rfl, rfl⟩ := hrel
            by_cases hlt : j < s1.length
            · obtain ⟨b, off, rfl, hc⟩ := t3.read hlt
              obtain ⟨nb, no, hna, hn⟩ := n3.read (k := j) (by rw [List.length_map]; exact hlt)
              obtain rfl := Option.some.inj hna
              rw [show (s1.map rest).getD j ByteArray.empty = rest (s1.getD j ByteArray.empty) by simp [List.getD, hlt]] at hn
              obtain ⟨t, ht⟩ : ∃ t, t = s1.getD j ByteArray.empty := ⟨_, rfl⟩
              have hts : t.size ≤ 2097152 := by rw [ht, getD_at hlt]; exact S1 _ (List.getElem_mem hlt)
              have hp : isPre t = true := by rw [ht]; exact okV_at HY.out hlt
              rw [← ht] at hc hn
              have hrs : (rest t).size ≤ 2097152 := by rw [rest_size]; omega
              have hjr := join_rest hp
              clear ht hp
              go_wp2
              go_quiet (fail)
              go_wp2
              go_roundw
              case rel => exact ⟨j + 1, _, by omega, by go_num, rfl⟩
              case measure => simp [intOf]; omega
            · go_wp2
              go_ret
              exact ⟨rfl, below_drewN B13 _⟩
    · have g1 : (4096 : Int) < (s1.length : Int) := by omega
      have d0 : decide ((4096 : Int) < (s0.length : Int)) = false := by simp; omega
      go_enter Try.func4, Try.ntmps4
      go_wp2_with fail
      refine (guard2_any a0 c0 s0 a1 c1 s1 w h0 h1 m0 m1).mono ?_
      rintro e w' ⟨⟨b, rfl, hS⟩, rfl⟩
      clear hS
      cases b with
      | false =>
        go_wp2_with fail
        go_ret
        exact ⟨rfl, Below.refl _ _⟩
      | true =>
        go_wp2_with fail
        go_ret
        exact ⟨rfl, Below.refl _ _⟩
  · have g1 : (4096 : Int) < (s0.length : Int) := by omega
    go_enter Try.func4, Try.ntmps4
    go_wp2_with fail
    refine (guard2_any a0 c0 s0 a1 c1 s1 w h0 h1 m0 m1).mono ?_
    rintro e w' ⟨⟨b, rfl, hS⟩, rfl⟩
    clear hS
    cases b with
    | false =>
      go_wp2_with fail
      go_ret
      exact ⟨rfl, Below.refl _ _⟩
    | true =>
      go_wp2_with fail
      go_ret
      exact ⟨rfl, Below.refl _ _⟩
end Go.Proofs.Qxb6000490a
