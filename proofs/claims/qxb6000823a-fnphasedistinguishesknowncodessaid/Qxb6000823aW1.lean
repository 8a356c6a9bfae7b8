/- Walks of ExitCode.Phase and phaseCode. -/
import Derived.Test.Qxb6000823aRows
import Derived.WalkKit
import Derived.WalkSpells
import Derived.WalkLawsBesides
namespace Go.Proofs.Qxb6000823a
open Go.RowKit

theorem hide {p : Prop} (h : p) : Hid p := h

/-- The phase of a code. -/
def ph (c : Int) : ByteArray :=
  if c = 0 then ⟨#[83, 117, 99, 99, 101, 101, 100, 101, 100]⟩ else if c = 1 then ⟨#[83, 117, 115, 112, 101, 110, 100, 101, 100]⟩ else if c = 2 then ⟨#[70, 97, 105, 108, 101, 100]⟩
  else if c = 4 then ⟨#[84, 105, 109, 101, 111, 117, 116]⟩ else ⟨#[69, 114, 114, 111, 114]⟩

theorem five (c : Int) : c = 0 ∨ c = 1 ∨ c = 2 ∨ c = 4 ∨ ((c == 0) = false ∧ (c == 1) = false ∧ (c == 2) = false ∧ (c == 4) = false) := by
  simp only [beq_eq_false_iff_ne]; omega

theorem ph_other {c : Int} (h : (c == 0) = false ∧ (c == 1) = false ∧ (c == 2) = false ∧ (c == 4) = false) : ph c = ⟨#[69, 114, 114, 111, 114]⟩ := by
  obtain ⟨h0, h1, h2, h3⟩ := h
  simp only [beq_eq_false_iff_ne] at h0 h1 h2 h3
  unfold ph
  rw [if_neg h0, if_neg h1, if_neg h2, if_neg h3]

set_option maxHeartbeats 400000 in
theorem phase_any (c : Int) (w : World) : Calls Try.prog 8 #[.int .i64 c] w fun e w' => e = .returned (.string (ph c)) ∧ w' = w := by
  rcases five c with rfl | rfl | rfl | rfl | h
  · go_enter Try.func8, Try.ntmps8
    go_wp2
    go_ret
    exact ⟨rfl, rfl⟩
  · go_enter Try.func8, Try.ntmps8
    go_wp2
    go_ret
    exact ⟨rfl, rfl⟩
  · go_enter Try.func8, Try.ntmps8
    go_wp2
    go_ret
    exact ⟨rfl, rfl⟩
  · go_enter Try.func8, Try.ntmps8
    go_wp2
    go_ret
    exact ⟨rfl, rfl⟩
  · rw [ph_other h]
    obtain ⟨h0, h1, h2, h3⟩ := h
    go_enter Try.func8, Try.ntmps8
    go_wp2
    go_ret
    exact ⟨rfl, rfl⟩

theorem ph_one {a b : Int} (hne : (a == b) = false) (h : ((ph a).toList == (ph b).toList) = true) : ((ph a).toList == [69, 114, 114, 111, 114]) = true := by
  rw [beq_iff_eq] at h ⊢
  have hb : a ≠ b := beq_eq_false_iff_ne.1 hne
  rcases five a with rfl | rfl | rfl | rfl | ha
  all_goals first
    | (rw [ph_other ha]; decide +kernel)
    | (rcases five b with rfl | rfl | rfl | rfl | hb'
       all_goals first
         | exact absurd rfl hb
         | (rw [ph_other hb'] at h; revert h; decide +kernel)
         | (revert h; decide +kernel))

set_option maxHeartbeats 400000 in
theorem law4 (a b : Int) (w : World) : Calls Try.prog 4 #[.int .i64 a, .int .i64 b] w fun e w' => e = .returned (.bool true) ∧ w' = w := by
  cases hab : (a == b) with
  | true =>
    go_enter Try.func4, Try.ntmps4
    go_wp2
    go_ret
    exact ⟨rfl, rfl⟩
  | false =>
    go_enter Try.func4, Try.ntmps4
    go_wp2_with fail
    refine (phase_any a w).mono ?_
    rintro e w' ⟨rfl, rfl⟩
    go_wp2_with fail
    refine (phase_any b _).mono ?_
    rintro e w' ⟨rfl, rfl⟩
    cases hp : ((ph a).toList == (ph b).toList) with
    | true =>
      have h := ph_one hab hp
      go_wp2
      go_ret
      exact ⟨rfl, rfl⟩
    | false =>
      go_wp2
      go_ret
      exact ⟨rfl, rfl⟩

set_option maxHeartbeats 400000 in
theorem code0 (w : World) : Calls Try.prog 9 #[.string ⟨#[83, 117, 99, 99, 101, 101, 100, 101, 100]⟩] w fun e w' => e = .returned (.int .i64 0) ∧ w' = w := by
  go_enter Try.func9, Try.ntmps9
  go_wp2
  go_ret
  exact ⟨rfl, rfl⟩

set_option maxHeartbeats 400000 in
theorem code1 (w : World) : Calls Try.prog 9 #[.string ⟨#[83, 117, 115, 112, 101, 110, 100, 101, 100]⟩] w fun e w' => e = .returned (.int .i64 1) ∧ w' = w := by
  go_enter Try.func9, Try.ntmps9
  go_wp2
  go_ret
  exact ⟨rfl, rfl⟩

set_option maxHeartbeats 400000 in
theorem code2 (w : World) : Calls Try.prog 9 #[.string ⟨#[70, 97, 105, 108, 101, 100]⟩] w fun e w' => e = .returned (.int .i64 2) ∧ w' = w := by
  go_enter Try.func9, Try.ntmps9
  go_wp2
  go_ret
  exact ⟨rfl, rfl⟩

set_option maxHeartbeats 400000 in
theorem code3 (w : World) : Calls Try.prog 9 #[.string ⟨#[69, 114, 114, 111, 114]⟩] w fun e w' => e = .returned (.int .i64 3) ∧ w' = w := by
  go_enter Try.func9, Try.ntmps9
  go_wp2
  go_ret
  exact ⟨rfl, rfl⟩

set_option maxHeartbeats 400000 in
theorem code4 (w : World) : Calls Try.prog 9 #[.string ⟨#[84, 105, 109, 101, 111, 117, 116]⟩] w fun e w' => e = .returned (.int .i64 4) ∧ w' = w := by
  go_enter Try.func9, Try.ntmps9
  go_wp2
  go_ret
  exact ⟨rfl, rfl⟩

theorem code_any (c : Int) (w : World) : Calls Try.prog 9 #[.string (ph c)] w fun e w' => (∃ x, e = .returned (.int .i64 x) ∧ 0 ≤ x) ∧ w' = w := by
  rcases five c with rfl | rfl | rfl | rfl | h
  · refine (code0 w).mono ?_
    rintro e w' ⟨rfl, rfl⟩
    exact ⟨⟨_, rfl, by omega⟩, rfl⟩
  · refine (code1 w).mono ?_
    rintro e w' ⟨rfl, rfl⟩
    exact ⟨⟨_, rfl, by omega⟩, rfl⟩
  · refine (code2 w).mono ?_
    rintro e w' ⟨rfl, rfl⟩
    exact ⟨⟨_, rfl, by omega⟩, rfl⟩
  · refine (code4 w).mono ?_
    rintro e w' ⟨rfl, rfl⟩
    exact ⟨⟨_, rfl, by omega⟩, rfl⟩
  · rw [ph_other h]
    refine (code3 w).mono ?_
    rintro e w' ⟨rfl, rfl⟩
    exact ⟨⟨_, rfl, by omega⟩, rfl⟩

set_option maxHeartbeats 400000 in
theorem law3 (c : Int) (w : World) : Calls Try.prog 3 #[.int .i64 c] w fun e w' => e = .returned (.bool true) ∧ w' = w := by
  rcases five c with rfl | rfl | rfl | rfl | h
  · have hE : ((ph 0).toList == [69, 114, 114, 111, 114]) = false := by decide +kernel
    go_enter Try.func3, Try.ntmps3
    go_wp2_with fail
    refine (phase_any 0 w).mono ?_
    rintro e w' ⟨rfl, rfl⟩
    go_wp2_with fail
    refine (code_any 0 _).mono ?_
    rintro e w' ⟨⟨x, rfl, hx⟩, rfl⟩
    go_wp2_with fail
    go_ret
    exact ⟨rfl, rfl⟩
  · have hE : ((ph 1).toList == [69, 114, 114, 111, 114]) = false := by decide +kernel
    go_enter Try.func3, Try.ntmps3
    go_wp2_with fail
    refine (phase_any 1 w).mono ?_
    rintro e w' ⟨rfl, rfl⟩
    go_wp2_with fail
    refine (code_any 1 _).mono ?_
    rintro e w' ⟨⟨x, rfl, hx⟩, rfl⟩
    go_wp2_with fail
    go_ret
    exact ⟨rfl, rfl⟩
  · have hE : ((ph 2).toList == [69, 114, 114, 111, 114]) = false := by decide +kernel
    go_enter Try.func3, Try.ntmps3
    go_wp2_with fail
    refine (phase_any 2 w).mono ?_
    rintro e w' ⟨rfl, rfl⟩
    go_wp2_with fail
    refine (code_any 2 _).mono ?_
    rintro e w' ⟨⟨x, rfl, hx⟩, rfl⟩
    go_wp2_with fail
    go_ret
    exact ⟨rfl, rfl⟩
  · have hE : ((ph 4).toList == [69, 114, 114, 111, 114]) = false := by decide +kernel
    go_enter Try.func3, Try.ntmps3
    go_wp2_with fail
    refine (phase_any 4 w).mono ?_
    rintro e w' ⟨rfl, rfl⟩
    go_wp2_with fail
    refine (code_any 4 _).mono ?_
    rintro e w' ⟨⟨x, rfl, hx⟩, rfl⟩
    go_wp2_with fail
    go_ret
    exact ⟨rfl, rfl⟩
  · have hE : ((ph c).toList == [69, 114, 114, 111, 114]) = true := by rw [ph_other h]; decide +kernel
    obtain ⟨h0, h1, h2, h3⟩ := h
    go_enter Try.func3, Try.ntmps3
    go_wp2_with fail
    refine (phase_any c w).mono ?_
    rintro e w' ⟨rfl, rfl⟩
    go_wp2_with fail
    refine (code_any c _).mono ?_
    rintro e w' ⟨⟨x, rfl, hx⟩, rfl⟩
    go_wp2_with fail
    go_ret
    exact ⟨rfl, rfl⟩
end Go.Proofs.Qxb6000823a
