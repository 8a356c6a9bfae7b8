/- Walks of the two size guards. -/
import Derived.Test.Qxb6000490aV1
namespace Go.Proofs.Qxb6000490a
open Go.RowKit

/-- Each string is short. -/
def Short (ss : List ByteArray) : Prop := ∀ s ∈ ss, s.size ≤ 2097152
/-- Each string is at most as long as the guard lets by. -/
def Tight (ss : List ByteArray) : Prop := ∀ s ∈ ss, s.size ≤ 1048576
theorem Tight.short {ss : List ByteArray} (h : Tight ss) : Short ss := fun s hs => by have := h s hs; omega
/-- The first k strings are. -/
def ShortTo (ss : List ByteArray) (k : Nat) : Prop := ∀ j, j < k → (ss.getD j ByteArray.empty).size ≤ 1048576
theorem ShortTo.zero (ss : List ByteArray) : ShortTo ss 0 := fun j h => by omega
theorem ShortTo.step {ss : List ByteArray} {k : Nat} (h : ShortTo ss k) (_hk : k < ss.length) {t : ByteArray} (ht : t = ss.getD k ByteArray.empty) (hs : t.size ≤ 1048576) : ShortTo ss (k + 1) := by
  intro j hj
  by_cases e : j = k
  · subst e; rw [← ht]; exact hs
  · exact h j (by omega)
theorem ShortTo.all {ss : List ByteArray} {k : Nat} (h : ShortTo ss k) (hk : ss.length ≤ k) : Tight ss := by
  intro s hs
  obtain ⟨i, hi, rfl⟩ := List.getElem_of_mem hs
  have := h i (by omega)
  rwa [getD_at hi] at this
/-- The guard ends in a bool; true only where all strings are short. -/
def GuardEnd (s0 s1 : List ByteArray) (e : Ending) : Prop := ∃ b, e = .returned (.bool b) ∧ (b = true → Tight s0 ∧ Tight s1)
theorem GuardEnd.no (s0 s1 : List ByteArray) : GuardEnd s0 s1 (.returned (.bool false)) := ⟨false, rfl, fun h => by cases h⟩
theorem GuardEnd.yes {s0 s1 : List ByteArray} (h0 : Tight s0) (h1 : Tight s1) : GuardEnd s0 s1 (.returned (.bool true)) := ⟨true, rfl, fun _ => ⟨h0, h1⟩⟩

set_option maxHeartbeats 2000000 in
/-- The size guard over two lists of strings. -/
theorem guard2_any (a0 : Option Addr) (c0 : Nat) (s0 : List ByteArray) (a1 : Option Addr) (c1 : Nat) (s1 : List ByteArray) (w : World)
    (h0 : StrRow w a0 s0) (h1 : StrRow w a1 s1) (m0 : s0.length ≤ maxLen) (m1 : s1.length ≤ maxLen) :
    Calls Try.prog 11 #[.slice a0 s0.length c0, .slice a1 s1.length c1] w fun e w' => GuardEnd s0 s1 e ∧ w' = w := by
  unfold maxLen at m0 m1
  by_cases g0 : s0.length ≤ 1048576
  · go_enter Try.func11, Try.ntmps11
    go_wp2
    go_loop [4, 5, 6] (fun r n i => ∃ k : Nat, k ≤ s0.length ∧ i = .int .i64 k ∧ (∃ x, n = .int .i64 x) ∧ BoolSlot r ∧ ShortTo s0 k) (fun _ _ i => s0.length - (intOf i).toNat)
    case atStart => exact ⟨0, Nat.zero_le _, rfl, ⟨_, rfl⟩, BoolSlot.mk _, ShortTo.zero _⟩
    case round =>
      obtain ⟨k0, hk0, rfl, ⟨x0, rfl⟩, ⟨b0, rfl⟩, S0⟩ := hrel
      by_cases hlt0 : k0 < s0.length
      · obtain ⟨b, off, rfl, hc⟩ := h0.read hlt0
        obtain ⟨t, ht⟩ : ∃ t, t = s0.getD k0 ByteArray.empty := ⟨_, rfl⟩
        rw [← ht] at hc
        have HT := hide ht
        clear ht
        go_wp2
        · go_ret
          exact ⟨GuardEnd.no _ _, rfl⟩
        · go_ret
          exact ⟨GuardEnd.no _ _, rfl⟩
        · have hs : (t.size : Int) ≤ 1048576 := by assumption
          go_round
          case rel => exact ⟨k0 + 1, by omega, by go_num, ⟨_, rfl⟩, BoolSlot.mk _, S0.step hlt0 HT.out (by omega)⟩
          case measure => simp [intOf]; omega
      · have Z0 := S0.all (by omega)
        go_wp2
        · go_ret
          exact ⟨GuardEnd.no _ _, rfl⟩
        · go_ret
          exact ⟨GuardEnd.no _ _, rfl⟩
        go_loop [4, 5, 7] (fun r n i => ∃ k : Nat, k ≤ s1.length ∧ i = .int .i64 k ∧ (∃ x, n = .int .i64 x) ∧ BoolSlot r ∧ ShortTo s1 k) (fun _ _ i => s1.length - (intOf i).toNat)
        case atStart => exact ⟨0, Nat.zero_le _, rfl, ⟨_, rfl⟩, BoolSlot.mk _, ShortTo.zero _⟩
        case round =>
          obtain ⟨k1, hk1, rfl, ⟨x1, rfl⟩, ⟨b1, rfl⟩, S1⟩ := hrel
          by_cases hlt1 : k1 < s1.length
          · obtain ⟨b, off, rfl, hc⟩ := h1.read hlt1
            obtain ⟨t, ht⟩ : ∃ t, t = s1.getD k1 ByteArray.empty := ⟨_, rfl⟩
            rw [← ht] at hc
            have HT := hide ht
            clear ht
            go_wp2
            · go_ret
              exact ⟨GuardEnd.no _ _, rfl⟩
            · go_ret
              exact ⟨GuardEnd.no _ _, rfl⟩
            · have hs : (t.size : Int) ≤ 1048576 := by assumption
              go_round
              case rel => exact ⟨k1 + 1, by omega, by go_num, ⟨_, rfl⟩, BoolSlot.mk _, S1.step hlt1 HT.out (by omega)⟩
              case measure => simp [intOf]; omega
          · have Z1 := S1.all (by omega)
            go_wp2
            go_ret
            exact ⟨GuardEnd.yes Z0 Z1, rfl⟩
  · have g1 : (1048576 : Int) < (s0.length : Int) := by omega
    go_enter Try.func11, Try.ntmps11
    go_wp2
    go_ret
    exact ⟨GuardEnd.no _ _, rfl⟩

set_option maxHeartbeats 2000000 in
/-- The size guard over a list of strings and a list of numbers. -/
theorem guard1_any (a0 : Option Addr) (c0 : Nat) (s0 : List ByteArray) (a1 : Option Addr) (c1 n1 : Nat) (w : World)
    (h0 : StrRow w a0 s0) (m0 : s0.length ≤ maxLen) :
    Calls Try.prog 6 #[.slice a0 s0.length c0, .slice a1 n1 c1] w fun e w' => GuardEnd s0 [] e ∧ w' = w := by
  unfold maxLen at m0
  by_cases g0 : s0.length ≤ 1048576
  · go_enter Try.func6, Try.ntmps6
    go_wp2
    go_loop [4, 5, 6] (fun r n i => ∃ k : Nat, k ≤ s0.length ∧ i = .int .i64 k ∧ (∃ x, n = .int .i64 x) ∧ BoolSlot r ∧ ShortTo s0 k) (fun _ _ i => s0.length - (intOf i).toNat)
    case atStart => exact ⟨0, Nat.zero_le _, rfl, ⟨_, rfl⟩, BoolSlot.mk _, ShortTo.zero _⟩
    case round =>
      obtain ⟨k0, hk0, rfl, ⟨x0, rfl⟩, ⟨b0, rfl⟩, S0⟩ := hrel
      by_cases hlt0 : k0 < s0.length
      · obtain ⟨b, off, rfl, hc⟩ := h0.read hlt0
        obtain ⟨t, ht⟩ : ∃ t, t = s0.getD k0 ByteArray.empty := ⟨_, rfl⟩
        rw [← ht] at hc
        have HT := hide ht
        clear ht
        go_wp2
        · go_ret
          exact ⟨GuardEnd.no _ _, rfl⟩
        · go_ret
          exact ⟨GuardEnd.no _ _, rfl⟩
        · have hs : (t.size : Int) ≤ 1048576 := by assumption
          go_round
          case rel => exact ⟨k0 + 1, by omega, by go_num, ⟨_, rfl⟩, BoolSlot.mk _, S0.step hlt0 HT.out (by omega)⟩
          case measure => simp [intOf]; omega
      · have Z0 := S0.all (by omega)
        go_wp2
        · go_ret
          exact ⟨GuardEnd.no _ _, rfl⟩
        · go_ret
          exact ⟨GuardEnd.no _ _, rfl⟩
        · go_ret
          exact ⟨GuardEnd.yes Z0 (fun _ h => absurd h (List.not_mem_nil)), rfl⟩
  · have g1 : (1048576 : Int) < (s0.length : Int) := by omega
    go_enter Try.func6, Try.ntmps6
    go_wp2
    go_ret
    exact ⟨GuardEnd.no _ _, rfl⟩

end Go.Proofs.Qxb6000490a
