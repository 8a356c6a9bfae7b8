/- Walks of the two size guards. -/
import Derived.Test.Qxb6001205aW1
namespace Go.Proofs.Qxb6001205a
open Go.RowKit

/-- The call ends in some bool. -/
def SomeBool (e : Ending) : Prop := ∃ b, e = .returned (.bool b)
theorem SomeBool.mk (b : Bool) : SomeBool (.returned (.bool b)) := ⟨b, rfl⟩
/-- The slot holds some bool. -/
def BoolSlot (v : Value) : Prop := ∃ b, v = .bool b
theorem BoolSlot.mk (b : Bool) : BoolSlot (.bool b) := ⟨b, rfl⟩

set_option maxHeartbeats 2000000 in
/-- The size guard over 2 lists: some bool. -/
theorem guard2_any (a0 : Option Addr) (c0 : Nat) (s0 : List ByteArray) (a1 : Option Addr) (c1 : Nat) (s1 : List ByteArray) (w : World)
    (h0 : StrRow w a0 s0) (h1 : StrRow w a1 s1) (m0 : s0.length ≤ maxLen) (m1 : s1.length ≤ maxLen) :
    Calls Try.prog 15 #[.slice a0 s0.length c0, .slice a1 s1.length c1] w fun e w' => SomeBool e ∧ w' = w := by
  unfold maxLen at m0 m1
  by_cases g0 : s0.length ≤ 1048576
  · go_enter Try.func15, Try.ntmps15
    go_wp2
    go_loop [4, 5, 6] (fun r n i => ∃ k : Nat, k ≤ s0.length ∧ i = .int .i64 k ∧ (∃ x, n = .int .i64 x) ∧ BoolSlot r) (fun _ _ i => s0.length - (intOf i).toNat)
    case atStart => exact ⟨0, Nat.zero_le _, rfl, ⟨_, rfl⟩, BoolSlot.mk _⟩
    case round =>
      obtain ⟨k0, hk0, rfl, ⟨x0, rfl⟩, ⟨b0, rfl⟩⟩ := hrel
      by_cases hlt0 : k0 < s0.length
      · obtain ⟨b, off, rfl, hc⟩ := h0.read hlt0
        go_wp2
        · go_ret
          exact ⟨SomeBool.mk _, rfl⟩
        · go_ret
          exact ⟨SomeBool.mk _, rfl⟩
        · go_round
          case rel => exact ⟨k0 + 1, by omega, by go_num, ⟨_, rfl⟩, BoolSlot.mk _⟩
          case measure => simp [intOf]; omega
      · go_wp2
        · go_ret
          exact ⟨SomeBool.mk _, rfl⟩
        · go_ret
          exact ⟨SomeBool.mk _, rfl⟩
        go_loop [4, 5, 7] (fun r n i => ∃ k : Nat, k ≤ s1.length ∧ i = .int .i64 k ∧ (∃ x, n = .int .i64 x) ∧ BoolSlot r) (fun _ _ i => s1.length - (intOf i).toNat)
        case atStart => exact ⟨0, Nat.zero_le _, rfl, ⟨_, rfl⟩, BoolSlot.mk _⟩
        case round =>
          obtain ⟨k1, hk1, rfl, ⟨x1, rfl⟩, ⟨b1, rfl⟩⟩ := hrel
          by_cases hlt1 : k1 < s1.length
          · obtain ⟨b, off, rfl, hc⟩ := h1.read hlt1
            go_wp2
            · go_ret
              exact ⟨SomeBool.mk _, rfl⟩
            · go_ret
              exact ⟨SomeBool.mk _, rfl⟩
            · go_round
              case rel => exact ⟨k1 + 1, by omega, by go_num, ⟨_, rfl⟩, BoolSlot.mk _⟩
              case measure => simp [intOf]; omega
          · go_wp2
            go_ret
            exact ⟨SomeBool.mk _, rfl⟩
  · have g1 : (1048576 : Int) < (s0.length : Int) := by omega
    go_enter Try.func15, Try.ntmps15
    go_wp2
    go_ret
    exact ⟨SomeBool.mk _, rfl⟩

set_option maxHeartbeats 2000000 in
/-- The size guard over 3 lists: some bool. -/
theorem guard3_any (a0 : Option Addr) (c0 : Nat) (s0 : List ByteArray) (a1 : Option Addr) (c1 : Nat) (s1 : List ByteArray) (a2 : Option Addr) (c2 : Nat) (s2 : List ByteArray) (w : World)
    (h0 : StrRow w a0 s0) (h1 : StrRow w a1 s1) (h2 : StrRow w a2 s2) (m0 : s0.length ≤ maxLen) (m1 : s1.length ≤ maxLen) (m2 : s2.length ≤ maxLen) :
    Calls Try.prog 13 #[.slice a0 s0.length c0, .slice a1 s1.length c1, .slice a2 s2.length c2] w fun e w' => SomeBool e ∧ w' = w := by
  unfold maxLen at m0 m1 m2
  by_cases g0 : s0.length ≤ 1048576
  · go_enter Try.func13, Try.ntmps13
    go_wp2
    go_loop [6, 7, 8] (fun r n i => ∃ k : Nat, k ≤ s0.length ∧ i = .int .i64 k ∧ (∃ x, n = .int .i64 x) ∧ BoolSlot r) (fun _ _ i => s0.length - (intOf i).toNat)
    case atStart => exact ⟨0, Nat.zero_le _, rfl, ⟨_, rfl⟩, BoolSlot.mk _⟩
    case round =>
      obtain ⟨k0, hk0, rfl, ⟨x0, rfl⟩, ⟨b0, rfl⟩⟩ := hrel
      by_cases hlt0 : k0 < s0.length
      · obtain ⟨b, off, rfl, hc⟩ := h0.read hlt0
        go_wp2
        · go_ret
          exact ⟨SomeBool.mk _, rfl⟩
        · go_ret
          exact ⟨SomeBool.mk _, rfl⟩
        · go_round
          case rel => exact ⟨k0 + 1, by omega, by go_num, ⟨_, rfl⟩, BoolSlot.mk _⟩
          case measure => simp [intOf]; omega
      · go_wp2
        · go_ret
          exact ⟨SomeBool.mk _, rfl⟩
        · go_ret
          exact ⟨SomeBool.mk _, rfl⟩
        go_loop [6, 7, 9] (fun r n i => ∃ k : Nat, k ≤ s1.length ∧ i = .int .i64 k ∧ (∃ x, n = .int .i64 x) ∧ BoolSlot r) (fun _ _ i => s1.length - (intOf i).toNat)
        case atStart => exact ⟨0, Nat.zero_le _, rfl, ⟨_, rfl⟩, BoolSlot.mk _⟩
        case round =>
          obtain ⟨k1, hk1, rfl, ⟨x1, rfl⟩, ⟨b1, rfl⟩⟩ := hrel
          by_cases hlt1 : k1 < s1.length
          · obtain ⟨b, off, rfl, hc⟩ := h1.read hlt1
            go_wp2
            · go_ret
              exact ⟨SomeBool.mk _, rfl⟩
            · go_ret
              exact ⟨SomeBool.mk _, rfl⟩
            · go_round
              case rel => exact ⟨k1 + 1, by omega, by go_num, ⟨_, rfl⟩, BoolSlot.mk _⟩
              case measure => simp [intOf]; omega
          · go_wp2
            · go_ret
              exact ⟨SomeBool.mk _, rfl⟩
            · go_ret
              exact ⟨SomeBool.mk _, rfl⟩
            go_loop [6, 7, 10] (fun r n i => ∃ k : Nat, k ≤ s2.length ∧ i = .int .i64 k ∧ (∃ x, n = .int .i64 x) ∧ BoolSlot r) (fun _ _ i => s2.length - (intOf i).toNat)
            case atStart => exact ⟨0, Nat.zero_le _, rfl, ⟨_, rfl⟩, BoolSlot.mk _⟩
            case round =>
              obtain ⟨k2, hk2, rfl, ⟨x2, rfl⟩, ⟨b2, rfl⟩⟩ := hrel
              by_cases hlt2 : k2 < s2.length
              · obtain ⟨b, off, rfl, hc⟩ := h2.read hlt2
                go_wp2
                · go_ret
                  exact ⟨SomeBool.mk _, rfl⟩
                · go_ret
                  exact ⟨SomeBool.mk _, rfl⟩
                · go_round
                  case rel => exact ⟨k2 + 1, by omega, by go_num, ⟨_, rfl⟩, BoolSlot.mk _⟩
                  case measure => simp [intOf]; omega
              · go_wp2
                go_ret
                exact ⟨SomeBool.mk _, rfl⟩
  · have g1 : (1048576 : Int) < (s0.length : Int) := by omega
    go_enter Try.func13, Try.ntmps13
    go_wp2
    go_ret
    exact ⟨SomeBool.mk _, rfl⟩

end Go.Proofs.Qxb6001205a
