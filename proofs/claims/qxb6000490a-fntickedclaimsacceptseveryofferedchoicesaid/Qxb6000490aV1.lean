/- Walks of the functions that only read slices of strings. -/
import Derived.Test.Qxb6000490aRows
import Derived.WalkKit
import Derived.WalkSpells
import Derived.WalkLawsBesides
import Derived.Deep.QuietTactic
import Derived.BigQuiet
namespace Go.Proofs.Qxb6000490a
open Go.RowKit

theorem hide {p : Prop} (h : p) : Hid p := h
theorem unhide {p : Prop} (h : Hid p) : p := h

/-- The slice value with address 'a' reads, in the world w, as the strings ss. -/
def StrRow (w : World) (a : Option Addr) (ss : List ByteArray) : Prop :=
  ss ≠ [] → ∃ b off, a = some ⟨b, off, none⟩ ∧ b < w.heap.size ∧ ∀ i, i < ss.length → w.cell? ⟨b, off + i, none⟩ = some (.string (ss.getD i ByteArray.empty))

theorem StrRow.read {w : World} {a : Option Addr} {ss : List ByteArray} (h : StrRow w a ss) {k : Nat} (hk : k < ss.length) :
    ∃ b off, a = some ⟨b, off, none⟩ ∧ w.cell? ⟨b, off + k, none⟩ = some (.string (ss.getD k ByteArray.empty)) := by
  obtain ⟨b, off, e, _, hc⟩ := h (by intro e; subst e; simp at hk)
  exact ⟨b, off, e, hc k hk⟩

theorem StrRow.below {w w' : World} {a : Option Addr} {ss : List ByteArray} (h : StrRow w a ss) (hb : Below w.heap.size w w') : StrRow w' a ss := by
  intro hne
  obtain ⟨b, off, e, hlt, hc⟩ := h hne
  exact ⟨b, off, e, Nat.lt_of_lt_of_le hlt hb.size, fun i hi => (hb.cell (p := ⟨b, off + i, none⟩) hlt).trans (hc i hi)⟩

theorem StrRow.nil (w : World) (a : Option Addr) : StrRow w a [] := fun h => absurd rfl h

set_option maxHeartbeats 400000 in
/-- stringBytes: some number. -/
theorem bytes_any (a : Option Addr) (cap : Nat) (ss : List ByteArray) (w : World) (h : StrRow w a ss) (hm : ss.length ≤ maxLen) :
    Calls Try.prog 7 #[.slice a ss.length cap] w fun e w' => (∃ x, e = .returned (.int .i64 x)) ∧ w' = w := by
  unfold maxLen at hm
  go_enter Try.func7, Try.ntmps7
  go_wp2
  go_loop [3, 4] (fun n i => ∃ k : Nat, k ≤ ss.length ∧ i = .int .i64 k ∧ ∃ x, n = .int .i64 x) (fun _ i => ss.length - (intOf i).toNat)
  case atStart => exact ⟨0, Nat.zero_le _, rfl, _, rfl⟩
  case round =>
    obtain ⟨k, hk, rfl, x, rfl⟩ := hrel
    by_cases hlt : k < ss.length
    · obtain ⟨b, off, rfl, hc⟩ := h.read hlt
      go_wp2
      go_round
      case rel => exact ⟨k + 1, by omega, by go_num, _, rfl⟩
      case measure => simp [intOf]; omega
    · go_wp2
      go_ret
      exact ⟨⟨_, rfl⟩, rfl⟩

theorem ret_bool {a b : Bool} (h : a = b) : Ending.returned (.bool a) = .returned (.bool b) := by rw [h]

theorem str_eq_iff (s t : ByteArray) : (s.toList == t.toList) = true ↔ s = t := by
  rw [beq_iff_eq]
  constructor
  · intro h
    cases s; cases t
    simpa [ByteArray.toList_eq] using h
  · rintro rfl; rfl

/-- Is s among ss? -/
def inS (ss : List ByteArray) (s : ByteArray) : Bool := ss.any fun t => t.toList == s.toList

theorem inS_iff (ss : List ByteArray) (s : ByteArray) : inS ss s = true ↔ s ∈ ss := by
  unfold inS
  rw [List.any_eq_true]
  constructor
  · rintro ⟨t, ht, he⟩
    rw [← (str_eq_iff _ _).1 he]; exact ht
  · intro h
    exact ⟨s, h, (str_eq_iff _ _).2 rfl⟩

theorem inS_false {ss : List ByteArray} {s : ByteArray} (h : ¬ s ∈ ss) : inS ss s = false := by
  rw [← Bool.not_eq_true, inS_iff]; exact h

theorem getD_at {ss : List ByteArray} {k : Nat} (hk : k < ss.length) : ss.getD k ByteArray.empty = ss[k] := by
  simp [List.getD, hk]

theorem contains_hit {ss : List ByteArray} {s t : ByteArray} {k : Nat} (hk : k < ss.length) (ht : t = ss.getD k ByteArray.empty) (he : (t.toList == s.toList) = true) : inS ss s = true := by
  have := (str_eq_iff _ _).1 he
  subst this
  rw [inS_iff, ht, getD_at hk]
  exact List.getElem_mem hk

theorem contains_step {ss : List ByteArray} {s t : ByteArray} {k : Nat} (hk : k < ss.length) (hn : ¬ s ∈ ss.take k) (ht : t = ss.getD k ByteArray.empty) (he : (t.toList == s.toList) = false) : ¬ s ∈ ss.take (k + 1) := by
  have hne : ¬ t = s := fun h => by rw [(str_eq_iff _ _).2 h] at he; cases he
  rw [List.take_succ_eq_append_getElem hk, List.mem_append, List.mem_singleton]
  rintro (h | h)
  · exact hn h
  · rw [getD_at hk] at ht
    exact hne (ht.trans h.symm)

set_option maxHeartbeats 400000 in
/-- slices.Index: at least 0 just where the string is among them. -/
theorem index_any (a : Option Addr) (cap : Nat) (ss : List ByteArray) (s : ByteArray) (w : World) (h : StrRow w a ss) (hm : ss.length ≤ maxLen) :
    Calls Try.prog 19 #[.slice a ss.length cap, .string s] w fun e w' => (∃ x, e = .returned (.int .i64 x) ∧ decide (0 ≤ x) = inS ss s) ∧ w' = w := by
  unfold maxLen at hm
  go_enter Try.func19, Try.ntmps19
  go_wp2
  go_loop [8] (fun i => ∃ k : Nat, k ≤ ss.length ∧ i = .int .i64 k ∧ ¬ s ∈ ss.take k) (fun i => ss.length - (intOf i).toNat)
  case atStart => exact ⟨0, Nat.zero_le _, rfl, by simp⟩
  case round =>
    obtain ⟨k, hk, rfl, hno⟩ := hrel
    have HN : Hid (¬ s ∈ ss.take k) := hno
    clear hno
    by_cases hlt : k < ss.length
    · obtain ⟨b, off, rfl, hc⟩ := h.read hlt
      obtain ⟨t, ht⟩ : ∃ t, t = ss.getD k ByteArray.empty := ⟨_, rfl⟩
      rw [← ht] at hc
      have HT : Hid (t = ss.getD k ByteArray.empty) := ht
      clear ht
      go_wp2
      · have he : (s.toList == t.toList) = true := by assumption
        go_ret
        exact ⟨⟨k, rfl, by rw [contains_hit hlt HT.out (by rw [BEq.comm]; exact he)]; simp⟩, rfl⟩
      · have he : (s.toList == t.toList) = false := by assumption
        go_round
        case rel => exact ⟨k + 1, by omega, by go_num, contains_step hlt HN.out HT.out (by rw [BEq.comm]; exact he)⟩
        case measure => simp [intOf]; omega
    · go_wp2
      go_ret
      exact ⟨⟨-1, rfl, by have := HN.out; rw [List.take_of_length_le (by omega)] at this; rw [inS_false this]; rfl⟩, rfl⟩

set_option maxHeartbeats 400000 in
/-- slices.Contains. -/
theorem contains_any (a : Option Addr) (cap : Nat) (ss : List ByteArray) (s : ByteArray) (w : World) (h : StrRow w a ss) (hm : ss.length ≤ maxLen) :
    Calls Try.prog 17 #[.slice a ss.length cap, .string s] w fun e w' => e = .returned (.bool (inS ss s)) ∧ w' = w := by
  go_enter Try.func17, Try.ntmps17
  go_wp2_with fail
  refine (index_any a cap ss s w h hm).mono ?_
  rintro e w' ⟨⟨x, rfl, hx⟩, rfl⟩
  have HX : Hid (decide (0 ≤ x) = inS ss s) := hx
  clear hx
  go_wp2_with fail
  go_ret
  exact ⟨ret_bool HX.out, rfl⟩

/-- The call ends in some bool. -/
def SomeBool (e : Ending) : Prop := ∃ b, e = .returned (.bool b)
theorem SomeBool.mk (b : Bool) : SomeBool (.returned (.bool b)) := ⟨b, rfl⟩
/-- The slot holds some bool. -/
def BoolSlot (v : Value) : Prop := ∃ b, v = .bool b
theorem BoolSlot.mk (b : Bool) : BoolSlot (.bool b) := ⟨b, rfl⟩

end Go.Proofs.Qxb6000490a
