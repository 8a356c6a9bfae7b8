/- Walks over slices of candidates. -/
import Derived.Test.Qxb6001205aW3
namespace Go.Proofs.Qxb6001205a
open Go.RowKit

abbrev Cand := ByteArray × ByteArray
def noCand : Cand := (ByteArray.empty, ByteArray.empty)

/-- The slice value with address 'a' reads, in the world w, as the candidates cs (id, name). -/
def CandRow (w : World) (a : Option Addr) (cs : List Cand) : Prop :=
  cs ≠ [] → ∃ b off, a = some ⟨b, off, none⟩ ∧ b < w.heap.size ∧ ∀ i, i < cs.length → w.cell? ⟨b, off + i * 2, none⟩ = some (.string (cs.getD i noCand).1) ∧ w.cell? ⟨b, off + i * 2 + 1, none⟩ = some (.string (cs.getD i noCand).2)

theorem CandRow.read {w : World} {a : Option Addr} {cs : List Cand} (h : CandRow w a cs) {k : Nat} (hk : k < cs.length) :
    ∃ b off, a = some ⟨b, off, none⟩ ∧ w.cell? ⟨b, off + k * 2, none⟩ = some (.string (cs.getD k noCand).1) ∧ w.cell? ⟨b, off + k * 2 + 1, none⟩ = some (.string (cs.getD k noCand).2) := by
  obtain ⟨b, off, e, _, hc⟩ := h (by intro e; subst e; simp at hk)
  exact ⟨b, off, e, (hc k hk).1, (hc k hk).2⟩

theorem CandRow.below {w w' : World} {a : Option Addr} {cs : List Cand} (h : CandRow w a cs) (hb : Below w.heap.size w w') : CandRow w' a cs := by
  intro hne
  obtain ⟨b, off, e, hlt, hc⟩ := h hne
  exact ⟨b, off, e, Nat.lt_of_lt_of_le hlt hb.size, fun i hi => ⟨(hb.cell (p := ⟨b, off + i * 2, none⟩) hlt).trans (hc i hi).1, (hb.cell (p := ⟨b, off + i * 2 + 1, none⟩) hlt).trans (hc i hi).2⟩⟩

set_option maxHeartbeats 400000 in
/-- zzSame, at two slices that read alike. -/
theorem same_any (a b : Option Addr) (ca cb : Nat) (cs : List Cand) (w : World) (ha : CandRow w a cs) (hb : CandRow w b cs) (hm : cs.length ≤ maxLen) :
    Calls Try.prog 12 #[.slice a cs.length ca, .slice b cs.length cb] w fun e w' => e = .returned (.bool true) ∧ ∃ n, w' = w.drewN n := by
  unfold maxLen at hm
  go_enter Try.func12, Try.ntmps12
  go_wp2
  go_loopw [5] (fun i wr => ∃ k : Nat, k ≤ cs.length ∧ i = .int .i64 k ∧ ∃ n, wr = w.drewN n) (fun i _ => cs.length - (intOf i).toNat)
  case atStart => exact ⟨0, Nat.zero_le _, rfl, 0, rfl⟩
  case round =>
    obtain ⟨k, hk, rfl, n, rfl⟩ := hrel
    by_cases hlt : k < cs.length
    · obtain ⟨b1, o1, rfl, p1, p2⟩ := ha.read hlt
      obtain ⟨b2, o2, rfl, q1, q2⟩ := hb.read hlt
      obtain ⟨c, hc⟩ : ∃ c, c = cs.getD k noCand := ⟨_, rfl⟩
      obtain ⟨s, t⟩ := c
      rw [← hc] at p1 p2 q1 q2
      clear hc
      go_wp2
      go_quiet (fail)
      go_wp2
      go_roundw
      case rel => exact ⟨k + 1, by omega, by go_num, _, rfl⟩
      case measure => simp [intOf]; omega
    · go_wp2
      go_ret
      exact ⟨rfl, n, rfl⟩
end Go.Proofs.Qxb6001205a
