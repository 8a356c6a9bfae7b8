/- zzbFind. -/
import Derived.Test.Qxb6001503aT2
namespace Go.Proofs.Qxb6001503a
open Go.RowKit

/-- Strictly ascending. -/
def Asc (ks : List Int) : Prop := ks.Pairwise (· < ·)

theorem Asc.lt {ks : List Int} (h : Asc ks) {i j : Nat} (hij : i < j) (hj : j < ks.length) : ks[i]'(by omega) < ks[j] := (List.pairwise_iff_getElem.1 h) i j (by omega) hj hij

theorem num_at {ks : List Int} {k : Nat} (hk : k < ks.length) : ks.getD k 0 = ks[k] := by simp [List.getD, hk]

/-- The state of the search. -/
def Srch (ks : List Int) (v : Int) (l h : Nat) : Prop := l ≤ h ∧ h ≤ ks.length ∧ (∀ i (hi : i < ks.length), i < l → ks[i] < v) ∧ (∀ i (hi : i < ks.length), h ≤ i → v ≤ ks[i])

theorem Srch.start (ks : List Int) (v : Int) : Srch ks v 0 ks.length := ⟨Nat.zero_le _, Nat.le_refl _, fun i _ h => by omega, fun i _ h => by omega⟩

theorem Srch.up {ks : List Int} {v : Int} {l h m : Nat} (A : Asc ks) (s : Srch ks v l h) (hm : l ≤ m ∧ m < h) (ht : ks.getD m 0 < v) : Srch ks v (m + 1) h := by
  obtain ⟨s1, s2, s3, s4⟩ := s
  rw [num_at (by omega)] at ht
  refine ⟨by omega, s2, fun i hi hl => ?_, s4⟩
  by_cases e : i = m
  · subst e; exact ht
  · exact Int.lt_trans (A.lt (show i < m by omega) (by omega)) ht

theorem Srch.down {ks : List Int} {v : Int} {l h m : Nat} (A : Asc ks) (s : Srch ks v l h) (hm : l ≤ m ∧ m < h) (ht : ¬ ks.getD m 0 < v) : Srch ks v l m := by
  obtain ⟨s1, s2, s3, s4⟩ := s
  rw [num_at (by omega)] at ht
  refine ⟨by omega, by omega, s3, fun i hi hl => ?_⟩
  by_cases e : i = m
  · subst e; omega
  · have := A.lt (show m < i by omega) hi; omega

theorem Srch.hit {ks : List Int} {v : Int} {l : Nat} (A : Asc ks) (s : Srch ks v l l) {j : Nat} (hj : j < ks.length) (hv : ks[j] = v) : l = j := by
  obtain ⟨s1, s2, s3, s4⟩ := s
  rcases Nat.lt_trichotomy l j with h | h | h
  · have h1 := s4 l (by omega) (Nat.le_refl _)
    have h2 := A.lt h hj
    omega
  · exact h
  · have := s3 j hj h
    omega

set_option maxHeartbeats 1000000 in
/-- zzbFind, v there. -/
theorem find_hit (a : Option Addr) (cap : Nat) (ks : List Int) (v : Int) (w : World) (h : NumRow w a ks) (hm : ks.length ≤ 4096) (A : Asc ks) (j : Nat) (hj : j < ks.length) (hv : ks[j] = v) :
    Calls Try.prog 11 #[.slice a ks.length cap, .int .i64 v] w fun e w' => e = .returned (.int .i64 j) ∧ w' = w := by
  have HV := hide hv
  have HA := hide A
  clear hv A
  go_enter Try.func11, Try.ntmps11
  go_wp2
  go_loop [5, 6] (fun x y => ∃ l r : Nat, l ≤ r ∧ r ≤ ks.length ∧ x = .int .i64 l ∧ y = .int .i64 r ∧ Hid (Srch ks v l r)) (fun x y => (intOf y).toNat - (intOf x).toNat)
  case atStart => exact ⟨0, ks.length, Nat.zero_le _, Nat.le_refl _, rfl, rfl, Srch.start _ _⟩
  case round =>
    obtain ⟨l, r, hlr, hr, rfl, rfl, S⟩ := hrel
    by_cases hlt : l < r
    · obtain ⟨m, hm1⟩ : ∃ m : Nat, (l : Int) + ((r : Int) - (l : Int)) / 2 = (m : Int) := ⟨l + (r - l) / 2, by omega⟩
      have hm2 : l ≤ m ∧ m < r := by omega
      obtain ⟨b, off, rfl, hc⟩ := h.read (k := m) (by omega)
      obtain ⟨t, ht⟩ : ∃ t, t = ks.getD m 0 := ⟨_, rfl⟩
      rw [← ht] at hc
      have HT := hide ht
      clear ht
      obtain ⟨hm3, hm4⟩ := hm2
      by_cases htv : t < v
      · have S' := hide (S.out.up HA.out ⟨hm3, hm4⟩ (by rw [← HT.out]; exact htv))
        go_wp2
        go_round
        case rel => exact ⟨m + 1, r, by omega, hr, by go_num, rfl, S'⟩
        case measure => simp [intOf]; omega
      · have S' := hide (S.out.down HA.out ⟨hm3, hm4⟩ (by rw [← HT.out]; exact htv))
        go_wp2
        go_round
        case rel => exact ⟨l, m, by omega, by omega, rfl, rfl, S'⟩
        case measure => simp [intOf]; omega
    · obtain rfl : l = r := by omega
      have el := S.out.hit HA.out hj HV.out
      subst el
      obtain ⟨b, off, rfl, hc⟩ := h.read hj
      rw [num_at hj, HV.out] at hc
      have g1 : (l : Int) < (ks.length : Int) := by omega
      go_wp2
      go_ret
      exact ⟨rfl, rfl⟩

set_option maxHeartbeats 1000000 in
/-- zzbFind, v not there. -/
theorem find_miss (a : Option Addr) (cap : Nat) (ks : List Int) (v : Int) (w : World) (h : NumRow w a ks) (hm : ks.length ≤ 4096) (A : Asc ks) (hv : ¬ v ∈ ks) :
    Calls Try.prog 11 #[.slice a ks.length cap, .int .i64 v] w fun e w' => e = .returned (.int .i64 (-1)) ∧ w' = w := by
  have HV := hide hv
  have HA := hide A
  clear hv A
  go_enter Try.func11, Try.ntmps11
  go_wp2
  go_loop [5, 6] (fun x y => ∃ l r : Nat, l ≤ r ∧ r ≤ ks.length ∧ x = .int .i64 l ∧ y = .int .i64 r ∧ Hid (Srch ks v l r)) (fun x y => (intOf y).toNat - (intOf x).toNat)
  case atStart => exact ⟨0, ks.length, Nat.zero_le _, Nat.le_refl _, rfl, rfl, Srch.start _ _⟩
  case round =>
    obtain ⟨l, r, hlr, hr, rfl, rfl, S⟩ := hrel
    by_cases hlt : l < r
    · obtain ⟨m, hm1⟩ : ∃ m : Nat, (l : Int) + ((r : Int) - (l : Int)) / 2 = (m : Int) := ⟨l + (r - l) / 2, by omega⟩
      have hm2 : l ≤ m ∧ m < r := by omega
      obtain ⟨b, off, rfl, hc⟩ := h.read (k := m) (by omega)
      obtain ⟨t, ht⟩ : ∃ t, t = ks.getD m 0 := ⟨_, rfl⟩
      rw [← ht] at hc
      have HT := hide ht
      clear ht
      obtain ⟨hm3, hm4⟩ := hm2
      by_cases htv : t < v
      · have S' := hide (S.out.up HA.out ⟨hm3, hm4⟩ (by rw [← HT.out]; exact htv))
        go_wp2
        go_round
        case rel => exact ⟨m + 1, r, by omega, hr, by go_num, rfl, S'⟩
        case measure => simp [intOf]; omega
      · have S' := hide (S.out.down HA.out ⟨hm3, hm4⟩ (by rw [← HT.out]; exact htv))
        go_wp2
        go_round
        case rel => exact ⟨l, m, by omega, by omega, rfl, rfl, S'⟩
        case measure => simp [intOf]; omega
    · by_cases hl : l < ks.length
      · obtain ⟨b, off, rfl, hc⟩ := h.read hl
        have hne : (ks.getD l 0 == v) = false := by
          rw [num_at hl, beq_eq_false_iff_ne]
          intro e
          exact HV.out (by rw [← e]; exact List.getElem_mem hl)
        obtain ⟨t, ht⟩ : ∃ t, t = ks.getD l 0 := ⟨_, rfl⟩
        rw [← ht] at hc hne
        clear ht
        have g1 : (l : Int) < (ks.length : Int) := by omega
        go_wp2
        go_ret
        exact ⟨rfl, rfl⟩
      · have g1 : decide ((l : Int) < (ks.length : Int)) = false := by simp; omega
        go_wp2
        go_ret
        exact ⟨rfl, rfl⟩
end Go.Proofs.Qxb6001503a
