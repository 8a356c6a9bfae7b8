/- Walks of CutPrefix, offersValue and tickedClaims. -/
import Derived.Test.Qxb6000490aV3
namespace Go.Proofs.Qxb6000490a
open Go.RowKit

/-- The string begins with the six bytes of the prefix. -/
def isPre (s : ByteArray) : Bool := decide (6 ≤ s.size) && ((s.extract 0 6).toList == [99, 108, 97, 105, 109, 58])
/-- What stands behind the prefix. -/
def rest (s : ByteArray) : ByteArray := s.extract 6 s.size

set_option maxHeartbeats 400000 in
theorem hasPrefix_any (s : ByteArray) (w : World) (hs : s.size ≤ 2097152) :
    Calls Try.prog 20 #[.string s, .string ⟨#[99, 108, 97, 105, 109, 58]⟩] w fun e w' => e = .returned (.bool (isPre s)) ∧ w' = w := by
  by_cases h6 : 6 ≤ s.size
  · have h6i : (6 : Int) ≤ (s.size : Int) := by omega
    have hp : isPre s = ((s.extract 0 6).toList == [99, 108, 97, 105, 109, 58]) := by simp [isPre, h6]
    rw [hp]
    clear hp
    go_enter Try.func20, Try.ntmps20
    go_wp2
    go_ret
    exact ⟨rfl, rfl⟩
  · have hp : isPre s = false := by simp [isPre, h6]
    rw [hp]
    clear hp
    have hd : decide ((6 : Int) ≤ (s.size : Int)) = false := by simp; omega
    go_enter Try.func20, Try.ntmps20
    go_wp2
    go_ret
    exact ⟨rfl, rfl⟩

theorem isPre_le {s : ByteArray} (h : isPre s = true) : 6 ≤ s.size := by
  unfold isPre at h
  simp only [Bool.and_eq_true, decide_eq_true_eq] at h
  exact h.1

set_option maxHeartbeats 400000 in
theorem cutLite_yes (s : ByteArray) (w : World) (hs : s.size ≤ 2097152) (h : isPre s = true) :
    Calls Try.prog 18 #[.string s, .string ⟨#[99, 108, 97, 105, 109, 58]⟩] w fun e w' => e = .returned (.tuple #[.string (rest s), .bool true]) ∧ w' = w := by
  have h6 := isPre_le h
  have h6i : (6 : Int) ≤ (s.size : Int) := by omega
  go_enter Try.func18, Try.ntmps18
  go_wp2_with fail
  refine (hasPrefix_any s w hs).mono ?_
  rintro e w' ⟨rfl, rfl⟩
  rw [h]
  go_wp2
  go_ret2
  exact ⟨rfl, rfl⟩

set_option maxHeartbeats 400000 in
theorem cutLite_no (s : ByteArray) (w : World) (hs : s.size ≤ 2097152) (h : isPre s = false) :
    Calls Try.prog 18 #[.string s, .string ⟨#[99, 108, 97, 105, 109, 58]⟩] w fun e w' => e = .returned (.tuple #[.string s, .bool false]) ∧ w' = w := by
  go_enter Try.func18, Try.ntmps18
  go_wp2_with fail
  refine (hasPrefix_any s w hs).mono ?_
  rintro e w' ⟨rfl, rfl⟩
  rw [h]
  go_wp2
  go_ret2
  exact ⟨rfl, rfl⟩

set_option maxHeartbeats 400000 in
theorem cut_yes (s : ByteArray) (w : World) (hs : s.size ≤ 2097152) (h : isPre s = true) :
    Calls Try.prog 16 #[.string s, .string ⟨#[99, 108, 97, 105, 109, 58]⟩] w fun e w' => e = .returned (.tuple #[.string (rest s), .bool true]) ∧ w' = w := by
  go_enter Try.func16, Try.ntmps16
  go_wp2_with fail
  refine (cutLite_yes s w hs h).mono ?_
  rintro e w' ⟨rfl, rfl⟩
  go_wp2
  go_ret2
  exact ⟨rfl, rfl⟩

set_option maxHeartbeats 400000 in
theorem cut_no (s : ByteArray) (w : World) (hs : s.size ≤ 2097152) (h : isPre s = false) :
    Calls Try.prog 16 #[.string s, .string ⟨#[99, 108, 97, 105, 109, 58]⟩] w fun e w' => e = .returned (.tuple #[.string s, .bool false]) ∧ w' = w := by
  go_enter Try.func16, Try.ntmps16
  go_wp2_with fail
  refine (cutLite_no s w hs h).mono ?_
  rintro e w' ⟨rfl, rfl⟩
  go_wp2
  go_ret2
  exact ⟨rfl, rfl⟩

/-- A ticked value that the page offers. -/
def okV (offered : List ByteArray) (v : ByteArray) : Bool := isPre v && inS offered (rest v)

theorem rest_size (v : ByteArray) : (rest v).size = v.size - 6 := by simp [rest]

theorem okV_iff (offered : List ByteArray) (v : ByteArray) : okV offered v = true ↔ isPre v = true ∧ rest v ∈ offered := by
  unfold okV; rw [Bool.and_eq_true, inS_iff]

theorem okV_hit {offered : List ByteArray} {v o : ByteArray} {k : Nat} (hk : k < offered.length) (ho : o = offered.getD k ByteArray.empty) (h1 : isPre v = true) (h2 : ((rest v).toList == o.toList) = true) : okV offered v = true := by
  rw [okV_iff]
  refine ⟨h1, ?_⟩
  rw [(str_eq_iff _ _).1 h2, ho, getD_at hk]
  exact List.getElem_mem hk

/-- No match among the first k. -/
def NoTo (offered : List ByteArray) (v : ByteArray) (k : Nat) : Prop := ¬ (isPre v = true ∧ rest v ∈ offered.take k)

theorem NoTo.step {offered : List ByteArray} {v o : ByteArray} {k : Nat} (h : NoTo offered v k) (hk : k < offered.length) (ho : o = offered.getD k ByteArray.empty) (hn : ¬ (isPre v = true ∧ rest v = o)) : NoTo offered v (k + 1) := by
  rintro ⟨h1, h2⟩
  rw [List.take_succ_eq_append_getElem hk, List.mem_append, List.mem_singleton] at h2
  rcases h2 with h2 | h2
  · exact h ⟨h1, h2⟩
  · rw [getD_at hk] at ho
    exact hn ⟨h1, h2.trans ho.symm⟩

theorem NoTo.end {offered : List ByteArray} {v : ByteArray} {k : Nat} (h : NoTo offered v k) (hk : offered.length ≤ k) : okV offered v = false := by
  rw [← Bool.not_eq_true, okV_iff]
  unfold NoTo at h
  rwa [List.take_of_length_le hk] at h

set_option maxHeartbeats 400000 in
/-- offersValue. -/
theorem offers_any (a : Option Addr) (cap : Nat) (ss : List ByteArray) (t : ByteArray) (w : World) (h : StrRow w a ss) (hm : ss.length ≤ 4096) (hS : Short ss) (ht : t.size ≤ 2097152) :
    Calls Try.prog 12 #[.slice a ss.length cap, .string t] w fun e w' => e = .returned (.bool (okV ss t)) ∧ w' = w := by
  go_enter Try.func12, Try.ntmps12
  go_wp2
  go_loop [5] (fun i => ∃ k : Nat, k ≤ ss.length ∧ i = .int .i64 k ∧ NoTo ss t k) (fun i => ss.length - (intOf i).toNat)
  case atStart => exact ⟨0, Nat.zero_le _, rfl, by simp [NoTo]⟩
  case round =>
    obtain ⟨k, hk, rfl, N⟩ := hrel
    by_cases hlt : k < ss.length
    · obtain ⟨b, off, rfl, hc⟩ := h.read hlt
      obtain ⟨o, ho⟩ : ∃ o, o = ss.getD k ByteArray.empty := ⟨_, rfl⟩
      have hos : o.size ≤ 2097152 := by rw [ho, getD_at hlt]; exact hS _ (List.getElem_mem hlt)
      rw [← ho] at hc
      have HO := hide ho
      clear ho
      by_cases e1 : t.size = 6 + o.size
      · have e1i : ((t.size : Int) == 6 + (o.size : Int)) = true := beq_iff_eq.2 (by omega)
        have h6 : 6 ≤ t.size := by omega
        have h6i : (6 : Int) ≤ (t.size : Int) := by omega
        have hp : isPre t = ((t.extract 0 6).toList == [99, 108, 97, 105, 109, 58]) := by simp [isPre, h6]
        have HP := hide hp
        have HE := hide e1
        clear hp e1
        cases e2 : ((t.extract 0 6).toList == [99, 108, 97, 105, 109, 58]) with
        | false =>
          have N' := N.step hlt HO.out (o := o) (by rintro ⟨p, _⟩; rw [HP.out, e2] at p; cases p)
          clear N
          go_wp2
          go_round
          case rel => exact ⟨k + 1, by omega, by go_num, N'⟩
          case measure => simp [intOf]; omega
        | true =>
          cases e3 : ((t.extract 6 t.size).toList == o.toList) with
          | false =>
            have N' := N.step hlt HO.out (o := o) (by rintro ⟨_, r⟩; rw [show t.extract 6 t.size = o from r, (str_eq_iff _ _).2 rfl] at e3; cases e3)
            clear N
            go_wp2
            go_round
            case rel => exact ⟨k + 1, by omega, by go_num, N'⟩
            case measure => simp [intOf]; omega
          | true =>
            have H1 := hide (okV_hit hlt HO.out (by rw [HP.out]; exact e2) e3)
            go_wp2
            go_ret
            exact ⟨ret_bool H1.out.symm, rfl⟩
      · have e1i : ((t.size : Int) == 6 + (o.size : Int)) = false := beq_eq_false_iff_ne.2 (by omega)
        have N' := N.step hlt HO.out (o := o) (by rintro ⟨p, r⟩; have := isPre_le p; have q := rest_size t; rw [r] at q; omega)
        clear N
        go_wp2
        go_round
        case rel => exact ⟨k + 1, by omega, by go_num, N'⟩
        case measure => simp [intOf]; omega
    · go_wp2
      go_ret
      exact ⟨ret_bool (N.end (by omega)).symm, rfl⟩
end Go.Proofs.Qxb6000490a
