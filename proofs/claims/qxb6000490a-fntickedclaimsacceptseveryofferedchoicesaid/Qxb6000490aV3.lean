/- Walks of the functions that make a new slice of strings. -/
import Derived.Test.Qxb6000490aV2
namespace Go.Proofs.Qxb6000490a
open Go.RowKit

theorem info9 : (Try.prog.info? 9).map (fun i => (i.zero, i.size, i.bytes)) = some (some (.string ByteArray.empty), 1, 16) := by kernel_rfl

/-- A new row of n strings at block B, of which the first k are f 0 .. f (k-1). -/
def Fill (w : World) (B n k : Nat) (f : Nat → ByteArray) : Prop :=
  ∃ xs, w.ownsRow B 9 1 (.slice (some ⟨B, 0, none⟩) n n) n xs ∧ ∀ j, j < k → xs[j]? = some (.string (f j))

theorem Fill.start {w : World} {B n : Nat} {xs : List Value} (h : w.ownsRow B 9 1 (.slice (some ⟨B, 0, none⟩) n n) n xs) (f : Nat → ByteArray) : Fill w B n 0 f :=
  ⟨xs, h, fun j hj => by omega⟩

theorem Fill.cell {w : World} {B n k : Nat} {f : Nat → ByteArray} (h : Fill w B n k f) (hk : k < n) : ∃ u, w.cell? ⟨B, k, none⟩ = some u := by
  obtain ⟨xs, h, _⟩ := h
  have hl : xs.length = n := by simpa using h.1
  exact ⟨xs[k], by rw [h.cellAt k (by omega)]; exact List.getElem?_eq_getElem (by omega)⟩

theorem Fill.frozen {w : World} {B n k : Nat} {f : Nat → ByteArray} (h : Fill w B n k f) : w.frozen? ⟨B, k, none⟩ = false := by
  obtain ⟨xs, h, _⟩ := h
  exact h.frozenAt k

theorem Fill.store {w : World} {B n k : Nat} {f : Nat → ByteArray} (h : Fill w B n k f) (hk : k < n) {s : ByteArray} (hs : s = f k) : Fill (w.setCell ⟨B, k, none⟩ (.string s)) B n (k + 1) f := by
  obtain ⟨xs, h, hx⟩ := h
  have hl : xs.length = n := by simpa using h.1
  refine ⟨_, (h.stored k (.string s)).1, fun j hj => ?_⟩
  by_cases e : k = j
  · subst e; rw [List.getElem?_set_self (by omega), hs]
  · rw [List.getElem?_set_ne e]; exact hx j (by omega)

theorem Fill.done {w : World} {B n : Nat} {f : Nat → ByteArray} (h : Fill w B n n f) {ss : List ByteArray} (hl : ss.length = n) (he : ∀ j, j < n → ss.getD j ByteArray.empty = f j) : StrRow w (some ⟨B, 0, none⟩) ss := by
  intro hne
  obtain ⟨xs, h, hx⟩ := h
  refine ⟨B, 0, rfl, ?_, fun i hi => ?_⟩
  · rcases h.2 with ⟨h', _⟩ | ⟨g', cap', cur, h', _, hg, _⟩
    · simp at h'
    · simp only [Value.slice.injEq, Option.some.injEq, Addr.mk.injEq, and_true, true_and] at h'
      obtain ⟨rfl, rfl⟩ := h'
      exact (Array.getElem?_eq_some_iff.1 hg).1
  · rw [Nat.zero_add, h.cellAt i (by omega), hx i (by omega), he i (by omega)]

set_option maxHeartbeats 400000 in
/-- cloneStrings. -/
theorem copy_any (a : Option Addr) (cap : Nat) (ss : List ByteArray) (w : World) (h : StrRow w a ss) (hm : ss.length ≤ 4096) :
    Calls Try.prog 8 #[.slice a ss.length cap] w fun e w' => ∃ a' cap', e = .returned (.slice a' ss.length cap') ∧ StrRow w' a' ss ∧ Below w.heap.size w w' := by
  have q22 : ∀ (w : World) (a : Option Addr) (n c n' c' : Nat), (binOp .eql 22 (.slice a n c) (.slice none n' c')).run Try.prog w = .ok (.bool a.isNone) w := fun w a n c n' c' => Lib.run_eql_slice_nil w _ _ a n c n' c' Try.underlying22
  cases a with
  | none =>
    have e : ss = [] := by
      rcases ss with _ | ⟨s, ss⟩
      · rfl
      · obtain ⟨_, _, e, _⟩ := h (by simp); cases e
    subst e
    go_enter Try.func8, Try.ntmps8
    go_wp2
    go_ret
    exact ⟨none, 0, rfl, h, Below.refl _ _⟩
  | some x =>
    obtain ⟨i0, hi, hz0, hz1, hz2⟩ := info_parts info9
    go_enter Try.func8, Try.ntmps8
    go_wp2_with (at_make; refine wpList_make_full _ rfl _ _ 22 rfl w.heap.size 9 i0 (.string ByteArray.empty) 1 Try.underlying22 hi hz0 hz1 _ _ _ _ ss.length rfl rfl rfl rfl (by rw [hz2]; omega) (by unfold maxLen; omega) (Nat.le_refl _) ?_)
    intro w1 hown hgrow
    have F0 := Fill.start hown (fun j => ss.getD j ByteArray.empty)
    have B0 : Below w.heap.size w w1 := (Below.refl _ _).grown hgrow (Nat.le_refl _) (by intro k hk; cases hk)
    clear hown hgrow
    go_wp2
    go_loopw [4] (fun i wr => ∃ k : Nat, k ≤ ss.length ∧ i = .int .i64 k ∧ Fill wr w.heap.size ss.length k (fun j => ss.getD j ByteArray.empty) ∧ Below w.heap.size w wr) (fun i _ => ss.length - (intOf i).toNat)
    case atStart => exact ⟨0, Nat.zero_le _, rfl, F0, B0⟩
    case round =>
      obtain ⟨k, hk, rfl, F, B⟩ := hrel
      by_cases hlt : k < ss.length
      · obtain ⟨b, off, hx, hbl, hc⟩ := h (by intro e; subst e; simp at hlt)
        obtain rfl := Option.some.inj hx
        have hcx : wr.cell? ⟨b, off + k, none⟩ = some (.string (ss.getD k ByteArray.empty)) := (B.cell (p := ⟨b, off + k, none⟩) hbl).trans (hc k hlt)
        obtain ⟨t, ht⟩ : ∃ t, t = ss.getD k ByteArray.empty := ⟨_, rfl⟩
        rw [← ht] at hcx
        have HT : Hid (t = ss.getD k ByteArray.empty) := ht
        obtain ⟨u, hu⟩ := F.cell hlt
        have hf := F.frozen
        clear ht hc
        go_wp2
        go_roundw
        case rel => exact ⟨k + 1, by omega, by go_num, F.store hlt HT.out, B.setCell (Nat.le_refl _) _⟩
        case measure => simp [intOf]; omega
      · go_wp2
        go_ret
        have e : k = ss.length := by omega
        subst e
        exact ⟨_, _, rfl, F.done rfl (fun _ _ => rfl), B⟩

theorem info26 : (Try.prog.info? 26).map (fun i => (i.zero, i.size, i.bytes)) = some (some (.int .u16 0), 1, 2) := by kernel_rfl

/-- The slice value with address 'a' reads, in the world w, as the numbers zs. -/
def NumRow (w : World) (a : Option Addr) (zs : List Int) : Prop :=
  zs ≠ [] → ∃ b off, a = some ⟨b, off, none⟩ ∧ b < w.heap.size ∧ ∀ i, i < zs.length → w.cell? ⟨b, off + i, none⟩ = some (.int .u16 (zs.getD i 0))

theorem NumRow.read {w : World} {a : Option Addr} {zs : List Int} (h : NumRow w a zs) {k : Nat} (hk : k < zs.length) :
    ∃ b off, a = some ⟨b, off, none⟩ ∧ w.cell? ⟨b, off + k, none⟩ = some (.int .u16 (zs.getD k 0)) := by
  obtain ⟨b, off, e, _, hc⟩ := h (by intro e; subst e; simp at hk)
  exact ⟨b, off, e, hc k hk⟩

theorem NumRow.nil (w : World) (a : Option Addr) : NumRow w a [] := fun h => absurd rfl h

theorem NumRow.below {w w' : World} {a : Option Addr} {zs : List Int} (h : NumRow w a zs) (hb : Below w.heap.size w w') : NumRow w' a zs := by
  intro hne
  obtain ⟨b, off, e, hlt, hc⟩ := h hne
  exact ⟨b, off, e, Nat.lt_of_lt_of_le hlt hb.size, fun i hi => (hb.cell (p := ⟨b, off + i, none⟩) hlt).trans (hc i hi)⟩

/-- A new row of n numbers at block B, of which the first k are f 0 .. f (k-1). -/
def FillN (w : World) (B n k : Nat) (f : Nat → Int) : Prop :=
  ∃ xs, w.ownsRow B 26 1 (.slice (some ⟨B, 0, none⟩) n n) n xs ∧ ∀ j, j < k → xs[j]? = some (.int .u16 (f j))

theorem FillN.start {w : World} {B n : Nat} {xs : List Value} (h : w.ownsRow B 26 1 (.slice (some ⟨B, 0, none⟩) n n) n xs) (f : Nat → Int) : FillN w B n 0 f :=
  ⟨xs, h, fun j hj => by omega⟩

theorem FillN.cell {w : World} {B n k : Nat} {f : Nat → Int} (h : FillN w B n k f) (hk : k < n) : ∃ u, w.cell? ⟨B, k, none⟩ = some u := by
  obtain ⟨xs, h, _⟩ := h
  have hl : xs.length = n := by simpa using h.1
  exact ⟨xs[k], by rw [h.cellAt k (by omega)]; exact List.getElem?_eq_getElem (by omega)⟩

theorem FillN.frozen {w : World} {B n k : Nat} {f : Nat → Int} (h : FillN w B n k f) : w.frozen? ⟨B, k, none⟩ = false := by
  obtain ⟨xs, h, _⟩ := h
  exact h.frozenAt k

theorem FillN.store {w : World} {B n k : Nat} {f : Nat → Int} (h : FillN w B n k f) (hk : k < n) {s : Int} (hs : s = f k) : FillN (w.setCell ⟨B, k, none⟩ (.int .u16 s)) B n (k + 1) f := by
  obtain ⟨xs, h, hx⟩ := h
  have hl : xs.length = n := by simpa using h.1
  refine ⟨_, (h.stored k (.int .u16 s)).1, fun j hj => ?_⟩
  by_cases e : k = j
  · subst e; rw [List.getElem?_set_self (by omega), hs]
  · rw [List.getElem?_set_ne e]; exact hx j (by omega)

theorem FillN.done {w : World} {B n : Nat} {f : Nat → Int} (h : FillN w B n n f) {ss : List Int} (hl : ss.length = n) (he : ∀ j, j < n → ss.getD j 0 = f j) : NumRow w (some ⟨B, 0, none⟩) ss := by
  intro hne
  obtain ⟨xs, h, hx⟩ := h
  refine ⟨B, 0, rfl, ?_, fun i hi => ?_⟩
  · rcases h.2 with ⟨h', _⟩ | ⟨g', cap', cur, h', _, hg, _⟩
    · simp at h'
    · simp only [Value.slice.injEq, Option.some.injEq, Addr.mk.injEq, and_true, true_and] at h'
      obtain ⟨rfl, rfl⟩ := h'
      exact (Array.getElem?_eq_some_iff.1 hg).1
  · rw [Nat.zero_add, h.cellAt i (by omega), hx i (by omega), he i (by omega)]

set_option maxHeartbeats 400000 in
/-- cloneUint16s. -/
theorem copyN_any (a : Option Addr) (cap : Nat) (ss : List Int) (w : World) (h : NumRow w a ss) (hm : ss.length ≤ 4096) :
    Calls Try.prog 9 #[.slice a ss.length cap] w fun e w' => ∃ a' cap', e = .returned (.slice a' ss.length cap') ∧ NumRow w' a' ss ∧ Below w.heap.size w w' := by
  have q23 : ∀ (w : World) (a : Option Addr) (n c n' c' : Nat), (binOp .eql 23 (.slice a n c) (.slice none n' c')).run Try.prog w = .ok (.bool a.isNone) w := fun w a n c n' c' => Lib.run_eql_slice_nil w _ _ a n c n' c' Try.underlying23
  cases a with
  | none =>
    have e : ss = [] := by
      rcases ss with _ | ⟨s, ss⟩
      · rfl
      · obtain ⟨_, _, e, _⟩ := h (by simp); cases e
    subst e
    go_enter Try.func9, Try.ntmps9
    go_wp2
    go_ret
    exact ⟨none, 0, rfl, h, Below.refl _ _⟩
  | some x =>
    obtain ⟨i0, hi, hz0, hz1, hz2⟩ := info_parts info26
    go_enter Try.func9, Try.ntmps9
    go_wp2_with (at_make; refine wpList_make_full _ rfl _ _ 23 rfl w.heap.size 26 i0 (.int .u16 0) 1 Try.underlying23 hi hz0 hz1 _ _ _ _ ss.length rfl rfl rfl rfl (by rw [hz2]; omega) (by unfold maxLen; omega) (Nat.le_refl _) ?_)
    intro w1 hown hgrow
    have F0 := FillN.start hown (fun j => ss.getD j 0)
    have B0 : Below w.heap.size w w1 := (Below.refl _ _).grown hgrow (Nat.le_refl _) (by intro k hk; cases hk)
    clear hown hgrow
    go_wp2
    go_loopw [4] (fun i wr => ∃ k : Nat, k ≤ ss.length ∧ i = .int .i64 k ∧ FillN wr w.heap.size ss.length k (fun j => ss.getD j 0) ∧ Below w.heap.size w wr) (fun i _ => ss.length - (intOf i).toNat)
    case atStart => exact ⟨0, Nat.zero_le _, rfl, F0, B0⟩
    case round =>
      obtain ⟨k, hk, rfl, F, B⟩ := hrel
      by_cases hlt : k < ss.length
      · obtain ⟨b, off, hx, hbl, hc⟩ := h (by intro e; subst e; simp at hlt)
        obtain rfl := Option.some.inj hx
        have hcx : wr.cell? ⟨b, off + k, none⟩ = some (.int .u16 (ss.getD k 0)) := (B.cell (p := ⟨b, off + k, none⟩) hbl).trans (hc k hlt)
        obtain ⟨t, ht⟩ : ∃ t, t = ss.getD k 0 := ⟨_, rfl⟩
        rw [← ht] at hcx
        have HT : Hid (t = ss.getD k 0) := ht
        obtain ⟨u, hu⟩ := F.cell hlt
        have hf := F.frozen
        clear ht hc
        go_wp2
        go_roundw
        case rel => exact ⟨k + 1, by omega, by go_num, F.store hlt HT.out, B.setCell (Nat.le_refl _) _⟩
        case measure => simp [intOf]; omega
      · go_wp2
        go_ret
        have e : k = ss.length := by omega
        subst e
        exact ⟨_, _, rfl, F.done rfl (fun _ _ => rfl), B⟩
end Go.Proofs.Qxb6000490a
