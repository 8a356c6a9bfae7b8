/- Slices of ints; the size guards; zzbCopy. -/
import Derived.Test.Qxb6001503aRows
import Derived.WalkKit
import Derived.WalkSpells
import Derived.WalkLawsBesides
import Derived.Deep.QuietTactic
import Derived.BigQuiet
namespace Go.Proofs.Qxb6001503a
open Go.RowKit

theorem hide {p : Prop} (h : p) : Hid p := h
theorem unhide {p : Prop} (h : Hid p) : p := h
theorem ret_bool {a b : Bool} (h : a = b) : Ending.returned (.bool a) = .returned (.bool b) := by rw [h]
theorem ret_int {k : IntKind} {a b : Int} (h : a = b) : Ending.returned (.int k a) = .returned (.int k b) := by rw [h]
theorem below_then {w0 w1 w2 : World} (h : Below w0.heap.size w0 w1) (k : Below w1.heap.size w1 w2) : Below w0.heap.size w0 w2 := h.trans (k.mono h.size)

/-- The call ends in some bool. -/
def SomeBool (e : Ending) : Prop := ∃ b, e = .returned (.bool b)
theorem SomeBool.mk (b : Bool) : SomeBool (.returned (.bool b)) := ⟨b, rfl⟩

theorem info3 : (Try.prog.info? 3).map (fun i => (i.zero, i.size, i.bytes)) = some (some (.int .i64 0), 1, 8) := by kernel_rfl

/-- The slice value with address 'a' reads, in the world w, as the numbers zs. -/
def NumRow (w : World) (a : Option Addr) (zs : List Int) : Prop :=
  zs ≠ [] → ∃ b off, a = some ⟨b, off, none⟩ ∧ b < w.heap.size ∧ ∀ i, i < zs.length → w.cell? ⟨b, off + i, none⟩ = some (.int .i64 (zs.getD i 0))

theorem NumRow.read {w : World} {a : Option Addr} {zs : List Int} (h : NumRow w a zs) {k : Nat} (hk : k < zs.length) :
    ∃ b off, a = some ⟨b, off, none⟩ ∧ w.cell? ⟨b, off + k, none⟩ = some (.int .i64 (zs.getD k 0)) := by
  obtain ⟨b, off, e, _, hc⟩ := h (by intro e; subst e; simp at hk)
  exact ⟨b, off, e, hc k hk⟩

theorem NumRow.nil (w : World) (a : Option Addr) : NumRow w a [] := fun h => absurd rfl h

theorem NumRow.below {w w' : World} {a : Option Addr} {zs : List Int} (h : NumRow w a zs) (hb : Below w.heap.size w w') : NumRow w' a zs := by
  intro hne
  obtain ⟨b, off, e, hlt, hc⟩ := h hne
  exact ⟨b, off, e, Nat.lt_of_lt_of_le hlt hb.size, fun i hi => (hb.cell (p := ⟨b, off + i, none⟩) hlt).trans (hc i hi)⟩

/-- A new row of n numbers at block B, of which the first k are f 0 .. f (k-1). -/
def Fill (w : World) (B n k : Nat) (f : Nat → Int) : Prop :=
  ∃ xs, w.ownsRow B 3 1 (.slice (some ⟨B, 0, none⟩) n n) n xs ∧ ∀ j, j < k → xs[j]? = some (.int .i64 (f j))

theorem Fill.start {w : World} {B n : Nat} {xs : List Value} (h : w.ownsRow B 3 1 (.slice (some ⟨B, 0, none⟩) n n) n xs) (f : Nat → Int) : Fill w B n 0 f :=
  ⟨xs, h, fun j hj => by omega⟩

theorem Fill.cell {w : World} {B n k : Nat} {f : Nat → Int} (h : Fill w B n k f) (hk : k < n) : ∃ u, w.cell? ⟨B, k, none⟩ = some u := by
  obtain ⟨xs, h, _⟩ := h
  have hl : xs.length = n := by simpa using h.1
  exact ⟨xs[k], by rw [h.cellAt k (by omega)]; exact List.getElem?_eq_getElem (by omega)⟩

theorem Fill.frozen {w : World} {B n k : Nat} {f : Nat → Int} (h : Fill w B n k f) : w.frozen? ⟨B, k, none⟩ = false := by
  obtain ⟨xs, h, _⟩ := h
  exact h.frozenAt k

theorem Fill.store {w : World} {B n k : Nat} {f : Nat → Int} (h : Fill w B n k f) (hk : k < n) {s : Int} (hs : s = f k) : Fill (w.setCell ⟨B, k, none⟩ (.int .i64 s)) B n (k + 1) f := by
  obtain ⟨xs, h, hx⟩ := h
  have hl : xs.length = n := by simpa using h.1
  refine ⟨_, (h.stored k (.int .i64 s)).1, fun j hj => ?_⟩
  by_cases e : k = j
  · subst e; rw [List.getElem?_set_self (by omega), hs]
  · rw [List.getElem?_set_ne e]; exact hx j (by omega)

theorem Fill.done {w : World} {B n : Nat} {f : Nat → Int} (h : Fill w B n n f) {ss : List Int} (hl : ss.length = n) (he : ∀ j, j < n → ss.getD j 0 = f j) : NumRow w (some ⟨B, 0, none⟩) ss := by
  intro hne
  obtain ⟨xs, h, hx⟩ := h
  refine ⟨B, 0, rfl, ?_, fun i hi => ?_⟩
  · rcases h.2 with ⟨h', _⟩ | ⟨g', cap', cur, h', _, hg, _⟩
    · simp at h'
    · simp only [Value.slice.injEq, Option.some.injEq, Addr.mk.injEq, and_true, true_and] at h'
      obtain ⟨rfl, rfl⟩ := h'
      exact (Array.getElem?_eq_some_iff.1 hg).1
  · rw [Nat.zero_add, h.cellAt i (by omega), hx i (by omega), he i (by omega)]

set_option maxHeartbeats 400000 in
/-- zzbCopy. -/
theorem copy_any (a : Option Addr) (cap : Nat) (ss : List Int) (w : World) (h : NumRow w a ss) (hm : ss.length ≤ 4096) :
    Calls Try.prog 7 #[.slice a ss.length cap] w fun e w' => ∃ a' cap', e = .returned (.slice a' ss.length cap') ∧ NumRow w' a' ss ∧ Below w.heap.size w w' := by
  have q22 : ∀ (w : World) (a : Option Addr) (n c n' c' : Nat), (binOp .eql 22 (.slice a n c) (.slice none n' c')).run Try.prog w = .ok (.bool a.isNone) w := fun w a n c n' c' => Lib.run_eql_slice_nil w _ _ a n c n' c' Try.underlying22
  cases a with
  | none =>
    have e : ss = [] := by
      rcases ss with _ | ⟨s, ss⟩
      · rfl
      · obtain ⟨_, _, e, _⟩ := h (by simp); cases e
    subst e
    go_enter Try.func7, Try.ntmps7
    go_wp2
    go_ret
    exact ⟨none, 0, rfl, h, Below.refl _ _⟩
  | some x =>
    obtain ⟨i0, hi, hz0, hz1, hz2⟩ := info_parts info3
    go_enter Try.func7, Try.ntmps7
    go_wp2_with (at_make; refine wpList_make_full _ rfl _ _ 22 rfl w.heap.size 3 i0 (.int .i64 0) 1 Try.underlying22 hi hz0 hz1 _ _ _ _ ss.length rfl rfl rfl rfl (by rw [hz2]; omega) (by unfold maxLen; omega) (Nat.le_refl _) ?_)
    intro w1 hown hgrow
    have F0 := Fill.start hown (fun j => ss.getD j 0)
    have B0 : Below w.heap.size w w1 := (Below.refl _ _).grown hgrow (Nat.le_refl _) (by intro k hk; cases hk)
    clear hown hgrow
    go_wp2
    go_loopw [4] (fun i wr => ∃ k : Nat, k ≤ ss.length ∧ i = .int .i64 k ∧ Fill wr w.heap.size ss.length k (fun j => ss.getD j 0) ∧ Below w.heap.size w wr) (fun i _ => ss.length - (intOf i).toNat)
    case atStart => exact ⟨0, Nat.zero_le _, rfl, F0, B0⟩
    case round =>
      obtain ⟨k, hk, rfl, F, B⟩ := hrel
      by_cases hlt : k < ss.length
      · obtain ⟨b, off, hx, hbl, hc⟩ := h (by intro e; subst e; simp at hlt)
        obtain rfl := Option.some.inj hx
        have hcx : wr.cell? ⟨b, off + k, none⟩ = some (.int .i64 (ss.getD k 0)) := (B.cell (p := ⟨b, off + k, none⟩) hbl).trans (hc k hlt)
        obtain ⟨t, ht⟩ : ∃ t, t = ss.getD k 0 := ⟨_, rfl⟩
        rw [← ht] at hcx
        have HT : Hid (t = ss.getD k 0) := ht
        obtain ⟨u, hu⟩ := F.cell hlt
        have hf := F.frozen
        clear ht hc
        go_wp2
        go_roundw
        case rel => exact ⟨k + 1, by omega, by go_num, F.store hlt HT.out, B.setCell (Nat.le_refl _) _⟩
        case measure => simp [intOf]; omega
      · go_wp2
        go_ret
        have e : k = ss.length := by omega
        subst e
        exact ⟨_, _, rfl, F.done rfl (fun _ _ => rfl), B⟩

set_option maxHeartbeats 1000000 in
/-- The size guard: some bool. -/
theorem guardA_any (a0 : Option Addr) (c0 n0 : Nat) (a1 : Option Addr) (c1 n1 : Nat) (w : World) :
    Calls Try.prog 6 #[.slice a0 n0 c0, .slice a1 n1 c1] w fun e w' => SomeBool e ∧ w' = w := by
  go_enter Try.func6, Try.ntmps6
  go_wp2
  all_goals (go_ret; exact ⟨SomeBool.mk _, rfl⟩)

set_option maxHeartbeats 1000000 in
/-- The size guard: some bool. -/
theorem guardB_any (a0 : Option Addr) (c0 n0 : Nat) (a1 : Option Addr) (c1 n1 : Nat) (w : World) :
    Calls Try.prog 12 #[.slice a0 n0 c0, .slice a1 n1 c1] w fun e w' => SomeBool e ∧ w' = w := by
  go_enter Try.func12, Try.ntmps12
  go_wp2
  all_goals (go_ret; exact ⟨SomeBool.mk _, rfl⟩)
end Go.Proofs.Qxb6001503a
