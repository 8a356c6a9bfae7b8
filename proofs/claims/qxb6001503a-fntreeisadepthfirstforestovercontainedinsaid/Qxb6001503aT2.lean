/- Entities; zzbBuild. -/
import Derived.Test.Qxb6001503aT1
import Derived.Deep.MidRow
namespace Go.Proofs.Qxb6001503a
open Go.RowKit

/-- An entity, as the laws make it: all strings empty, no FRU. -/
structure Ent where
  i : Int
  p : Int
  d : Int
  pos : Int
  c : Int

def noEnt : Ent := ⟨0, 0, 0, 0, 0⟩

/-- Its sixteen cells. -/
def Ent.cells (e : Ent) : List Value := [.int .i64 e.i, .int .i64 e.p, .int .i64 e.d, .int .i64 e.pos, .string ⟨#[]⟩, .string ⟨#[]⟩, .string ⟨#[]⟩, .string ⟨#[]⟩, .string ⟨#[]⟩, .string ⟨#[]⟩, .string ⟨#[]⟩, .string ⟨#[]⟩, .string ⟨#[]⟩, .string ⟨#[]⟩, .bool false, .int .i64 e.c]
/-- Its value. -/
def Ent.val (e : Ent) : Value := .agg #[.int .i64 e.i, .int .i64 e.p, .int .i64 e.d, .int .i64 e.pos, .string ⟨#[]⟩, .string ⟨#[]⟩, .string ⟨#[]⟩, .string ⟨#[]⟩, .string ⟨#[]⟩, .string ⟨#[]⟩, .string ⟨#[]⟩, .string ⟨#[]⟩, .string ⟨#[]⟩, .string ⟨#[]⟩, .bool false, .int .i64 e.c]

theorem Ent.cells_length (e : Ent) : e.cells.length = 16 := rfl

/-- The slice value with address 'a' reads, in the world w, as the entities es. -/
def EntRow (w : World) (a : Option Addr) (es : List Ent) : Prop :=
  es ≠ [] → ∃ b off, a = some ⟨b, off, none⟩ ∧ b < w.heap.size ∧ ∀ k, k < es.length → w.rangeAt b (off + k * 16) (es.getD k noEnt).cells

theorem EntRow.below {w w' : World} {a : Option Addr} {es : List Ent} (h : EntRow w a es) (hb : Below w.heap.size w w') : EntRow w' a es := by
  intro hne
  obtain ⟨b, off, e, hlt, hc⟩ := h hne
  exact ⟨b, off, e, Nat.lt_of_lt_of_le hlt hb.size, fun k hk j v hv => (hb.cell (p := ⟨b, off + k * 16 + j, none⟩) hlt).trans (hc k hk j v hv)⟩

theorem info31 : (Try.prog.info? 31).map (fun i => (i.zero, i.size, i.bytes)) = some (some (.agg #[.int .i64 0, .int .i64 0, .int .i64 0, .int .i64 0, .string ⟨#[]⟩, .string ⟨#[]⟩, .string ⟨#[]⟩, .string ⟨#[]⟩, .string ⟨#[]⟩, .string ⟨#[]⟩, .string ⟨#[]⟩, .string ⟨#[]⟩, .string ⟨#[]⟩, .string ⟨#[]⟩, .bool false, .int .i64 0]), 16, 208) := by kernel_rfl

theorem Ent.oneCell (e : Ent) : e.cells.toArray.all (·.oneCell') = true := all_oneCell_toArray (by
  intro v hv
  simp [Ent.cells] at hv
  rcases hv with rfl | rfl | rfl | rfl | rfl | rfl | rfl <;> rfl)

/-- A store of cells into a block from B on. -/
theorem below_setCells {B : Nat} {a : World} {b : Nat} (hb : B ≤ b) : ∀ (vs : List Value) (o : Nat) (w : World), Below B a w → Below B a (w.setCells b o vs)
  | [], _, _, h => h
  | v :: r, o, w, h => by
    rw [World.setCells]
    exact below_setCells hb r (o + 1) _ (h.setCell (p := ⟨b, o, none⟩) hb v)

/-- A new row of n entities at block B, of which the first k are f 0 .. f (k-1). -/
def FillE (w : World) (B n k : Nat) (f : Nat → Ent) : Prop :=
  (∀ j, j < n → w.there B (j * 16) 16) ∧ ∀ j, j < k → w.rangeAt B (j * 16) (f j).cells

theorem FillE.start {w : World} {B n : Nat} {xs : List Value} (h : w.ownsRow B 31 16 (.slice (some ⟨B, 0, none⟩) n n) n xs) (f : Nat → Ent) : FillE w B n 0 f := by
  refine ⟨fun j hj t ht => ⟨?_, h.frozenAt _⟩, fun j hj => by omega⟩
  have hl : xs.length = n * 16 := h.1
  rw [h.cellAt (j * 16 + t) (by omega), List.getElem?_eq_getElem (by omega)]
  rfl

theorem FillE.store {w : World} {B n k : Nat} {f : Nat → Ent} (h : FillE w B n k f) (hk : k < n) {e : Ent} (he : e = f k) : FillE (w.setCells B (k * 16) e.cells.toArray.toList) B n (k + 1) f := by
  obtain ⟨h1, h2⟩ := h
  have ht : w.there B (k * 16) e.cells.length := h1 k hk
  refine ⟨fun j hj => World.there_setCells (h1 j hj) _ _ _, fun j hj => ?_⟩
  by_cases e' : j = k
  · subst e'
    rw [← he]
    exact World.rangeAt_setCells_same w B _ e.cells ht
  · exact World.rangeAt_setCells_apart (h2 j (by omega)) _ _ _ (.inr (.inl (by rw [Ent.cells_length]; omega)))

theorem FillE.done {w : World} {B n : Nat} {f : Nat → Ent} (h : FillE w B n n f) {es : List Ent} (hl : es.length = n) (he : ∀ j, j < n → es.getD j noEnt = f j) : EntRow w (some ⟨B, 0, none⟩) es := by
  intro hne
  have h0 : 0 < n := by
    rcases es with _ | ⟨e, es⟩
    · exact absurd rfl hne
    · simp at hl; omega
  refine ⟨B, 0, rfl, ?_, fun k hk => ?_⟩
  · obtain ⟨u, hu⟩ := Option.isSome_iff_exists.1 (h.1 0 h0 0 (by omega)).1
    exact World.block_lt_of_cell? w _ hu
  · rw [Nat.zero_add, he k (by omega)]
    exact h.2 k (by omega)

/-- The entities that zzbBuild makes. -/
def built (idx up : List Int) : List Ent := (List.range idx.length).map fun (k : Nat) => ⟨idx.getD k 0, -1, -1, k, up.getD k 0⟩

theorem built_length (idx up : List Int) : (built idx up).length = idx.length := by simp [built]
theorem built_at (idx up : List Int) (k : Nat) (h : k < idx.length) : (built idx up).getD k noEnt = ⟨idx.getD k 0, -1, -1, k, up.getD k 0⟩ := by
  simp [built, List.getD, h]

set_option maxHeartbeats 1000000 in
/-- zzbBuild. -/
theorem build_any (a0 : Option Addr) (c0 : Nat) (s0 : List Int) (a1 : Option Addr) (c1 : Nat) (s1 : List Int) (w : World)
    (h0 : NumRow w a0 s0) (h1 : NumRow w a1 s1) (m0 : s0.length ≤ 4096) (m1 : s1.length ≤ 4096) :
    Calls Try.prog 9 #[.slice a0 s0.length c0, .slice a1 s1.length c1] w fun e w' => ∃ a' cap', e = .returned (.slice a' s0.length cap') ∧ EntRow w' a' (built s0 s1) ∧ Below w.heap.size w w' := by
  obtain ⟨i0, hi, hz0, hz1, hz2⟩ := info_parts info31
  go_enter Try.func9, Try.ntmps9
  go_wp2_with (at_make; refine wpList_make_full _ rfl _ _ 25 rfl w.heap.size 31 i0 (.agg #[.int .i64 0, .int .i64 0, .int .i64 0, .int .i64 0, .string ⟨#[]⟩, .string ⟨#[]⟩, .string ⟨#[]⟩, .string ⟨#[]⟩, .string ⟨#[]⟩, .string ⟨#[]⟩, .string ⟨#[]⟩, .string ⟨#[]⟩, .string ⟨#[]⟩, .string ⟨#[]⟩, .bool false, .int .i64 0]) 16 Try.underlying25 hi hz0 hz1 _ _ _ _ s0.length rfl rfl rfl rfl (by rw [hz2]; omega) (by unfold maxLen; omega) (Nat.le_refl _) ?_)
  intro w1 hown hgrow
  have F0 := FillE.start hown (fun j => ⟨s0.getD j 0, -1, -1, j, s1.getD j 0⟩)
  have B0 : Below w.heap.size w w1 := (Below.refl _ _).grown hgrow (Nat.le_refl _) (by intro k hk; cases hk)
  clear hown hgrow hi hz0 hz1 hz2
  go_wp2
  go_loopw [6] (fun i wr => ∃ k : Nat, k ≤ s0.length ∧ i = .int .i64 k ∧ FillE wr w.heap.size s0.length k (fun j => ⟨s0.getD j 0, -1, -1, j, s1.getD j 0⟩) ∧ Below w.heap.size w wr) (fun i _ => s0.length - (intOf i).toNat)
  case atStart => exact ⟨0, Nat.zero_le _, rfl, F0, B0⟩
  case round =>
    clear F0 B0
    obtain ⟨k, hk, rfl, F, B⟩ := hrel
    by_cases hlt : k < s0.length
    · obtain ⟨b0, o0, rfl, hb0, hc0⟩ := h0 (by intro e; subst e; simp at hlt)
      have hcx : wr.cell? ⟨b0, o0 + k, none⟩ = some (.int .i64 (s0.getD k 0)) := (B.cell (p := ⟨b0, o0 + k, none⟩) hb0).trans (hc0 k hlt)
      obtain ⟨s, hs⟩ : ∃ s, s = s0.getD k 0 := ⟨_, rfl⟩
      rw [← hs] at hcx
      have HS := hide hs
      clear hs hc0
      have T := F.1 k hlt
      by_cases hl1 : k < s1.length
      · obtain ⟨b1, o1, rfl, hb1, hc1⟩ := h1 (by intro e; subst e; simp at hl1)
        have hcy : wr.cell? ⟨b1, o1 + k, none⟩ = some (.int .i64 (s1.getD k 0)) := (B.cell (p := ⟨b1, o1 + k, none⟩) hb1).trans (hc1 k hl1)
        obtain ⟨t, ht⟩ : ∃ t, t = s1.getD k 0 := ⟨_, rfl⟩
        rw [← ht] at hcy
        have HF : Hid ((⟨s, -1, -1, k, t⟩ : Ent) = ⟨s0.getD k 0, -1, -1, k, s1.getD k 0⟩) := by rw [← HS.out, ← ht]; rfl
        clear hc1 ht
        have tok : True := trivial
        go_wp2_with (have _t := tok; refine wpList_store_mid rfl 31 (.tmp 34) (.tmp 33) rfl w.heap.size (k * 16) (Ent.cells ⟨s, -1, -1, k, t⟩).toArray rfl rfl T (by kernel_rfl) (Ent.oneCell _) ?_; clear tok; clear _t)
        go_roundw
        case rel => exact ⟨k + 1, by omega, by go_num, F.store hlt HF.out, below_setCells (Nat.le_refl _) _ _ _ B⟩
        case measure => simp [intOf]; omega
      · have HF : Hid ((⟨s, -1, -1, k, 0⟩ : Ent) = ⟨s0.getD k 0, -1, -1, k, s1.getD k 0⟩) := by
          have e0 : s1.getD k 0 = 0 := by simp [List.getD, show s1.length ≤ k by omega]
          rw [← HS.out, e0]; rfl
        have tok : True := trivial
        go_wp2_with (have _t := tok; refine wpList_store_mid rfl 31 (.tmp 34) (.tmp 33) rfl w.heap.size (k * 16) (Ent.cells ⟨s, -1, -1, k, 0⟩).toArray rfl rfl T (by kernel_rfl) (Ent.oneCell _) ?_; clear tok; clear _t)
        go_roundw
        case rel => exact ⟨k + 1, by omega, by go_num, F.store hlt HF.out, below_setCells (Nat.le_refl _) _ _ _ B⟩
        case measure => simp [intOf]; omega
    · go_wp2
      go_ret
      have e : k = s0.length := by omega
      subst e
      exact ⟨_, _, rfl, F.done (built_length s0 s1) (fun j hj => built_at s0 s1 j hj), B⟩
end Go.Proofs.Qxb6001503a
