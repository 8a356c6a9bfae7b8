/- The walk of zzbKeys. -/
import Derived.Test.Qxb6001503aT4
namespace Go.Proofs.Qxb6001503a
open Go.RowKit

theorem one_int (z : Int) : ∀ u ∈ [Value.int .i64 z], u.oneCell' = true := by
  intro u hu
  simp at hu
  subst hu; rfl

theorem cells_one_new (w : World) (x : Value) (t : TypeId) : ∀ j u, [x][j]? = some u → (w.alloc (.cells #[x] t)).cell? ((⟨w.heap.size, 0, none⟩ : Addr).add j) = some u := by
  intro j u hj
  match j, hj with
  | 0, hj => simp at hj; subst hj; simp [Addr.add]

theorem cells_one_at (w : World) (x : Value) (t : TypeId) (B : Nat) (hB : B = w.heap.size) : ∀ j u, [x][j]? = some u → (w.alloc (.cells #[x] t)).cell? ((⟨B, 0, none⟩ : Addr).add j) = some u := by
  subst hB; exact cells_one_new w x t

/-- The cells of a list of numbers. -/
def vals (zs : List Int) : List Value := zs.map (Value.int .i64)

theorem take_snoc {zs : List Int} {k : Nat} (hk : k < zs.length) {s : Int} (hs : s = zs.getD k 0) : vals (zs.take (k + 1)) = vals (zs.take k) ++ [.int .i64 s] := by
  unfold vals
  rw [List.take_succ_eq_append_getElem hk, List.map_append, hs, num_at hk]; rfl

theorem Fill.whole {w : World} {B : Nat} {zs : List Int} (h : w.ownsRow B 3 1 (.slice (some ⟨B, 0, none⟩) zs.length zs.length) zs.length (vals zs)) : Fill w B zs.length zs.length (fun j => zs.getD j 0) := by
  refine ⟨_, h, fun j hj => ?_⟩
  simp [vals, List.getD, hj]

set_option maxHeartbeats 2000000 in
set_option maxRecDepth 100000 in
/-- zzbKeys. -/
theorem keys_any (a : Option Addr) (cap : Nat) (zs : List Int) (w : World) (h : NumRow w a zs) (hm : zs.length ≤ 4096) :
    Calls Try.prog 10 #[.slice a zs.length cap] w fun e w' => ∃ a' cap' ks, e = .returned (.slice a' (List.length ks) cap') ∧ NumRow w' a' ks ∧ KeysOf zs ks ∧ Below w.heap.size w w' := by
  obtain ⟨i0, hi, hz0, hz1, hz2⟩ := info_parts info3
  go_enter Try.func10, Try.ntmps10
  go_wp2_with (at_make; refine wpList_make_own _ rfl _ _ 22 rfl w.heap.size 3 i0 (.int .i64 0) 1 Try.underlying22 hi hz0 hz1 _ _ _ zs.length rfl rfl rfl (by rw [hz2]; omega) (by unfold maxLen; omega) (Nat.le_refl _) ?_)
  intro w1 hown hgrow
  have B0 := (Below.refl w.heap.size _).grown hgrow (Nat.le_refl _) (by intro k hk; cases hk)
  clear hgrow
  go_wp2
  go_loopw [3, 4] (fun v i wr => ∃ k : Nat, k ≤ zs.length ∧ i = .int .i64 k ∧ v = .slice (some ⟨w.heap.size, 0, none⟩) k zs.length ∧
      wr.ownsRow w.heap.size 3 1 (.slice (some ⟨w.heap.size, 0, none⟩) k zs.length) k (vals (zs.take k)) ∧ Below w.heap.size w wr) (fun _ i _ => zs.length - (intOf i).toNat)
  case atStart => exact ⟨0, Nat.zero_le _, rfl, rfl, hown, B0⟩
  case round =>
    clear hown B0
    obtain ⟨k, hk, rfl, rfl, hown, B⟩ := hrel
    have hsz := B.size
    by_cases hlt : k < zs.length
    · obtain ⟨b0, o0, rfl, hb0, hc0⟩ := h (by intro e; subst e; simp at hlt)
      have hcx : wr.cell? ⟨b0, o0 + k, none⟩ = some (.int .i64 (zs.getD k 0)) := (B.cell (p := ⟨b0, o0 + k, none⟩) hb0).trans (hc0 k hlt)
      obtain ⟨s, hs⟩ : ∃ s, s = zs.getD k 0 := ⟨_, rfl⟩
      rw [← hs] at hcx
      have HG := hide (take_snoc hlt hs)
      clear hs hc0
      go_wp2_with (at_builtin; refine wpList_append_fits _ rfl _ _ 22 rfl w.heap.size 3 i0 1 Try.underlying22 hi hz1 w.heap.size k zs.length _ rfl (hown.alloc _) ⟨wr.heap.size, 0, none⟩ 1 1 [.int .i64 s] rfl rfl (cells_one_new _ _ _) (one_int _) (by omega) ?_)
      intro w2 hown2 hgrow2
      have B2 := (B.alloc hsz _).grown hgrow2 (by simp; omega) (by intro j hj; cases hj; exact Nat.le_refl _)
      rw [← HG.out] at hown2
      clear hown B hgrow2 hcx
      go_wp2
      go_roundw
      case rel => exact ⟨k + 1, by omega, by go_num, rfl, hown2, B2⟩
      case measure => simp [intOf]; omega
    · obtain rfl : k = zs.length := by omega
      rw [List.take_length] at hown
      have F := Fill.whole hown
      have HO := hide (outer_start zs)
      clear hown hsz hi hz0 hz1 hz2
      go_wp2
      go_loopw [5] (fun i wr => ∃ (k : Nat) (f : Nat → Int), 1 ≤ k ∧ (k ≤ zs.length ∨ k = 1) ∧ i = .int .i64 k ∧ Fill wr w.heap.size zs.length zs.length f ∧ Hid (Outer (· ∈ zs) zs.length f k) ∧ Below w.heap.size w wr) (fun i _ => zs.length - (intOf i).toNat)
      case atStart => exact ⟨1, _, Nat.le_refl _, .inr rfl, rfl, F, HO, B⟩
      case round =>
        clear F HO B hlt hk h
        obtain ⟨k, f, hk1, hk2, rfl, F, HO, B⟩ := hrel
        by_cases hlt : k < zs.length
        · have c1 := F.read hlt (Nat.le_refl _)
          obtain ⟨v, hv⟩ : ∃ v, v = f k := ⟨_, rfl⟩
          rw [← hv] at c1
          have HI := hide (Inner.start HO.out hlt hv)
          clear HO hv
          go_wp2
          clear c1
          go_loopw [7] (fun x wr => ∃ (j : Nat) (f : Nat → Int), j ≤ k ∧ x = .int .i64 j ∧ Fill wr w.heap.size zs.length zs.length f ∧ Hid (Inner (· ∈ zs) zs.length f v k j) ∧ Below w.heap.size w wr) (fun x _ => (intOf x).toNat)
          case atStart => exact ⟨k, f, Nat.le_refl _, rfl, F, HI, B⟩
          case round =>
            clear F HI B f
            obtain ⟨j, f, hjk, rfl, F, HI, B⟩ := hrel
            rcases j with _ | j
            · have HO' := hide (HI.out.done (by omega) hlt (fun k hk => by omega))
              obtain ⟨u, hu⟩ : ∃ u, wr.cell? ⟨w.heap.size, 0, none⟩ = some u := ⟨_, F.read (by omega) (Nat.le_refl _)⟩
              have hf := F.froz 0
              go_wp2
              go_roundw
              case rel => exact ⟨k + 1, _, by omega, .inl (by omega), by go_num, F.upd (by omega) v, HO', B.setCell (Nat.le_refl _) _⟩
              case measure => simp [intOf]; omega
            · have c1 := F.read (t := j) (by omega) (Nat.le_refl _)
              have c2 := F.read (t := j + 1) (by omega) (Nat.le_refl _)
              have hf := F.froz (j + 1)
              obtain ⟨u, hu⟩ : ∃ u, u = f j := ⟨_, rfl⟩
              rw [← hu] at c1
              by_cases hgt : v < u
              · have HI' := hide (HI.out.step (by omega) hlt hu hgt)
                have hj0 : (0 : Int) < ((j + 1 : Nat) : Int) := by omega
                clear hu
                go_wp2
                go_roundw
                case rel => exact ⟨j, _, by omega, rfl, F.upd (by omega) u, HI', B.setCell (Nat.le_refl _) _⟩
                case measure => simp [intOf]
              · have HO' := hide (HI.out.done (by omega) hlt (fun k hk => by obtain rfl : k = j := by omega
                                                                             omega))
                clear hu
                go_wp2
                go_roundw
                case rel => exact ⟨k + 1, _, by omega, .inl (by omega), by go_num, F.upd (by omega) v, HO', B.setCell (Nat.le_refl _) _⟩
                case measure => simp [intOf]; omega
        · have HO1 := hide (HO.out.all (by omega))
          clear HO
          go_wp2
          clear hlt hk1 hk2
          go_loopw [8, 9] (fun x y wr => ∃ (m i : Nat) (g : Nat → Int), m ≤ i ∧ i ≤ zs.length ∧ x = .int .i64 m ∧ y = .int .i64 i ∧ Fill wr w.heap.size zs.length zs.length g ∧ Hid (Strike f g i m) ∧ Below w.heap.size w wr) (fun _ y _ => zs.length - (intOf y).toNat)
          case atStart => exact ⟨0, 0, f, Nat.le_refl _, Nat.zero_le _, rfl, rfl, F, Strike.start f, B⟩
          case round =>
            clear F B
            obtain ⟨m, i, g, hmi, hi, rfl, rfl, F, HS, B⟩ := hrel
            by_cases hlt : i < zs.length
            · have c1 := F.read hlt (Nat.le_refl _)
              have c2 := F.read (t := m) (by omega) (Nat.le_refl _)
              have hf := F.froz m
              obtain ⟨u, hu⟩ : ∃ u, u = g i := ⟨_, rfl⟩
              rw [← hu] at c1
              have hii : (i : Int) < (zs.length : Int) := by omega
              rcases m with _ | m
              · have HS' := hide (HS.out.keep hlt HO1.out.1 hu (fun k hk => by omega))
                clear hu
                go_wp2
                go_quiet (fail)
                go_wp2
                go_roundw
                case rel => exact ⟨1, i + 1, _, by omega, by omega, rfl, by go_num, Fill.upd (w := wr.drewN _) F (by omega) u, HS', (below_drewN B _).setCell (Nat.le_refl _) _⟩
                case measure => simp [intOf]; omega
              · have c3 := F.read (t := m) (by omega) (Nat.le_refl _)
                obtain ⟨v, hv⟩ : ∃ v, v = g m := ⟨_, rfl⟩
                rw [← hv] at c3
                have hm0 : (((m : Int) + 1) == 0) = false := beq_eq_false_iff_ne.2 (by omega)
                have hm1 : ((m : Int) < (zs.length : Int)) := by omega
                cases huv : (v == u) with
                | true =>
                  have HS' := hide (HS.out.drop (Nat.succ_pos m) (by rw [← hu, ← beq_iff_eq.1 huv]; exact hv.symm))
                  clear hu hv
                  go_wp2
                  go_quiet (fail)
                  go_wp2
                  go_roundw
                  case rel => exact ⟨m + 1, i + 1, _, by omega, by omega, by go_num, by go_num, F, HS', below_drewN B _⟩
                  case measure => simp [intOf]; omega
                | false =>
                  have HS' := hide (HS.out.keep hlt HO1.out.1 hu (fun k hk => by obtain rfl : k = m := by omega
                                                                                 rw [← hv]; exact beq_eq_false_iff_ne.1 huv))
                  clear hu hv
                  go_wp2
                  go_quiet (fail)
                  go_wp2
                  go_roundw
                  case rel => exact ⟨m + 2, i + 1, _, by omega, by omega, by go_num, by go_num, Fill.upd (w := wr.drewN _) F (by omega) u, HS', (below_drewN B _).setCell (Nat.le_refl _) _⟩
                  case measure => simp [intOf]; omega
            · obtain rfl : i = zs.length := by omega
              have HE := hide (keys_end HS.out HO1.out)
              have R := F.row hmi
              go_wp2
              go_ret
              exact ⟨some ⟨w.heap.size, 0, none⟩, zs.length, _, by rw [List.length_map, List.length_range]; rfl, R, HE.out, B⟩
end Go.Proofs.Qxb6001503a
