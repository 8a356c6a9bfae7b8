/- The second law. -/
import Derived.Test.Qxb6001503aT15
import Derived.Test.Qxb6001503aT17
import Derived.Deep.QuietTactic
import Derived.BigQuiet
namespace Go.Proofs.Qxb6001503a
open Go.RowKit

/-- The row of the answer, frame by frame. -/
theorem row_at {w5 : World} {aT : Option Addr} {out : List Fr} {es : List Ent} (hT : EntRow w5 aT (out.map (placedE (entOf es)))) (hne : 0 < out.length) :
    ∃ b0 o0, aT = some ⟨b0, o0, none⟩ ∧ b0 < w5.heap.size ∧ ∀ q f, out[q]? = some f → ∀ wq, Below w5.heap.size w5 wq → wq.rangeAt b0 (o0 + q * 16) (placedE (entOf es) f).cells := by
  obtain ⟨b0, o0, hb, hb0, hc0⟩ := hT (by intro e; have h := congrArg List.length e; simp at h; rw [h] at hne; simp at hne)
  refine ⟨b0, o0, hb, hb0, fun q f hq wq B t v hv => ?_⟩
  obtain ⟨h1, rfl⟩ := List.getElem?_eq_some_iff.1 hq
  refine (B.cell (p := ⟨b0, o0 + q * 16 + t, none⟩) hb0).trans (hc0 q (by simpa using h1) t v ?_)
  simpa [List.getD, h1] using hv

/-- The entity of a frame of the answer. -/
theorem placed_at {idx up : List Int} {f : Fr} (h : f.i ∈ idx) : ∃ k : Nat, placedE (entOf (built idx up)) f = ⟨f.i, f.p, f.d, k, (entOf (built idx up) f.i).c⟩ := by
  obtain ⟨k, hk, e⟩ := entOf_built (up := up) h
  exact ⟨k, by rw [placedE, e]⟩

/-- What the main loop keeps. -/
structure FSt (w5 : World) (bA bH bL : Nat) (es : List Ent) (out : List Fr) (ks : List Int) (sm : Nat → Int) (j : Nat) (bt : Bool) (zt : Int) (bl : Bool) (at' : Nat → Int) (hk : Nat → Bool) (lk : Nat → Int) (wq : World) : Prop where
  A : Arr wq w5.heap.size ks.length 3 (fun p => .int .i64 (sm p))
  T : Arr wq bA ks.length 3 (fun p => .int .i64 (at' p))
  H : Arr wq bH ks.length 4 (fun p => .bool (hk p))
  L : Arr wq bL ks.length 3 (fun p => .int .i64 (lk p))
  AT : AtOk out ks j at'
  KD : KidSt out ks j hk lk
  TR : TrueSt es out j bt zt
  LP : LoopSt es out j bl
  B : Below w5.heap.size w5 wq

def FRel (w5 : World) (bA bH bL : Nat) (es : List Ent) (out : List Fr) (ks : List Int) (sm : Nat → Int) (gk : Nat) (ht lt hl i : Value) (wq : World) : Prop :=
  ∃ j bt zt bl at' hk lk, j + gk = ks.length ∧ i = .int .i64 (j : Nat) ∧ ht = .bool bt ∧ lt = .int .i64 zt ∧ hl = .bool bl ∧ FSt w5 bA bH bL es out ks sm j bt zt bl at' hk lk wq

/-- The entity is laid into a variable of its own. -/
theorem FSt.lay {w5 : World} {bA bH bL : Nat} {es : List Ent} {out : List Fr} {ks : List Int} {sm : Nat → Int} {j : Nat} {bt : Bool} {zt : Int} {bl : Bool} {at' : Nat → Int} {hk : Nat → Bool} {lk : Nat → Int} {wq : World} (h : FSt w5 bA bH bL es out ks sm j bt zt bl at' hk lk wq) (ob : Obj) (vs : List Value) :
    FSt w5 bA bH bL es out ks sm j bt zt bl at' hk lk ((wq.alloc ob).setCells wq.heap.size 0 vs) := by
  have h1 := h.A.lt; have h2 := h.T.lt; have h3 := h.H.lt; have h4 := h.L.lt
  exact { h with A := (h.A.alloc ob).setCells (by omega) 0 vs, T := (h.T.alloc ob).setCells (by omega) 0 vs, H := (h.H.alloc ob).setCells (by omega) 0 vs, L := (h.L.alloc ob).setCells (by omega) 0 vs, B := below_setCells h.B.size vs 0 _ (h.B.alloc h.B.size ob) }

/-- The frame is noted. -/
theorem FSt.mark {w5 : World} {bA bH bL : Nat} {es : List Ent} {out : List Fr} {ks : List Int} {sm : Nat → Int} {j : Nat} {bt bt' : Bool} {zt zt' : Int} {bl bl' : Bool} {at' : Nat → Int} {hk : Nat → Bool} {lk : Nat → Int} {wq : World} (h : FSt w5 bA bH bL es out ks sm j bt zt bl at' hk lk wq)
    {p : Nat} (hp : p < ks.length) (AT' : AtOk out ks (j + 1) (fun t => if t = p then (j : Nat) else at' t)) (TR' : TrueSt es out (j + 1) bt' zt') (LP' : LoopSt es out (j + 1) bl') (o1 : w5.heap.size < bA) (o2 : bA < bH) (o3 : bH < bL) :
    FSt w5 bA bH bL es out ks sm (j + 1) bt' zt' bl' (fun t => if t = p then (j : Nat) else at' t) hk lk (wq.setCell ⟨bA, p, none⟩ (.int .i64 (j : Nat))) :=
  ⟨h.A.other (by omega) _ _, h.T.set hp (fun t _ => by by_cases e : t = p <;> simp [e]), h.H.other (by omega) _ _, h.L.other (by omega) _ _, AT', h.KD.later, TR', LP', h.B.setCell (by show w5.heap.size ≤ bA; omega) _⟩

theorem Arr.drewN {w : World} {B n : Nat} {e : TypeId} {g : Nat → Value} (h : Arr w B n e g) (m : Nat) : Arr (w.drewN m) B n e g := by
  obtain ⟨xs, h, hx⟩ := h
  exact ⟨xs, h, hx⟩

theorem FSt.drewN {w5 : World} {bA bH bL : Nat} {es : List Ent} {out : List Fr} {ks : List Int} {sm : Nat → Int} {j : Nat} {bt : Bool} {zt : Int} {bl : Bool} {at' : Nat → Int} {hk : Nat → Bool} {lk : Nat → Int} {wq : World} (h : FSt w5 bA bH bL es out ks sm j bt zt bl at' hk lk wq) (m : Nat) :
    FSt w5 bA bH bL es out ks sm j bt zt bl at' hk lk (wq.drewN m) :=
  { h with A := h.A.drewN m, T := h.T.drewN m, H := h.H.drewN m, L := h.L.drewN m, B := below_drewN h.B m }

/-- A kid is noted. -/
theorem FSt.kid {w5 : World} {bA bH bL : Nat} {es : List Ent} {out : List Fr} {ks : List Int} {sm : Nat → Int} {j : Nat} {bt : Bool} {zt : Int} {bl : Bool} {at' : Nat → Int} {hk : Nat → Bool} {lk : Nat → Int} {wq : World} (h : FSt w5 bA bH bL es out ks sm (j + 1) bt zt bl at' hk lk wq)
    {p : Nat} (hp : p < ks.length) {x : Int} (KD' : KidSt out ks (j + 1) (fun t => if t = p then true else hk t) (fun t => if t = p then x else lk t)) (o1 : w5.heap.size < bA) (o2 : bA < bH) (o3 : bH < bL) :
    FSt w5 bA bH bL es out ks sm (j + 1) bt zt bl at' (fun t => if t = p then true else hk t) (fun t => if t = p then x else lk t) ((wq.setCell ⟨bH, p, none⟩ (.bool true)).setCell ⟨bL, p, none⟩ (.int .i64 x)) :=
  ⟨(h.A.other (by omega) _ _).other (by omega) _ _, (h.T.other (by omega) _ _).other (by omega) _ _, (h.H.set hp (fun t _ => by by_cases e : t = p <;> simp [e])).other (by omega) _ _, (h.L.other (by omega) _ _).set hp (fun t _ => by by_cases e : t = p <;> simp [e]), h.AT, KD', h.TR, h.LP,
    (h.B.setCell (by show w5.heap.size ≤ bH; omega) _).setCell (by show w5.heap.size ≤ bL; omega) _⟩

set_option maxHeartbeats 8000000 in
set_option maxRecDepth 100000 in
theorem forest_any (a0 : Option Addr) (c0 : Nat) (s0 : List Int) (a1 : Option Addr) (c1 : Nat) (s1 : List Int) (w : World) (h0 : NumRow w a0 s0) (h1 : NumRow w a1 s1) (_l0 : s0.length ≤ maxLen) (_l1 : s1.length ≤ maxLen) :
    Calls Try.prog 4 #[.slice a0 s0.length c0, .slice a1 s1.length c1] w fun e w' => e = .returned (.bool true) ∧ Below w.heap.size w w' := by
  obtain ⟨i0, hi, hz0', hz1, hz2⟩ := info_parts info3
  obtain ⟨j0, hj, hy0, hy1, hy2⟩ := info_parts info4
  go_enter Try.func4, Try.ntmps4
  go_wp2_with fail
  refine (guardB_any a0 c0 s0.length a1 c1 s1.length w).mono ?_
  rintro e w' ⟨⟨b, rfl⟩, rfl⟩
  cases b with
  | false =>
    go_wp2_with fail
    go_ret
    exact ⟨rfl, Below.refl _ _⟩
  | true =>
    by_cases m0 : s0.length ≤ 4096
    · have g0 : decide ((4096 : Int) < (s0.length : Int)) = false := decide_eq_false (by omega)
      by_cases m1 : s1.length ≤ 4096
      · have g1 : decide ((4096 : Int) < (s1.length : Int)) = false := decide_eq_false (by omega)
        go_wp2_with fail
        refine (copy_any a0 c0 s0 _ h0 m0).mono ?_
        rintro e w1 ⟨aA, cA, rfl, hA, BA⟩
        go_wp2_with fail
        refine (copy_any a1 c1 s1 _ (h1.below BA) m1).mono ?_
        rintro e w2 ⟨aB, cB, rfl, hB, BB⟩
        have hA2 := hA.below BB
        have B2 := below_then BA BB
        clear hA BA BB g0 g1
        go_wp2_with fail
        refine (build_any aA cA s0 aB cB s1 _ hA2 hB m0 m1).mono ?_
        rintro e w3 ⟨aE, cE, rfl, hE, BE⟩
        have hA3 := hA2.below BE
        have hB3 := hB.below BE
        have B3 := below_then B2 BE
        clear hA2 hB B2 BE
        go_wp2_with fail
        have hel := built_length s0 s1
        rw [← hel]
        refine (tree_any aE cE (built s0 s1) _ hE (by omega)).mono ?_
        rintro e w4 ⟨aT, cT, K, o1, out, rfl, hT, BT, T⟩
        rw [hel]
        have hA4 := hA3.below BT
        have hB4 := hB3.below BT
        have B4 := below_then B3 BT
        clear hE hA3 hB3 B3 BT hel
        go_wp2_with fail
        refine (keys_any aA cA s0 _ hA4 m0).mono ?_
        rintro e w5 ⟨aK, cK, ks, rfl, hK, KO, BK⟩
        have hA5 := hA4.below BK
        have hB5 := hB4.below BK
        have hT5 := hT.below BK
        have B5 := below_then B4 BK
        obtain rfl : ks = K := asc_unique KO.1 T.asc (fun x => by rw [KO.2.1, T.mem, built_i])
        have hTl := T.length
        clear hA4 hB4 hT B4 BK
        rw [hTl]
        have hkl : ks.length ≤ 4096 := T.len
        have HT := hide T
        have HKO := hide KO
        have HTL := hide hTl
        clear T KO hTl
        clear h0 h1 hA5 hB5
        go_wp2_with (at_make; refine wpList_make_full _ rfl _ _ 22 rfl w5.heap.size 3 i0 (.int .i64 0) 1 Try.underlying22 hi hz0' hz1 _ _ _ _ ks.length rfl rfl rfl rfl (by rw [hz2]; omega) (by unfold maxLen; omega) (Nat.le_refl _) ?_)
        intro w6 hown6 hgrow6
        have A6 : Arr w6 w5.heap.size ks.length 3 (fun p => .int .i64 ((fun _ => 0 : Nat → Int) p)) := (Arr.made (z := .int .i64 0) hown6).same (fun _ _ => rfl)
        have B6 : Below w5.heap.size w5 w6 := (Below.refl _ _).grown hgrow6 (Nat.le_refl _) (by intro k hk; cases hk)
        have HS6 : Hid (SmOk out ((ks.length : Int) - 2) (fun _ => 0)) := fun t h1 h2 => by have := HTL.out; omega
        clear hown6 hgrow6
        go_wp2_with fail
        go_loopg [8] ks.length (fun gk i wr => ∃ (z : Int) (sm : Nat → Int), z + 1 ≤ gk ∧ i = .int .i64 z ∧ -2 ≤ z ∧ z + 2 ≤ ks.length ∧ Arr wr w5.heap.size ks.length 3 (fun p => .int .i64 (sm p)) ∧ Hid (SmOk out z sm) ∧ Below w5.heap.size w5 wr)
        case atStart => exact ⟨(ks.length : Int) - 2, _, by omega, rfl, by omega, by omega, A6, HS6, B6⟩
        case round =>
          clear A6 B6 HS6
          obtain ⟨z, sm, hzg, rfl, hz2', hzn, A, HS, B⟩ := hrel
          by_cases hz : 0 ≤ z
          · obtain ⟨t, rfl⟩ := Int.eq_ofNat_of_zero_le hz
            have htn : t + 1 < ks.length := by omega
            have hlo : t + 1 < out.length := by rw [HTL.out]; exact htn
            obtain ⟨f, hf⟩ : ∃ f, f = out[t + 1] := ⟨_, rfl⟩
            have hfg : out[t + 1]? = some f := by rw [hf]; exact List.getElem?_eq_getElem hlo
            obtain ⟨b0, o0, hb, hb0, hrw⟩ := row_at hT5 (by omega)
            subst hb
            obtain ⟨k, hk⟩ := placed_at (up := s1) (f := f) ((HKO.out.2.1 f.i).1 (HT.out.pure.outK f (by rw [hf]; exact List.getElem_mem _)))
            have hR := hrw (t + 1) f hfg wr B
            rw [hk] at hR
            have cx : wr.cell? ⟨b0, o0 + (t + 1) * 16, none⟩ = some (.int .i64 f.i) := hR 0 _ rfl
            have t1 : (t : Int) + 1 < (ks.length : Int) := by omega
            have hct := A.read (j := t) (by omega)
            have hft := A.froz t
            have hct1 := A.read htn
            clear hf hk hR hrw
            go_wp2_with fail
            all_goals
              go_roundg t
              case measure => omega
              case rel => first
                | exact ⟨(t : Int) - 1, fun s => if s = t then f.i else sm s, by omega, rfl, by omega, by omega, A.set (x := .int .i64 f.i) (by omega) (fun s _ => by by_cases e : s = t <;> simp [e]), HS.out.own hfg, B.setCell (Nat.le_refl _) _⟩
                | exact ⟨(t : Int) - 1, fun s => if s = t then sm (t + 1) else sm s, by omega, rfl, by omega, by omega, A.set (x := .int .i64 (sm (t + 1))) (by omega) (fun s _ => by by_cases e : s = t <;> simp [e]), HS.out.copy (by have := HTL.out; omega), B.setCell (Nat.le_refl _) _⟩
          · have hz0 : decide (0 ≤ z) = false := decide_eq_false hz
            have hsz := B.size
            have HS1 := hide (HS.out.all (by omega))
            go_wp2_with (at_make; refine wpList_make_full _ rfl _ _ 22 rfl wr.heap.size 3 i0 (.int .i64 0) 1 Try.underlying22 hi hz0' hz1 _ _ _ _ ks.length rfl rfl rfl rfl (by rw [hz2]; omega) (by unfold maxLen; omega) (Nat.le_refl _) ?_)
            intro w7 hown7 hgrow7
            have A7 := A.grown hgrow7
            have T7 : Arr w7 wr.heap.size ks.length 3 (fun p => .int .i64 ((fun _ => 0 : Nat → Int) p)) := (Arr.made (z := .int .i64 0) hown7).same (fun _ _ => rfl)
            have B7 : Below w5.heap.size w5 w7 := B.grown hgrow7 hsz (by intro k hk; cases hk)
            have hLA : w5.heap.size < wr.heap.size := A.lt
            clear hown7 hgrow7 A B hsz HS hz0 hzg hz2' hzn hz
            generalize wr.heap.size = bA at T7 hLA ⊢
            go_wp2_with fail
            go_loopg [11] ks.length (fun gk i wq => ∃ (k : Nat) (at' : Nat → Int), k + gk = ks.length ∧ i = .int .i64 k ∧ Arr wq w5.heap.size ks.length 3 (fun p => .int .i64 (sm p)) ∧ Arr wq bA ks.length 3 (fun p => .int .i64 (at' p)) ∧ Hid (∀ p, p < k → at' p = -1) ∧ Below w5.heap.size w5 wq)
            case atStart => exact ⟨0, _, by omega, rfl, A7, T7, fun p hp => by omega, B7⟩
            case round =>
              clear A7 T7 B7
              obtain ⟨k, at', hkg, rfl, A, T, HA, B⟩ := hrel
              rcases gk with _ | gk
              · have e : k = ks.length := by omega
                subst e
                have hsz := B.size
                go_wp2_with (at_make; refine wpList_make_full _ rfl _ _ 29 rfl wr.heap.size 4 j0 (.bool false) 1 Try.underlying29 hj hy0 hy1 _ _ _ _ ks.length rfl rfl rfl rfl (by rw [hy2]; omega) (by unfold maxLen; omega) (Nat.le_refl _) ?_)
                intro w8 hown8 hgrow8
                have A8 := A.grown hgrow8
                have T8 := T.grown hgrow8
                have H8 : Arr w8 wr.heap.size ks.length 4 (fun p => .bool ((fun _ => false : Nat → Bool) p)) := (Arr.made (z := .bool false) hown8).same (fun _ _ => rfl)
                have B8 : Below w5.heap.size w5 w8 := B.grown hgrow8 hsz (by intro k hk; cases hk)
                have hLH : bA < wr.heap.size := T.lt
                have hsz8 := B8.size
                clear hown8 hgrow8 A T B hsz
                generalize wr.heap.size = bH at H8 hLH ⊢
                go_wp2_with (at_make; refine wpList_make_full _ rfl _ _ 22 rfl w8.heap.size 3 i0 (.int .i64 0) 1 Try.underlying22 hi hz0' hz1 _ _ _ _ ks.length rfl rfl rfl rfl (by rw [hz2]; omega) (by unfold maxLen; omega) (Nat.le_refl _) ?_)
                intro w9 hown9 hgrow9
                have A9 := A8.grown hgrow9
                have T9 := T8.grown hgrow9
                have H9 := H8.grown hgrow9
                have L9 : Arr w9 w8.heap.size ks.length 3 (fun p => .int .i64 ((fun _ => 0 : Nat → Int) p)) := (Arr.made (z := .int .i64 0) hown9).same (fun _ _ => rfl)
                have B9 : Below w5.heap.size w5 w9 := B8.grown hgrow9 hsz8 (by intro k hk; cases hk)
                have hLL : bH < w8.heap.size := H8.lt
                have HAT := hide (AtOk.start (out := out) HA.out)
                clear hown9 hgrow9 A8 T8 H8 B8 hsz8 HA
                generalize w8.heap.size = bL at L9 hLL ⊢
                have hLA2 : w5.heap.size < bH := by omega
                have hLA3 : w5.heap.size < bL := by omega
                have F9 : FSt w5 bA bH bL (built s0 s1) out ks sm 0 false 0 false at' (fun _ => false) (fun _ => 0) w9 := ⟨A9, T9, H9, L9, HAT.out, fun p hp h => by simp at h, fun h => by simp at h, fun h => by simp at h, B9⟩
                clear A9 T9 H9 L9 HAT B9
                go_wp2_with fail
                go_loopg [14, 15, 16, 17] ks.length (fun gk ht lt hl i wq => FRel w5 bA bH bL (built s0 s1) out ks sm gk ht lt hl i wq)
                case atStart => exact ⟨0, false, 0, false, _, _, _, by omega, rfl, rfl, rfl, rfl, F9⟩
                case round =>
                  clear F9
                  obtain ⟨j, bt, zt, bl, at', hk, lk, hjg, rfl, rfl, rfl, rfl, F⟩ := hrel
                  rcases gk with _ | gk
                  · have e : j = ks.length := by omega
                    subst e
                    have hB := below_then B5 F.B
                    go_wp2_with fail
                    go_ret
                    exact ⟨rfl, hB⟩
                  · have hlt : j < ks.length := by omega
                    have i1 : (j : Int) < (ks.length : Int) := by omega
                    have hlo : j < out.length := by rw [HTL.out]; exact hlt
                    obtain ⟨f, hf⟩ : ∃ f, f = out[j] := ⟨_, rfl⟩
                    have hfg : out[j]? = some f := by rw [hf]; exact List.getElem?_eq_getElem hlo
                    have hfK : f.i ∈ ks := HT.out.pure.outK f (by rw [hf]; exact List.getElem_mem _)
                    obtain ⟨b0, o0, hb, hb0, hrw⟩ := row_at hT5 (by omega)
                    subst hb
                    obtain ⟨k, hk'⟩ := placed_at (up := s1) (f := f) ((HKO.out.2.1 f.i).1 hfK)
                    have hR := hrw j f hfg wr F.B
                    rw [hk'] at hR
                    obtain ⟨p, hp, hpx⟩ := place_of hfK
                    have hat : at' p = -1 := F.AT.new HT.out.pure.nodup hfg hp (by rw [getD_get hp]; exact hpx)
                    have HAS := hide (F.AT.step HKO.out.1 hfg hp (by rw [getD_get hp]; exact hpx))
                    have HPX := hide hpx
                    have HAT := hide hat
                    have p0 : decide ((p : Int) < 0) = false := decide_eq_false (by omega)
                    have p1 : (p : Int) < (ks.length : Int) := by omega
                    have hsz := F.B.size
                    have nFA : wr.heap.size ≠ bA := by have := F.T.lt; omega
                    have NFH := hide F.H.lt
                    have NFL := hide F.L.lt
                    have hpl := HT.out.dinv.placed j f hfg
                    have HC : Hid (hangs (built s0 s1) f.i = (decide ((entOf (built s0 s1) f.i).c ∈ ks) && (entOf (built s0 s1) f.i).c != 0)) := by
                      unfold hangs Hid
                      congr 1
                      rw [decide_eq_decide, built_i]
                      exact (HKO.out.2.1 _).symm
                    have hT := there_new wr #[.int .i64 0, .int .i64 0, .int .i64 0, .int .i64 0, .string ⟨#[]⟩, .string ⟨#[]⟩, .string ⟨#[]⟩, .string ⟨#[]⟩, .string ⟨#[]⟩, .string ⟨#[]⟩, .string ⟨#[]⟩, .string ⟨#[]⟩, .string ⟨#[]⟩, .string ⟨#[]⟩, .bool false, .int .i64 0] 31 16 rfl
                    obtain ⟨c, hc⟩ : ∃ c, c = (entOf (built s0 s1) f.i).c := ⟨_, rfl⟩
                    rw [← hc] at hR
                    have HCC := hide hc
                    have HRW := hide hrw
                    clear hf hfK hk' hpx hat hrw hc
                    rcases hpl with hroot | hkid
                    · obtain ⟨hp0, hd0⟩ := hroot
                      rw [hp0, hd0] at hR
                      have HP0 := hide hp0
                      have F2 := F.lay (.cells #[.int .i64 0, .int .i64 0, .int .i64 0, .int .i64 0, .string ⟨#[]⟩, .string ⟨#[]⟩, .string ⟨#[]⟩, .string ⟨#[]⟩, .string ⟨#[]⟩, .string ⟨#[]⟩, .string ⟨#[]⟩, .string ⟨#[]⟩, .string ⟨#[]⟩, .string ⟨#[]⟩, .bool false, .int .i64 0] 31) (Ent.cells ⟨f.i, 0, 0, k, c⟩)
                      have HR2 := hide (World.rangeAt_setCells_same _ wr.heap.size 0 (Ent.cells ⟨f.i, 0, 0, k, c⟩) hT)
                      obtain ⟨x, hx⟩ : ∃ x, x = f.i := ⟨_, rfl⟩
                      rw [← hx] at hR F2 HR2
                      have HX := hide hx
                      clear hx hp0 hd0
                      by_cases hc0 : c = 0
                      · skip
                        subst hc0
                        have hh : hangs (built s0 s1) f.i = false := by rw [HC.out, ← HCC.out]; simp
                        obtain ⟨hbl, hbt⟩ := HT.out.trueRoot hfg HP0.out hh F.TR F.LP
                        subst hbl
                        have HTR : Hid (TrueSt (built s0 s1) out (j + 1) true x) := fun _ => ⟨j, f, by omega, hfg, HP0.out, hh, HX.out⟩
                        have HLP := hide F.LP.later
                        cases bt with
                        | true =>
                          have hzt : decide (x ≤ zt) = false := decide_eq_false (by have := hbt rfl; rw [HX.out]; omega)
                          clear F hh hbt
                          have tokA : True := trivial
                          go_wp2_with (first
                            | (have _t := tokA; refine wpList_load_mid rfl 31 (.tmp 116) rfl b0 (o0 + j * 16) rfl (Ent.cells ⟨x, 0, 0, k, 0⟩) _ hR Try.underlying31 rfl (by kernel_rfl) ?_; clear tokA; clear _t; have tokB : True := trivial)
                            | (have _t := tokB; refine wpList_store_mid rfl 31 (.tmp 18) (.tmp 117) rfl wr.heap.size 0 (Ent.cells ⟨x, 0, 0, k, 0⟩).toArray rfl rfl hT (by kernel_rfl) (Ent.oneCell _) ?_; clear tokB; clear _t; rw [List.toList_toArray]; generalize World.setCells (wr.alloc (.cells #[.int .i64 0, .int .i64 0, .int .i64 0, .int .i64 0, .string ⟨#[]⟩, .string ⟨#[]⟩, .string ⟨#[]⟩, .string ⟨#[]⟩, .string ⟨#[]⟩, .string ⟨#[]⟩, .string ⟨#[]⟩, .string ⟨#[]⟩, .string ⟨#[]⟩, .string ⟨#[]⟩, .bool false, .int .i64 0] 31)) wr.heap.size 0 (Ent.cells ⟨x, 0, 0, k, 0⟩) = w8 at F2 HR2 ⊢; have R2 := HR2.out
                               have cF0 : w8.cell? ⟨wr.heap.size, 0, none⟩ = some (.int .i64 x) := R2 0 _ rfl
                               have cF1 : w8.cell? ⟨wr.heap.size, 1, none⟩ = some (.int .i64 0) := R2 1 _ rfl
                               have cF2 : w8.cell? ⟨wr.heap.size, 2, none⟩ = some (.int .i64 (0)) := R2 2 _ rfl
                               have cF15 : w8.cell? ⟨wr.heap.size, 15, none⟩ = some (.int .i64 0) := R2 15 _ rfl
                               have hca : w8.cell? ⟨bA, p, none⟩ = some (.int .i64 (-1)) := by rw [F2.T.read hp, HAT.out]
                               have hfa := F2.T.froz p
                               have hKr := hK.below F2.B
                               have hKr2 : NumRow (w8.setCell ⟨bA, p, none⟩ (.int .i64 (j : Nat))) aK ks := hK.below (F2.B.setCell (by show w5.heap.size ≤ bA; omega) _)
                               clear hT R2 hR; have tok1 : True := trivial)
                            | (go_at_call 11; have _t := tok1; refine (find_hit _ _ ks x _ hKr hkl HKO.out.1 p hp (HPX.out.trans HX.out.symm)).mono ?_; rintro e w10 ⟨rfl, rfl⟩; clear tok1; clear _t; have tok2 : True := trivial))
                          go_roundg gk
                          case measure => omega
                          case rel => exact ⟨j + 1, true, x, false, _, hk, lk, by omega, by go_num, rfl, rfl, rfl, F2.mark hp HAS.out HTR.out HLP.out hLA hLH hLL⟩
                        | false =>
                          clear F hh hbt
                          have tokA : True := trivial
                          go_wp2_with (first
                            | (have _t := tokA; refine wpList_load_mid rfl 31 (.tmp 116) rfl b0 (o0 + j * 16) rfl (Ent.cells ⟨x, 0, 0, k, 0⟩) _ hR Try.underlying31 rfl (by kernel_rfl) ?_; clear tokA; clear _t; have tokB : True := trivial)
                            | (have _t := tokB; refine wpList_store_mid rfl 31 (.tmp 18) (.tmp 117) rfl wr.heap.size 0 (Ent.cells ⟨x, 0, 0, k, 0⟩).toArray rfl rfl hT (by kernel_rfl) (Ent.oneCell _) ?_; clear tokB; clear _t; rw [List.toList_toArray]; generalize World.setCells (wr.alloc (.cells #[.int .i64 0, .int .i64 0, .int .i64 0, .int .i64 0, .string ⟨#[]⟩, .string ⟨#[]⟩, .string ⟨#[]⟩, .string ⟨#[]⟩, .string ⟨#[]⟩, .string ⟨#[]⟩, .string ⟨#[]⟩, .string ⟨#[]⟩, .string ⟨#[]⟩, .string ⟨#[]⟩, .bool false, .int .i64 0] 31)) wr.heap.size 0 (Ent.cells ⟨x, 0, 0, k, 0⟩) = w8 at F2 HR2 ⊢; have R2 := HR2.out
                               have cF0 : w8.cell? ⟨wr.heap.size, 0, none⟩ = some (.int .i64 x) := R2 0 _ rfl
                               have cF1 : w8.cell? ⟨wr.heap.size, 1, none⟩ = some (.int .i64 0) := R2 1 _ rfl
                               have cF2 : w8.cell? ⟨wr.heap.size, 2, none⟩ = some (.int .i64 (0)) := R2 2 _ rfl
                               have cF15 : w8.cell? ⟨wr.heap.size, 15, none⟩ = some (.int .i64 0) := R2 15 _ rfl
                               have hca : w8.cell? ⟨bA, p, none⟩ = some (.int .i64 (-1)) := by rw [F2.T.read hp, HAT.out]
                               have hfa := F2.T.froz p
                               have hKr := hK.below F2.B
                               have hKr2 : NumRow (w8.setCell ⟨bA, p, none⟩ (.int .i64 (j : Nat))) aK ks := hK.below (F2.B.setCell (by show w5.heap.size ≤ bA; omega) _)
                               clear hT R2 hR; have tok1 : True := trivial)
                            | (go_at_call 11; have _t := tok1; refine (find_hit _ _ ks x _ hKr hkl HKO.out.1 p hp (HPX.out.trans HX.out.symm)).mono ?_; rintro e w10 ⟨rfl, rfl⟩; clear tok1; clear _t; have tok2 : True := trivial))
                          go_roundg gk
                          case measure => omega
                          case rel => exact ⟨j + 1, true, x, false, _, hk, lk, by omega, by go_num, rfl, rfl, rfl, F2.mark hp HAS.out HTR.out HLP.out hLA hLH hLL⟩
                      · by_cases hin : c ∈ ks
                        · skip
                          have hne : (c != 0) = true := by simp [hc0]
                          have hh : hangs (built s0 s1) f.i = true := by rw [HC.out, ← HCC.out, hne, decide_eq_true hin]; rfl
                          obtain ⟨pc, hpc, hpcx⟩ := place_of hin
                          have HPC := hide hpcx
                          have pc0 : decide ((pc : Int) < 0) = false := decide_eq_false (by omega)
                          have HLP : Hid (LoopSt (built s0 s1) out (j + 1) true) := fun _ => ⟨j, f, by omega, hfg, HP0.out, hh⟩
                          have HTR := hide F.TR.later
                          clear hpcx hin
                          by_cases hjn : j + 1 < ks.length
                          · have q1 : (j : Int) < (ks.length : Int) - 1 := by omega
                            have q2 : decide (sm j ≤ x) = false := decide_eq_false (by have := HT.out.loopRoot hfg HP0.out hh HS1.out (by rw [HTL.out]; exact hjn); rw [HX.out]; omega)
                            clear F hh
                            have tokA : True := trivial
                            go_wp2_with (first
                              | (have _t := tokA; refine wpList_load_mid rfl 31 (.tmp 116) rfl b0 (o0 + j * 16) rfl (Ent.cells ⟨x, 0, 0, k, c⟩) _ hR Try.underlying31 rfl (by kernel_rfl) ?_; clear tokA; clear _t; have tokB : True := trivial)
                              | (have _t := tokB; refine wpList_store_mid rfl 31 (.tmp 18) (.tmp 117) rfl wr.heap.size 0 (Ent.cells ⟨x, 0, 0, k, c⟩).toArray rfl rfl hT (by kernel_rfl) (Ent.oneCell _) ?_; clear tokB; clear _t; rw [List.toList_toArray]; generalize World.setCells (wr.alloc (.cells #[.int .i64 0, .int .i64 0, .int .i64 0, .int .i64 0, .string ⟨#[]⟩, .string ⟨#[]⟩, .string ⟨#[]⟩, .string ⟨#[]⟩, .string ⟨#[]⟩, .string ⟨#[]⟩, .string ⟨#[]⟩, .string ⟨#[]⟩, .string ⟨#[]⟩, .string ⟨#[]⟩, .bool false, .int .i64 0] 31)) wr.heap.size 0 (Ent.cells ⟨x, 0, 0, k, c⟩) = w8 at F2 HR2 ⊢; have R2 := HR2.out
                                 have cF0 : w8.cell? ⟨wr.heap.size, 0, none⟩ = some (.int .i64 x) := R2 0 _ rfl
                                 have cF1 : w8.cell? ⟨wr.heap.size, 1, none⟩ = some (.int .i64 0) := R2 1 _ rfl
                                 have cF2 : w8.cell? ⟨wr.heap.size, 2, none⟩ = some (.int .i64 (0)) := R2 2 _ rfl
                                 have cF15 : w8.cell? ⟨wr.heap.size, 15, none⟩ = some (.int .i64 c) := R2 15 _ rfl
                                 have hca : w8.cell? ⟨bA, p, none⟩ = some (.int .i64 (-1)) := by rw [F2.T.read hp, HAT.out]
                                 have hfa := F2.T.froz p
                                 have hKr := hK.below F2.B
                                 have hKr2 : NumRow (w8.setCell ⟨bA, p, none⟩ (.int .i64 (j : Nat))) aK ks := hK.below (F2.B.setCell (by show w5.heap.size ≤ bA; omega) _)
                                 have hcs : w8.cell? ⟨w5.heap.size, j, none⟩ = some (.int .i64 (sm j)) := F2.A.read hlt
                                 have nSA : w5.heap.size ≠ bA := by omega
                                 clear hT R2 hR; have tok1 : True := trivial)
                              | (go_at_call 11; have _t := tok1; refine (find_hit _ _ ks x _ hKr hkl HKO.out.1 p hp (HPX.out.trans HX.out.symm)).mono ?_; rintro e w10 ⟨rfl, rfl⟩; clear tok1; clear _t; have tok2 : True := trivial)
                              | (go_at_call 11; have _t := tok2; refine (find_hit _ _ ks c _ hKr2 hkl HKO.out.1 pc hpc HPC.out).mono ?_; rintro e w11 ⟨rfl, rfl⟩; clear tok2; clear _t))
                            go_quiet (fail)
                            go_wp2_with fail
                            go_roundg gk
                            case measure => omega
                            case rel => exact ⟨j + 1, bt, zt, true, _, hk, lk, by omega, by go_num, rfl, rfl, rfl, (F2.mark hp HAS.out HTR.out HLP.out hLA hLH hLL).drewN _⟩
                          · have q1 : decide ((j : Int) < (ks.length : Int) - 1) = false := decide_eq_false (by omega)
                            clear F hh
                            have tokA : True := trivial
                            go_wp2_with (first
                              | (have _t := tokA; refine wpList_load_mid rfl 31 (.tmp 116) rfl b0 (o0 + j * 16) rfl (Ent.cells ⟨x, 0, 0, k, c⟩) _ hR Try.underlying31 rfl (by kernel_rfl) ?_; clear tokA; clear _t; have tokB : True := trivial)
                              | (have _t := tokB; refine wpList_store_mid rfl 31 (.tmp 18) (.tmp 117) rfl wr.heap.size 0 (Ent.cells ⟨x, 0, 0, k, c⟩).toArray rfl rfl hT (by kernel_rfl) (Ent.oneCell _) ?_; clear tokB; clear _t; rw [List.toList_toArray]; generalize World.setCells (wr.alloc (.cells #[.int .i64 0, .int .i64 0, .int .i64 0, .int .i64 0, .string ⟨#[]⟩, .string ⟨#[]⟩, .string ⟨#[]⟩, .string ⟨#[]⟩, .string ⟨#[]⟩, .string ⟨#[]⟩, .string ⟨#[]⟩, .string ⟨#[]⟩, .string ⟨#[]⟩, .string ⟨#[]⟩, .bool false, .int .i64 0] 31)) wr.heap.size 0 (Ent.cells ⟨x, 0, 0, k, c⟩) = w8 at F2 HR2 ⊢; have R2 := HR2.out
                                 have cF0 : w8.cell? ⟨wr.heap.size, 0, none⟩ = some (.int .i64 x) := R2 0 _ rfl
                                 have cF1 : w8.cell? ⟨wr.heap.size, 1, none⟩ = some (.int .i64 0) := R2 1 _ rfl
                                 have cF2 : w8.cell? ⟨wr.heap.size, 2, none⟩ = some (.int .i64 (0)) := R2 2 _ rfl
                                 have cF15 : w8.cell? ⟨wr.heap.size, 15, none⟩ = some (.int .i64 c) := R2 15 _ rfl
                                 have hca : w8.cell? ⟨bA, p, none⟩ = some (.int .i64 (-1)) := by rw [F2.T.read hp, HAT.out]
                                 have hfa := F2.T.froz p
                                 have hKr := hK.below F2.B
                                 have hKr2 : NumRow (w8.setCell ⟨bA, p, none⟩ (.int .i64 (j : Nat))) aK ks := hK.below (F2.B.setCell (by show w5.heap.size ≤ bA; omega) _)
                                 clear hT R2 hR; have tok1 : True := trivial)
                              | (go_at_call 11; have _t := tok1; refine (find_hit _ _ ks x _ hKr hkl HKO.out.1 p hp (HPX.out.trans HX.out.symm)).mono ?_; rintro e w10 ⟨rfl, rfl⟩; clear tok1; clear _t; have tok2 : True := trivial)
                              | (go_at_call 11; have _t := tok2; refine (find_hit _ _ ks c _ hKr2 hkl HKO.out.1 pc hpc HPC.out).mono ?_; rintro e w11 ⟨rfl, rfl⟩; clear tok2; clear _t))
                            go_quiet (fail)
                            go_wp2_with fail
                            go_roundg gk
                            case measure => omega
                            case rel => exact ⟨j + 1, bt, zt, true, _, hk, lk, by omega, by go_num, rfl, rfl, rfl, (F2.mark hp HAS.out HTR.out HLP.out hLA hLH hLL).drewN _⟩
                        · skip
                          have hne : (c != 0) = true := by simp [hc0]
                          have hh : hangs (built s0 s1) f.i = false := by rw [HC.out, ← HCC.out, decide_eq_false hin, Bool.false_and]
                          obtain ⟨hbl, hbt⟩ := HT.out.trueRoot hfg HP0.out hh F.TR F.LP
                          subst hbl
                          have HTR : Hid (TrueSt (built s0 s1) out (j + 1) true x) := fun _ => ⟨j, f, by omega, hfg, HP0.out, hh, HX.out⟩
                          have HLP := hide F.LP.later
                          cases bt with
                          | true =>
                            have hzt : decide (x ≤ zt) = false := decide_eq_false (by have := hbt rfl; rw [HX.out]; omega)
                            clear F hh hbt
                            have tokA : True := trivial
                            go_wp2_with (first
                              | (have _t := tokA; refine wpList_load_mid rfl 31 (.tmp 116) rfl b0 (o0 + j * 16) rfl (Ent.cells ⟨x, 0, 0, k, c⟩) _ hR Try.underlying31 rfl (by kernel_rfl) ?_; clear tokA; clear _t; have tokB : True := trivial)
                              | (have _t := tokB; refine wpList_store_mid rfl 31 (.tmp 18) (.tmp 117) rfl wr.heap.size 0 (Ent.cells ⟨x, 0, 0, k, c⟩).toArray rfl rfl hT (by kernel_rfl) (Ent.oneCell _) ?_; clear tokB; clear _t; rw [List.toList_toArray]; generalize World.setCells (wr.alloc (.cells #[.int .i64 0, .int .i64 0, .int .i64 0, .int .i64 0, .string ⟨#[]⟩, .string ⟨#[]⟩, .string ⟨#[]⟩, .string ⟨#[]⟩, .string ⟨#[]⟩, .string ⟨#[]⟩, .string ⟨#[]⟩, .string ⟨#[]⟩, .string ⟨#[]⟩, .string ⟨#[]⟩, .bool false, .int .i64 0] 31)) wr.heap.size 0 (Ent.cells ⟨x, 0, 0, k, c⟩) = w8 at F2 HR2 ⊢; have R2 := HR2.out
                                 have cF0 : w8.cell? ⟨wr.heap.size, 0, none⟩ = some (.int .i64 x) := R2 0 _ rfl
                                 have cF1 : w8.cell? ⟨wr.heap.size, 1, none⟩ = some (.int .i64 0) := R2 1 _ rfl
                                 have cF2 : w8.cell? ⟨wr.heap.size, 2, none⟩ = some (.int .i64 (0)) := R2 2 _ rfl
                                 have cF15 : w8.cell? ⟨wr.heap.size, 15, none⟩ = some (.int .i64 c) := R2 15 _ rfl
                                 have hca : w8.cell? ⟨bA, p, none⟩ = some (.int .i64 (-1)) := by rw [F2.T.read hp, HAT.out]
                                 have hfa := F2.T.froz p
                                 have hKr := hK.below F2.B
                                 have hKr2 : NumRow (w8.setCell ⟨bA, p, none⟩ (.int .i64 (j : Nat))) aK ks := hK.below (F2.B.setCell (by show w5.heap.size ≤ bA; omega) _)
                                 clear hT R2 hR; have tok1 : True := trivial)
                              | (go_at_call 11; have _t := tok1; refine (find_hit _ _ ks x _ hKr hkl HKO.out.1 p hp (HPX.out.trans HX.out.symm)).mono ?_; rintro e w10 ⟨rfl, rfl⟩; clear tok1; clear _t; have tok2 : True := trivial)
                              | (go_at_call 11; have _t := tok2; refine (find_miss _ _ ks c _ hKr2 hkl HKO.out.1 hin).mono ?_; rintro e w11 ⟨rfl, rfl⟩; clear tok2; clear _t))
                            go_roundg gk
                            case measure => omega
                            case rel => exact ⟨j + 1, true, x, false, _, hk, lk, by omega, by go_num, rfl, rfl, rfl, F2.mark hp HAS.out HTR.out HLP.out hLA hLH hLL⟩
                          | false =>
                            clear F hh hbt
                            have tokA : True := trivial
                            go_wp2_with (first
                              | (have _t := tokA; refine wpList_load_mid rfl 31 (.tmp 116) rfl b0 (o0 + j * 16) rfl (Ent.cells ⟨x, 0, 0, k, c⟩) _ hR Try.underlying31 rfl (by kernel_rfl) ?_; clear tokA; clear _t; have tokB : True := trivial)
                              | (have _t := tokB; refine wpList_store_mid rfl 31 (.tmp 18) (.tmp 117) rfl wr.heap.size 0 (Ent.cells ⟨x, 0, 0, k, c⟩).toArray rfl rfl hT (by kernel_rfl) (Ent.oneCell _) ?_; clear tokB; clear _t; rw [List.toList_toArray]; generalize World.setCells (wr.alloc (.cells #[.int .i64 0, .int .i64 0, .int .i64 0, .int .i64 0, .string ⟨#[]⟩, .string ⟨#[]⟩, .string ⟨#[]⟩, .string ⟨#[]⟩, .string ⟨#[]⟩, .string ⟨#[]⟩, .string ⟨#[]⟩, .string ⟨#[]⟩, .string ⟨#[]⟩, .string ⟨#[]⟩, .bool false, .int .i64 0] 31)) wr.heap.size 0 (Ent.cells ⟨x, 0, 0, k, c⟩) = w8 at F2 HR2 ⊢; have R2 := HR2.out
                                 have cF0 : w8.cell? ⟨wr.heap.size, 0, none⟩ = some (.int .i64 x) := R2 0 _ rfl
                                 have cF1 : w8.cell? ⟨wr.heap.size, 1, none⟩ = some (.int .i64 0) := R2 1 _ rfl
                                 have cF2 : w8.cell? ⟨wr.heap.size, 2, none⟩ = some (.int .i64 (0)) := R2 2 _ rfl
                                 have cF15 : w8.cell? ⟨wr.heap.size, 15, none⟩ = some (.int .i64 c) := R2 15 _ rfl
                                 have hca : w8.cell? ⟨bA, p, none⟩ = some (.int .i64 (-1)) := by rw [F2.T.read hp, HAT.out]
                                 have hfa := F2.T.froz p
                                 have hKr := hK.below F2.B
                                 have hKr2 : NumRow (w8.setCell ⟨bA, p, none⟩ (.int .i64 (j : Nat))) aK ks := hK.below (F2.B.setCell (by show w5.heap.size ≤ bA; omega) _)
                                 clear hT R2 hR; have tok1 : True := trivial)
                              | (go_at_call 11; have _t := tok1; refine (find_hit _ _ ks x _ hKr hkl HKO.out.1 p hp (HPX.out.trans HX.out.symm)).mono ?_; rintro e w10 ⟨rfl, rfl⟩; clear tok1; clear _t; have tok2 : True := trivial)
                              | (go_at_call 11; have _t := tok2; refine (find_miss _ _ ks c _ hKr2 hkl HKO.out.1 hin).mono ?_; rintro e w11 ⟨rfl, rfl⟩; clear tok2; clear _t))
                            go_roundg gk
                            case measure => omega
                            case rel => exact ⟨j + 1, true, x, false, _, hk, lk, by omega, by go_num, rfl, rfl, rfl, F2.mark hp HAS.out HTR.out HLP.out hLA hLH hLL⟩
                    · obtain ⟨hp0, hh, hcp, pj, g, hpj, hg, hgi, hd, hbt⟩ := hkid
                      have hpc0 : f.p = c := by rw [HCC.out]; exact hcp.symm
                      obtain ⟨dp, hdp⟩ : ∃ dp, dp = g.d := ⟨_, rfl⟩
                      rw [hpc0, hd, ← hdp] at hR
                      have hgK : g.i ∈ ks := HT.out.pure.outK g (List.mem_of_getElem? hg)
                      have hgc : g.i = c := hgi.trans hpc0
                      obtain ⟨pc, hpc, hpcx⟩ := place_of hgK
                      have hc0 : c ≠ 0 := by rw [← hpc0]; exact hp0
                      have hne : (c != 0) = true := by simp [hc0]
                      have hne0 : decide (c = 0) = false := decide_eq_false hc0
                      have hpar : at' pc = (pj : Nat) := F.AT.parent HT.out.pure.nodup hpj hg hpc (by rw [getD_get hpc]; exact hpcx)
                      have hpp : pc ≠ p := by
                        rintro rfl
                        have e : g.i = f.i := hpcx.symm.trans HPX.out
                        have := same_place HT.out.pure.nodup hg hfg e
                        omega
                      have HPC := hide (hpcx.trans hgc)
                      have HPAR := hide hpar
                      have HKS := hide (F.KD.step hfg (p := pc) (by rw [getD_get hpc, hpcx, hgc, hpc0]) hp0)
                      have HLK : Hid (hk pc = true → lk pc < f.i) := HT.out.lastKid hfg F.KD hpc (by rw [getD_get hpc, hpcx, hgc, hpc0])
                      have hgd := HT.out.depth pj g hg
                      rw [← hdp] at hgd
                      have hwr : IntKind.i64.wrap (dp + 1) = dp + 1 := by rw [IntKind.wrap_i64]; omega
                      have HBT : Hid (∀ q h', pj < q → q < j → out[q]? = some h' → dp + 1 ≤ h'.d) := fun q h' h1 h2 h3 => by rw [hdp, ← hd]; exact hbt q h' h1 h2 h3
                      have HG := hide hg
                      have HDP := hide hdp
                      have pc0 : decide ((pc : Int) < 0) = false := decide_eq_false (by omega)
                      have pc1 : (pc : Int) < (ks.length : Int) := by omega
                      have pj0 : decide ((pj : Int) < 0) = false := decide_eq_false (by omega)
                      have pj1 : (pj : Int) < (ks.length : Int) := by omega
                      have HTR := hide F.TR.later
                      have HLP := hide F.LP.later
                      have F2 := F.lay (.cells #[.int .i64 0, .int .i64 0, .int .i64 0, .int .i64 0, .string ⟨#[]⟩, .string ⟨#[]⟩, .string ⟨#[]⟩, .string ⟨#[]⟩, .string ⟨#[]⟩, .string ⟨#[]⟩, .string ⟨#[]⟩, .string ⟨#[]⟩, .string ⟨#[]⟩, .string ⟨#[]⟩, .bool false, .int .i64 0] 31) (Ent.cells ⟨f.i, c, dp + 1, k, c⟩)
                      have HR2 := hide (World.rangeAt_setCells_same _ wr.heap.size 0 (Ent.cells ⟨f.i, c, dp + 1, k, c⟩) hT)
                      obtain ⟨x, hx⟩ : ∃ x, x = f.i := ⟨_, rfl⟩
                      rw [← hx] at hR F2 HR2
                      have HX := hide hx
                      clear hx hp0 hd hdp hbt hh hcp hgi hgK hgc hpcx hpar F hg hpc0
                      have tokA : True := trivial
                      go_wp2_with (first
                        | (have _t := tokA; refine wpList_load_mid rfl 31 (.tmp 116) rfl b0 (o0 + j * 16) rfl (Ent.cells ⟨x, c, dp + 1, k, c⟩) _ hR Try.underlying31 rfl (by kernel_rfl) ?_; clear tokA; clear _t; have tokB : True := trivial)
                        | (have _t := tokB; refine wpList_store_mid rfl 31 (.tmp 18) (.tmp 117) rfl wr.heap.size 0 (Ent.cells ⟨x, c, dp + 1, k, c⟩).toArray rfl rfl hT (by kernel_rfl) (Ent.oneCell _) ?_; clear tokB; clear _t; rw [List.toList_toArray]; generalize World.setCells (wr.alloc (.cells #[.int .i64 0, .int .i64 0, .int .i64 0, .int .i64 0, .string ⟨#[]⟩, .string ⟨#[]⟩, .string ⟨#[]⟩, .string ⟨#[]⟩, .string ⟨#[]⟩, .string ⟨#[]⟩, .string ⟨#[]⟩, .string ⟨#[]⟩, .string ⟨#[]⟩, .string ⟨#[]⟩, .bool false, .int .i64 0] 31)) wr.heap.size 0 (Ent.cells ⟨x, c, dp + 1, k, c⟩) = w8 at F2 HR2 ⊢; have R2 := HR2.out
                           have cF0 : w8.cell? ⟨wr.heap.size, 0, none⟩ = some (.int .i64 x) := R2 0 _ rfl
                           have cF1 : w8.cell? ⟨wr.heap.size, 1, none⟩ = some (.int .i64 c) := R2 1 _ rfl
                           have cF2 : w8.cell? ⟨wr.heap.size, 2, none⟩ = some (.int .i64 (dp + 1)) := R2 2 _ rfl
                           have cF15 : w8.cell? ⟨wr.heap.size, 15, none⟩ = some (.int .i64 c) := R2 15 _ rfl
                           have hca : w8.cell? ⟨bA, p, none⟩ = some (.int .i64 (-1)) := by rw [F2.T.read hp, HAT.out]
                           have hfa := F2.T.froz p
                           have hKr := hK.below F2.B
                           have hKr2 : NumRow (w8.setCell ⟨bA, p, none⟩ (.int .i64 (j : Nat))) aK ks := hK.below (F2.B.setCell (by show w5.heap.size ≤ bA; omega) _)
                           have hcp2 : w8.cell? ⟨bA, pc, none⟩ = some (.int .i64 (pj : Nat)) := by rw [F2.T.read hpc, HPAR.out]
                           clear hT R2 hR; have tok1 : True := trivial)
                        | (go_at_call 11; have _t := tok1; refine (find_hit _ _ ks x _ hKr hkl HKO.out.1 p hp (HPX.out.trans HX.out.symm)).mono ?_; rintro e w10 ⟨rfl, rfl⟩; clear tok1; clear _t; have tok2 : True := trivial)
                        | (go_at_call 11; have _t := tok2; refine (find_hit _ _ ks c _ hKr2 hkl HKO.out.1 pc hpc HPC.out).mono ?_; rintro e w11 ⟨rfl, rfl⟩; clear tok2; clear _t))
                      have hrow : w10.cell? ⟨b0, o0 + pj * 16 + 2, none⟩ = some (.int .i64 dp) := by
                        have h := HRW.out pj g HG.out w10 F2.B 2 _ rfl
                        rw [HDP.out]; exact h
                      have nb : b0 ≠ bA := by omega
                      go_quiet (fail)
                      go_wp2_with fail
                      have F3 := (F2.mark hp HAS.out HTR.out HLP.out hLA hLH hLL).drewN nq
                      have cG0 : ((w10.setCell ⟨bA, p, none⟩ (.int .i64 (j : Nat))).drewN nq).cell? ⟨wr.heap.size, 0, none⟩ = some (.int .i64 x) := (World.cell?_setCell_far _ _ _ _ (Ne.symm nFA)).trans cF0
                      have cG2 : ((w10.setCell ⟨bA, p, none⟩ (.int .i64 (j : Nat))).drewN nq).cell? ⟨wr.heap.size, 2, none⟩ = some (.int .i64 (dp + 1)) := (World.cell?_setCell_far _ _ _ _ (Ne.symm nFA)).trans cF2
                      have nFH : wr.heap.size ≠ bH := by have h := NFH.out; omega
                      have nFL : wr.heap.size ≠ bL := by have h := NFL.out; omega
                      clear F2 HR2 cF0 cF1 cF2 cF15 hca hfa hKr hKr2 hcp2 hrow
                      generalize (w10.setCell ⟨bA, p, none⟩ (.int .i64 (j : Nat))).drewN nq = w12 at F3 cG0 cG2 ⊢
                      generalize wr.heap.size = Fb at cG0 cG2 nFH nFL ⊢
                      obtain ⟨G, hG⟩ : ∃ G, G = gk := ⟨_, rfl⟩
                      have HGK := hide hG
                      clear hG
                      have hH := F3.H.read hpc
                      have fH := F3.H.froz pc
                      have hL := F3.L.read hpc
                      have fL := F3.L.froz pc
                      have nLH : bL ≠ bH := by omega
                      go_loopg [22] (j - 1 - pj) (fun g2 q wq => ∃ m, q = .int .i64 ((pj : Int) + (g2 : Int)) ∧ pj + g2 < j ∧ wq = w12.drewN m)
                      case atStart => exact ⟨0, by congr 1; omega, by omega, rfl⟩
                      case round =>
                        obtain ⟨m, hq, hqj, rfl⟩ := hrel
                        obtain ⟨t, ht⟩ : ∃ t : Nat, t = pj + gk := ⟨_, rfl⟩
                        have e22 : u22 = .int .i64 (t : Nat) := by rw [hq]; congr 1; omega
                        have hto : t < out.length := by rw [HTL.out]; omega
                        obtain ⟨h', hh'⟩ : ∃ h', out[t]? = some h' := ⟨_, List.getElem?_eq_getElem hto⟩
                        have hrow2 : w12.cell? ⟨b0, o0 + t * 16 + 2, none⟩ = some (.int .i64 h'.d) := HRW.out t h' hh' w12 F3.B 2 _ rfl
                        have HHP := hide hh'
                        clear hq hh'
                        subst e22
                        have t0 : (0 : Int) ≤ (t : Int) := by omega
                        have t1 : (t : Int) < (ks.length : Int) := by omega
                        rcases gk with _ | gk
                        · have e : t = pj := by omega
                          subst e
                          have hgd' : h'.d = dp := by
                            have h := HHP.out
                            rw [HG.out] at h
                            cases h
                            exact HDP.out.symm
                          rw [hgd'] at hrow2
                          have hcmp : decide (dp + 1 ≤ dp) = false := decide_eq_false (by omega)
                          clear hgd' ht
                          go_wp2_with fail
                          go_quiet (fail)
                          go_wp2_with fail
                          cases hkv : hk pc with
                          | true =>
                            rw [hkv] at hH
                            have hlk : decide (x ≤ lk pc) = false := decide_eq_false (by have := HLK.out hkv; rw [HX.out]; omega)
                            go_quiet (fail)
                            go_wp2_with fail
                            go_roundg G
                            case measure => have := HGK.out; omega
                            case rel => exact ⟨j + 1, bt, zt, bl, _, _, _, by have := HGK.out; omega, by go_num, rfl, rfl, rfl, (F3.drewN _).kid hpc (by rw [HX.out]; exact HKS.out) hLA hLH hLL⟩
                          | false =>
                            rw [hkv] at hH
                            go_quiet (fail)
                            go_wp2_with fail
                            go_roundg G
                            case measure => have := HGK.out; omega
                            case rel => exact ⟨j + 1, bt, zt, bl, _, _, _, by have := HGK.out; omega, by go_num, rfl, rfl, rfl, (F3.drewN _).kid hpc (by rw [HX.out]; exact HKS.out) hLA hLH hLL⟩
                        · have hge : dp + 1 ≤ h'.d := HBT.out t h' (by omega) (by omega) HHP.out
                          have HTP := hide ht
                          clear ht
                          go_wp2_with fail
                          go_quiet (fail)
                          go_wp2_with fail
                          go_roundg gk
                          case measure => omega
                          case rel => exact ⟨_, by congr 1; have := HTP.out; omega, by omega, rfl⟩
              · have hlt : k < ks.length := by omega
                have i1 : (k : Int) < (ks.length : Int) := by omega
                have hct := T.read hlt
                have hft := T.froz k
                have n1 : bA ≠ w5.heap.size := by omega
                go_wp2_with fail
                go_roundg gk
                case measure => omega
                case rel => exact ⟨k + 1, fun s => if s = k then -1 else at' s, by omega, by go_num, A.other n1 _ _, T.set hlt (fun s _ => by by_cases e : s = k <;> simp [e]), fun p hp => by
                  by_cases e : p = k
                  · simp [e]
                  · simp only [e, if_false]; exact HA.out p (by omega), B.setCell (by show w5.heap.size ≤ bA; omega) _⟩
      · have g1 : (4096 : Int) < (s1.length : Int) := by omega
        go_wp2_with fail
        go_ret
        exact ⟨rfl, Below.refl _ _⟩
    · have g0 : (4096 : Int) < (s0.length : Int) := by omega
      go_wp2_with fail
      go_ret
      exact ⟨rfl, Below.refl _ _⟩
end Go.Proofs.Qxb6001503a
