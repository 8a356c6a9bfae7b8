/- The first law. -/
import Derived.Test.Qxb6001503aT12
import Derived.Test.Qxb6001503aT14
import Derived.Laws.OwnMore
namespace Go.Proofs.Qxb6001503a
open Go.RowKit

/-- A row of n cells of the call's own, at block B, of which the j-th holds g j. -/
def Arr (w : World) (B n : Nat) (e : TypeId) (g : Nat → Value) : Prop :=
  ∃ xs, w.ownsRow B e 1 (.slice (some ⟨B, 0, none⟩) n n) n xs ∧ ∀ j, j < n → xs[j]? = some (g j)

theorem Arr.made {w : World} {B n : Nat} {e : TypeId} {z : Value} (h : w.ownsRow B e 1 (.slice (some ⟨B, 0, none⟩) n n) n (madeCells #[z] n).toList) : Arr w B n e (fun _ => z) :=
  ⟨_, h, fun j hj => by rw [toList_madeCells_one]; simp [hj]⟩

theorem Arr.read {w : World} {B n : Nat} {e : TypeId} {g : Nat → Value} (h : Arr w B n e g) {j : Nat} (hj : j < n) : w.cell? ⟨B, j, none⟩ = some (g j) := by
  obtain ⟨xs, h, hx⟩ := h
  rw [h.cellAt j (by omega)]; exact hx j hj

theorem Arr.froz {w : World} {B n : Nat} {e : TypeId} {g : Nat → Value} (h : Arr w B n e g) (j : Nat) : w.frozen? ⟨B, j, none⟩ = false := by
  obtain ⟨xs, h, _⟩ := h
  exact h.frozenAt j

theorem Arr.set {w : World} {B n : Nat} {e : TypeId} {g g' : Nat → Value} (h : Arr w B n e g) {j : Nat} (hj : j < n) {x : Value} (hg : ∀ t, t < n → g' t = if t = j then x else g t) : Arr (w.setCell ⟨B, j, none⟩ x) B n e g' := by
  obtain ⟨xs, h, hx⟩ := h
  have hl : xs.length = n := by simpa using h.1
  refine ⟨_, (h.stored j x).1, fun t ht => ?_⟩
  rw [hg t ht]
  by_cases c : t = j
  · subst c; rw [List.getElem?_set_self (by omega), if_pos rfl]
  · rw [List.getElem?_set_ne (fun e => c e.symm), if_neg c]; exact hx t ht

theorem Arr.same {w : World} {B n : Nat} {e : TypeId} {g g' : Nat → Value} (h : Arr w B n e g) (hg : ∀ t, t < n → g' t = g t) : Arr w B n e g' := by
  obtain ⟨xs, h, hx⟩ := h
  exact ⟨xs, h, fun t ht => by rw [hg t ht]; exact hx t ht⟩

theorem Arr.alloc {w : World} {B n : Nat} {e : TypeId} {g : Nat → Value} (h : Arr w B n e g) (o : Obj) : Arr (w.alloc o) B n e g := by
  obtain ⟨xs, h, hx⟩ := h
  exact ⟨xs, h.alloc o, hx⟩

theorem Arr.other {w : World} {B n : Nat} {e : TypeId} {g : Nat → Value} (h : Arr w B n e g) {b : Nat} (hb : b ≠ B) (j : Nat) (x : Value) : Arr (w.setCell ⟨b, j, none⟩ x) B n e g := by
  obtain ⟨xs, h, hx⟩ := h
  exact ⟨xs, ownsRow_setCell_other h (by simp only [Value.ownBlock]; intro e; exact hb (Option.some.inj e).symm) x, hx⟩

theorem Arr.grown {w w' : World} {B n : Nat} {e : TypeId} {g : Nat → Value} (h : Arr w B n e g) (hg : w.grownBy w' none) : Arr w' B n e g := by
  obtain ⟨xs, h, hx⟩ := h
  exact ⟨xs, kept_row h hg (fun b _ => by simp), hx⟩

theorem Arr.setCells {w : World} {B n : Nat} {e : TypeId} {g : Nat → Value} (h : Arr w B n e g) {b : Nat} (hb : b ≠ B) (o : Nat) (vs : List Value) : Arr (w.setCells b o vs) B n e g := by
  obtain ⟨xs, h, hx⟩ := h
  exact ⟨xs, ownsRow_setCells h (by simp only [Value.ownBlock]; intro e; exact hb (Option.some.inj e).symm) o vs, hx⟩

theorem Arr.lt {w : World} {B n : Nat} {e : TypeId} {g : Nat → Value} (h : Arr w B n e g) : B < w.heap.size := by
  obtain ⟨xs, h, _⟩ := h
  exact (row_lt h (b := B) rfl).2

/-- Has the p-th key been met among the first j? -/
def met (out : List Fr) (ks : List Int) (j p : Nat) : Bool := isDone (out.take j) (ks.getD p 0)

theorem isDone_snoc (out : List Fr) (f : Fr) (k : Int) : isDone (out ++ [f]) k = (isDone out k || f.i == k) := by simp [isDone]

theorem fr_snoc {out : List Fr} {j : Nat} (hj : j < out.length) : out.take (j + 1) = out.take j ++ [out[j]] := by
  rw [List.take_add_one]; simp [hj]

theorem met_succ {out : List Fr} {ks : List Int} (A : Asc ks) {j p : Nat} (hj : j < out.length) (hp : p < ks.length) (he : ks[p] = (out[j]).i) : ∀ t, t < ks.length → met out ks (j + 1) t = if t = p then true else met out ks j t := by
  intro t ht
  unfold met
  rw [fr_snoc hj, isDone_snoc]
  by_cases e : t = p
  · subst e
    rw [if_pos rfl, getD_get ht, he]; simp
  · rw [if_neg e]
    have : ((out[j]).i == ks.getD t 0) = false := by
      rw [beq_eq_false_iff_ne, getD_get ht, ← he]
      intro e'
      rcases Nat.lt_or_gt_of_ne e with h | h
      · have := A.lt h hp; omega
      · have := A.lt h ht; omega
    rw [this, Bool.or_false]

/-- Who comes up is new. -/
theorem met_new {K : List Int} {out : List Fr} {ks : List Int} (P : Pure K [] out) {j p : Nat} (hj : j < out.length) (hp : p < ks.length) (he : ks[p] = (out[j]).i) : met out ks j p = false := by
  unfold met
  rw [isDone_false, getD_get hp, he]
  intro h
  have hn := P.nodup
  have e : out.map (·.i) = (out.take j).map (·.i) ++ (out.drop j).map (·.i) := by rw [← List.map_append, List.take_append_drop]
  rw [e, List.nodup_append] at hn
  refine hn.2.2 _ h _ ?_ rfl
  exact List.mem_map.2 ⟨out[j], by rw [List.drop_eq_getElem_cons hj]; exact List.mem_cons_self, rfl⟩

theorem info4 : (Try.prog.info? 4).map (fun i => (i.zero, i.size, i.bytes)) = some (some (.bool false), 1, 1) := by kernel_rfl

set_option maxHeartbeats 4000000 in
set_option maxRecDepth 100000 in
theorem places_any (a0 : Option Addr) (c0 : Nat) (s0 : List Int) (a1 : Option Addr) (c1 : Nat) (s1 : List Int) (w : World) (h0 : NumRow w a0 s0) (h1 : NumRow w a1 s1) (l0 : s0.length ≤ maxLen) (l1 : s1.length ≤ maxLen) :
    Calls Try.prog 3 #[.slice a0 s0.length c0, .slice a1 s1.length c1] w fun e w' => e = .returned (.bool true) ∧ Below w.heap.size w w' := by
  obtain ⟨i0, hi, hz0, hz1, hz2⟩ := info_parts info3
  obtain ⟨j0, hj, hy0, hy1, hy2⟩ := info_parts info4
  go_enter Try.func3, Try.ntmps3
  go_wp2_with fail
  refine (guardA_any a0 c0 s0.length a1 c1 s1.length w).mono ?_
  rintro e w' ⟨⟨b, rfl⟩, rfl⟩
  cases b with
  | false =>
    go_wp2_with fail
    go_ret
    exact ⟨rfl, Below.refl _ _⟩
  | true =>
    by_cases m0 : s0.length ≤ 4096
    · have g0 : decide ((4096 : Int) < (s0.length : Int)) = false := decide_eq_false (by omega)
      by_cases m1 : s1.length ≤ 4096
      · have g1 : decide ((4096 : Int) < (s1.length : Int)) = false := decide_eq_false (by omega)
        go_wp2_with fail
        refine (copy_any a0 c0 s0 _ h0 m0).mono ?_
        rintro e w1 ⟨aA, cA, rfl, hA, BA⟩
        go_wp2_with fail
        refine (copy_any a1 c1 s1 _ (h1.below BA) m1).mono ?_
        rintro e w2 ⟨aB, cB, rfl, hB, BB⟩
        have hA2 := hA.below BB
        have B2 := below_then BA BB
        clear hA BA BB g0 g1
        go_wp2_with fail
        refine (build_any aA cA s0 aB cB s1 _ hA2 hB m0 m1).mono ?_
        rintro e w3 ⟨aE, cE, rfl, hE, BE⟩
        have hA3 := hA2.below BE
        have hB3 := hB.below BE
        have B3 := below_then B2 BE
        clear hA2 hB B2 BE
        go_wp2_with fail
        have hel := built_length s0 s1
        rw [← hel]
        refine (tree_any aE cE (built s0 s1) _ hE (by omega)).mono ?_
        rintro e w4 ⟨aT, cT, K, o1, out, rfl, hT, BT, T⟩
        rw [hel]
        have hA4 := hA3.below BT
        have hB4 := hB3.below BT
        have B4 := below_then B3 BT
        clear hE hA3 hB3 B3 BT hel
        go_wp2_with fail
        refine (keys_any aA cA s0 _ hA4 m0).mono ?_
        rintro e w5 ⟨aK, cK, ks, rfl, hK, KO, BK⟩
        have hA5 := hA4.below BK
        have hB5 := hB4.below BK
        have hT5 := hT.below BK
        have B5 := below_then B4 BK
        obtain rfl : ks = K := asc_unique KO.1 T.asc (fun x => by rw [KO.2.1, T.mem, built_i])
        have hTl := T.length
        clear hA4 hB4 hT B4 BK
        rw [hTl]
        have hkl : ks.length ≤ 4096 := T.len
        have HT := hide T
        have HKO := hide KO
        have HTL := hide hTl
        clear T KO hTl
        go_wp2_with (at_make; refine wpList_make_full _ rfl _ _ 22 rfl w5.heap.size 3 i0 (.int .i64 0) 1 Try.underlying22 hi hz0 hz1 _ _ _ _ ks.length rfl rfl rfl rfl (by rw [hz2]; omega) (by unfold maxLen; omega) (Nat.le_refl _) ?_)
        intro w6 hown6 hgrow6
        have A6 : Arr w6 w5.heap.size ks.length 3 (fun p => .int .i64 (lastP s0 s1 ks 0 p)) := (Arr.made (z := .int .i64 0) hown6).same (fun _ _ => rfl)
        have B6 : Below w5.heap.size w5 w6 := (Below.refl _ _).grown hgrow6 (Nat.le_refl _) (by intro k hk; cases hk)
        clear hown6 hgrow6
        go_wp2_with fail
        go_loopg [8] s0.length (fun gk i wr => ∃ k : Nat, k + gk = s0.length ∧ i = .int .i64 k ∧ Arr wr w5.heap.size ks.length 3 (fun p => .int .i64 (lastP s0 s1 ks k p)) ∧ Below w5.heap.size w5 wr)
        case atStart => exact ⟨0, by omega, rfl, A6, B6⟩
        case round =>
          clear A6 B6
          obtain ⟨k, hk, rfl, A, B⟩ := hrel
          rcases gk with _ | gk
          · have e : k = s0.length := by omega
            subst e
            have hsz := B.size
            go_wp2_with (at_make; refine wpList_make_full _ rfl _ _ 29 rfl wr.heap.size 4 j0 (.bool false) 1 Try.underlying29 hj hy0 hy1 _ _ _ _ ks.length rfl rfl rfl rfl (by rw [hy2]; omega) (by unfold maxLen; omega) (Nat.le_refl _) ?_)
            intro w7 hown7 hgrow7
            have A7 := A.grown hgrow7
            have S7 : Arr w7 wr.heap.size ks.length 4 (fun p => .bool (met out ks 0 p)) := (Arr.made (z := .bool false) hown7).same (fun _ _ => rfl)
            have B7 : Below w5.heap.size w5 w7 := B.grown hgrow7 hsz (by intro k hk; cases hk)
            have hLS : w5.heap.size < wr.heap.size := A.lt
            clear hown7 hgrow7 A B hsz
            generalize wr.heap.size = sb at S7 hLS ⊢
            go_wp2_with fail
            go_loopg [10] ks.length (fun gk i wq => ∃ j : Nat, j + gk = ks.length ∧ i = .int .i64 j ∧ Arr wq w5.heap.size ks.length 3 (fun p => .int .i64 (lastP s0 s1 ks s0.length p)) ∧ Arr wq sb ks.length 4 (fun p => .bool (met out ks j p)) ∧ Below w5.heap.size w5 wq)
            case atStart => exact ⟨0, by omega, rfl, A7, S7, B7⟩
            case round =>
              clear A7 S7 B7
              obtain ⟨j, hjg, rfl, A, S, B⟩ := hrel
              rcases gk with _ | gk
              · have e : j = ks.length := by omega
                subst e
                have hB := below_then B5 B
                go_wp2_with fail
                go_ret
                exact ⟨rfl, hB⟩
              · have hlt : j < ks.length := by omega
                have i1 : (j : Int) < (ks.length : Int) := by omega
                have hlo : j < out.length := by rw [HTL.out]; exact hlt
                obtain ⟨f, hf⟩ : ∃ f, f = out[j] := ⟨_, rfl⟩
                have hfK : f.i ∈ ks := HT.out.pure.outK f (by rw [hf]; exact List.getElem_mem _)
                obtain ⟨k, hk, hent⟩ := entOf_built (up := s1) ((HKO.out.2.1 f.i).1 hfK)
                obtain ⟨p, hp, hpx⟩ := place_of hfK
                obtain ⟨x, hx⟩ : ∃ x, x = f.i := ⟨_, rfl⟩
                obtain ⟨c, hc⟩ : ∃ c, c = s1.getD k 0 := ⟨_, rfl⟩
                obtain ⟨b0, o0, hb, hb0, hc0⟩ := hT5 (by intro e; have h := congrArg List.length e; simp at h; rw [h] at hlo; simp at hlo)
                subst hb
                have hget : (out.map (placedE (entOf (built s0 s1)))).getD j noEnt = ⟨x, f.p, f.d, k, c⟩ := by
                  simp only [List.getD, List.getElem?_map, List.getElem?_eq_getElem hlo, Option.map_some, Option.getD_some]
                  rw [← hf, placedE, hent, hx, hc]
                have hR : wr.rangeAt b0 (o0 + j * 16) (Ent.cells ⟨x, f.p, f.d, k, c⟩) := fun t v hv => (B.cell (p := ⟨b0, o0 + j * 16 + t, none⟩) hb0).trans (hc0 j (by simpa using hlo) t v (by rw [hget]; exact hv))
                have hmet : met out ks j p = false := met_new HT.out.pure hlo hp (by rw [hpx, hf])
                have hlast : lastP s0 s1 ks s0.length p = (k : Int) := by rw [lastP_end, getD_get hp, hpx, hent]
                have hcl := A.read hp
                rw [hlast] at hcl
                have hcs := S.read hp
                rw [hmet] at hcs
                have hfs := S.froz p
                have HPX := hide (hpx.trans hx.symm)
                have HMS := hide (met_succ HKO.out.1 hlo hp (by rw [hpx, hf]))
                have p0 : decide ((p : Int) < 0) = false := decide_eq_false (by omega)
                have p1 : (p : Int) < (ks.length : Int) := by omega
                have hKr := hK.below B
                have HC := hide hc
                have HLA := hide hlast
                have HME := hide hmet
                have hsz := B.size
                clear hget hc0 hpx hent hfK hmet hlast hf hc hx
                have hT := there_new wr #[.int .i64 0, .int .i64 0, .int .i64 0, .int .i64 0, .string ⟨#[]⟩, .string ⟨#[]⟩, .string ⟨#[]⟩, .string ⟨#[]⟩, .string ⟨#[]⟩, .string ⟨#[]⟩, .string ⟨#[]⟩, .string ⟨#[]⟩, .string ⟨#[]⟩, .string ⟨#[]⟩, .bool false, .int .i64 0] 31 16 rfl
                have A2 := (A.alloc (.cells #[.int .i64 0, .int .i64 0, .int .i64 0, .int .i64 0, .string ⟨#[]⟩, .string ⟨#[]⟩, .string ⟨#[]⟩, .string ⟨#[]⟩, .string ⟨#[]⟩, .string ⟨#[]⟩, .string ⟨#[]⟩, .string ⟨#[]⟩, .string ⟨#[]⟩, .string ⟨#[]⟩, .bool false, .int .i64 0] 31)).setCells (b := wr.heap.size) (by have := A.lt; omega) 0 (Ent.cells ⟨x, f.p, f.d, k, c⟩)
                have S2 := (S.alloc (.cells #[.int .i64 0, .int .i64 0, .int .i64 0, .int .i64 0, .string ⟨#[]⟩, .string ⟨#[]⟩, .string ⟨#[]⟩, .string ⟨#[]⟩, .string ⟨#[]⟩, .string ⟨#[]⟩, .string ⟨#[]⟩, .string ⟨#[]⟩, .string ⟨#[]⟩, .string ⟨#[]⟩, .bool false, .int .i64 0] 31)).setCells (b := wr.heap.size) (by have := S.lt; omega) 0 (Ent.cells ⟨x, f.p, f.d, k, c⟩)
                have B2 := below_setCells hsz (Ent.cells ⟨x, f.p, f.d, k, c⟩) 0 _ (B.alloc hsz (.cells #[.int .i64 0, .int .i64 0, .int .i64 0, .int .i64 0, .string ⟨#[]⟩, .string ⟨#[]⟩, .string ⟨#[]⟩, .string ⟨#[]⟩, .string ⟨#[]⟩, .string ⟨#[]⟩, .string ⟨#[]⟩, .string ⟨#[]⟩, .string ⟨#[]⟩, .string ⟨#[]⟩, .bool false, .int .i64 0] 31))
                have HR2 := hide (World.rangeAt_setCells_same _ wr.heap.size 0 (Ent.cells ⟨x, f.p, f.d, k, c⟩) hT)
                have n1 : w5.heap.size ≠ sb := by omega
                have n2 : wr.heap.size ≠ sb := by have := S.lt; omega
                clear hcl hcs hfs hKr A S
                by_cases hq : k < s1.length
                · have q1 : (k : Int) < (s1.length : Int) := by omega
                  have q0 : (0 : Int) ≤ (k : Int) := by omega
                  obtain ⟨b1, o1, hb1, hb1', hc1⟩ := hB5 (by intro e; subst e; simp at hq)
                  subst hb1
                  have n3 : b1 ≠ sb := by omega
                  have HC1 := hide (hc1 k hq)
                  clear hc1
                  have tokA : True := trivial
                  go_wp2_with (first
                    | (have _t := tokA; refine wpList_load_mid rfl 31 (.tmp 71) rfl b0 (o0 + j * 16) rfl (Ent.cells ⟨x, f.p, f.d, k, c⟩) _ hR Try.underlying31 rfl (by kernel_rfl) ?_; clear tokA; clear _t; have tokB : True := trivial)
                    | (have _t := tokB; refine wpList_store_mid rfl 31 (.tmp 11) (.tmp 72) rfl wr.heap.size 0 (Ent.cells ⟨x, f.p, f.d, k, c⟩).toArray rfl rfl hT (by kernel_rfl) (Ent.oneCell _) ?_; clear tokB; clear _t; rw [List.toList_toArray]; generalize World.setCells (wr.alloc (.cells #[.int .i64 0, .int .i64 0, .int .i64 0, .int .i64 0, .string ⟨#[]⟩, .string ⟨#[]⟩, .string ⟨#[]⟩, .string ⟨#[]⟩, .string ⟨#[]⟩, .string ⟨#[]⟩, .string ⟨#[]⟩, .string ⟨#[]⟩, .string ⟨#[]⟩, .string ⟨#[]⟩, .bool false, .int .i64 0] 31)) wr.heap.size 0 (Ent.cells ⟨x, f.p, f.d, k, c⟩) = w8 at A2 S2 B2 HR2 ⊢; have R2 := HR2.out
                       have cF0 : w8.cell? ⟨wr.heap.size, 0, none⟩ = some (.int .i64 x) := R2 0 _ rfl
                       have cF3 : w8.cell? ⟨wr.heap.size, 3, none⟩ = some (.int .i64 k) := R2 3 _ rfl
                       have cF15 : w8.cell? ⟨wr.heap.size, 15, none⟩ = some (.int .i64 c) := R2 15 _ rfl
                       have hcl : w8.cell? ⟨w5.heap.size, p, none⟩ = some (.int .i64 k) := by rw [A2.read hp, HLA.out]
                       have hcs : w8.cell? ⟨sb, p, none⟩ = some (.bool false) := by rw [S2.read hp, HME.out]
                       have hfs := S2.froz p
                       have hKr := hK.below B2
                       have hcu : w8.cell? ⟨b1, o1 + k, none⟩ = some (.int .i64 c) := by rw [B2.cell (p := ⟨b1, o1 + k, none⟩) hb1', HC1.out, HC.out]
                       clear hT R2 hR)
                    | (go_at_call 11; refine (find_hit _ _ ks x _ hKr hkl HKO.out.1 p hp HPX.out).mono ?_; rintro e w9 ⟨rfl, rfl⟩))
                  go_roundg gk
                  case measure => omega
                  case rel => exact ⟨j + 1, by omega, by go_num, A2.other (Ne.symm n1) _ _, S2.set hp (fun t ht => by rw [HMS.out t ht]; split <;> rfl), B2.setCell (by show w5.heap.size ≤ sb; omega) _⟩
                · have q1 : decide ((k : Int) < (s1.length : Int)) = false := decide_eq_false (by omega)
                  obtain rfl : c = 0 := by
                    have h := HC.out
                    rw [h]
                    simp [List.getD, show s1.length ≤ k by omega]
                  have tokA : True := trivial
                  go_wp2_with (first
                    | (have _t := tokA; refine wpList_load_mid rfl 31 (.tmp 71) rfl b0 (o0 + j * 16) rfl (Ent.cells ⟨x, f.p, f.d, k, 0⟩) _ hR Try.underlying31 rfl (by kernel_rfl) ?_; clear tokA; clear _t; have tokB : True := trivial)
                    | (have _t := tokB; refine wpList_store_mid rfl 31 (.tmp 11) (.tmp 72) rfl wr.heap.size 0 (Ent.cells ⟨x, f.p, f.d, k, 0⟩).toArray rfl rfl hT (by kernel_rfl) (Ent.oneCell _) ?_; clear tokB; clear _t; rw [List.toList_toArray]; generalize World.setCells (wr.alloc (.cells #[.int .i64 0, .int .i64 0, .int .i64 0, .int .i64 0, .string ⟨#[]⟩, .string ⟨#[]⟩, .string ⟨#[]⟩, .string ⟨#[]⟩, .string ⟨#[]⟩, .string ⟨#[]⟩, .string ⟨#[]⟩, .string ⟨#[]⟩, .string ⟨#[]⟩, .string ⟨#[]⟩, .bool false, .int .i64 0] 31)) wr.heap.size 0 (Ent.cells ⟨x, f.p, f.d, k, 0⟩) = w8 at A2 S2 B2 HR2 ⊢; have R2 := HR2.out
                       have cF0 : w8.cell? ⟨wr.heap.size, 0, none⟩ = some (.int .i64 x) := R2 0 _ rfl
                       have cF3 : w8.cell? ⟨wr.heap.size, 3, none⟩ = some (.int .i64 k) := R2 3 _ rfl
                       have cF15 : w8.cell? ⟨wr.heap.size, 15, none⟩ = some (.int .i64 0) := R2 15 _ rfl
                       have hcl : w8.cell? ⟨w5.heap.size, p, none⟩ = some (.int .i64 k) := by rw [A2.read hp, HLA.out]
                       have hcs : w8.cell? ⟨sb, p, none⟩ = some (.bool false) := by rw [S2.read hp, HME.out]
                       have hfs := S2.froz p
                       have hKr := hK.below B2
                       clear hT R2 hR)
                    | (go_at_call 11; refine (find_hit _ _ ks x _ hKr hkl HKO.out.1 p hp HPX.out).mono ?_; rintro e w9 ⟨rfl, rfl⟩))
                  go_roundg gk
                  case measure => omega
                  case rel => exact ⟨j + 1, by omega, by go_num, A2.other (Ne.symm n1) _ _, S2.set hp (fun t ht => by rw [HMS.out t ht]; split <;> rfl), B2.setCell (by show w5.heap.size ≤ sb; omega) _⟩
          · have hlt : k < s0.length := by omega
            have i1 : (k : Int) < (s0.length : Int) := by omega
            obtain ⟨x, hx⟩ : ∃ x, x = s0.getD k 0 := ⟨_, rfl⟩
            obtain ⟨b0, o0, rfl, hb0, hc0⟩ := hA5 (by intro e; subst e; simp at hlt)
            have hcx : wr.cell? ⟨b0, o0 + k, none⟩ = some (.int .i64 x) := by rw [B.cell (p := ⟨b0, o0 + k, none⟩) hb0, hc0 k hlt, hx]
            obtain ⟨p, hp, hpx⟩ := place_of ((HKO.out.2.1 x).2 (by rw [hx, getD_get hlt]; exact List.getElem_mem _))
            have j1 : (p : Int) < (ks.length : Int) := by omega
            have HX := hide hx
            have HP := hide hpx
            have HC := hide hc0
            have hcl := A.read hp
            have hfl := A.froz p
            have hKr := hK.below B
            clear hx hpx hc0
            go_wp2_with (go_at_call 11; refine (find_hit _ _ ks x _ hKr hkl HKO.out.1 p hp HP.out).mono ?_; rintro e w9 ⟨rfl, rfl⟩)
            go_roundg gk
            case measure => omega
            case rel => exact ⟨k + 1, by omega, by go_num, A.set hp (fun t ht => by rw [lastP_succ HKO.out.1 hlt hp (HP.out.trans HX.out) t ht]; unfold upd; split <;> rfl), B.setCell (Nat.le_refl _) _⟩
      · have g1 : (4096 : Int) < (s1.length : Int) := by omega
        go_wp2_with fail
        go_ret
        exact ⟨rfl, Below.refl _ _⟩
    · have g0 : (4096 : Int) < (s0.length : Int) := by omega
      go_wp2_with fail
      go_ret
      exact ⟨rfl, Below.refl _ _⟩
end Go.Proofs.Qxb6001503a
