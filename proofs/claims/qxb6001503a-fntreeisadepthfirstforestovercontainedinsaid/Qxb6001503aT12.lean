/- The walk of Tree. -/
import Derived.Test.Qxb6001503aT9
import Derived.Test.Qxb6001503aT13
namespace Go.Proofs.Qxb6001503a
open Go.RowKit
open Go.ChangeMaps (setBlock)

theorem ent_some {L : List (Int × Value)} {k : Int} {m : Ent} (h : look L k = some m.val) : (if false then .tuple #[(look L k).getD noEnt.val, .bool (look L k).isSome] else (look L k).getD noEnt.val) = Value.agg m.cells.toArray := by
  rw [h]; rfl

theorem ent_ok {L : List (Int × Value)} {k : Int} {m : Ent} (h : look L k = some m.val) : (if true then .tuple #[(look L k).getD noEnt.val, .bool (look L k).isSome] else (look L k).getD noEnt.val) = Value.tuple #[.agg m.cells.toArray, .bool true] := by
  rw [h]; rfl

theorem ent_miss {L : List (Int × Value)} {k : Int} (h : look L k = none) : (if true then .tuple #[(look L k).getD noEnt.val, .bool (look L k).isSome] else (look L k).getD noEnt.val) = Value.tuple #[.agg noEnt.cells.toArray, .bool false] := by
  rw [h]; rfl

theorem field15 (m : Ent) (W : World) : (Instr.field 31 (.agg m.cells.toArray) 15).run Try.prog W = .ok (.int .i64 m.c) W := by kernel_rfl

theorem there_new (w : World) (cs : Array Value) (t : TypeId) (n : Nat) (hn : cs.size = n) : (w.alloc (.cells cs t)).there w.heap.size 0 n := by
  intro j hj
  have hb := heap_alloc_new w (.cells cs t)
  refine ⟨?_, by unfold World.frozen?; simp only [hb]; simp⟩
  rw [cell_of_row _ _ _ _ _ _ hb, Array.getElem?_eq_getElem (by omega)]
  rfl

theorem heap_setCells {b : Nat} : ∀ (vs : List Value) (o : Nat) (w : World) (k : Nat), k ≠ b → (w.setCells b o vs).heap[k]? = w.heap[k]?
  | [], _, _, _, _ => rfl
  | v :: r, o, w, k, h => by
    rw [World.setCells, heap_setCells r (o + 1) _ k h, Below.heap_setCell _ _ _ _ h]

theorem size_setCells {b : Nat} : ∀ (vs : List Value) (o : Nat) (w : World), (w.setCells b o vs).heap.size = w.heap.size
  | [], _, _ => rfl
  | v :: r, o, w => by
    rw [World.setCells, size_setCells r (o + 1)]
    simp [World.setCell]

theorem W1.setCells {w wr : World} {L : List (Int × Value)} (h : W1 w wr L) {b : Nat} (hb : w.heap.size + 2 ≤ b) (o : Nat) (vs : List Value) : W1 w (wr.setCells b o vs) L :=
  ⟨below_setCells (by omega) vs o wr h.B, by rw [size_setCells]; exact h.gt, by rw [heap_setCells _ _ _ _ (by omega)]; exact h.hM, by rw [heap_setCells _ _ _ _ (by omega)]; exact h.mM⟩

theorem ownsRow_setCells {w : World} {base : Nat} {e : TypeId} {size : Nat} {v : Value} {n : Nat} {xs : List Value} (h : w.ownsRow base e size v n xs) {b : Nat} (hb : v.ownBlock ≠ some b) (o : Nat) (vs : List Value) : (w.setCells b o vs).ownsRow base e size v n xs := by
  refine ⟨h.1, ?_⟩
  rcases h.2 with h2 | ⟨g, cap, cur, hv, hg, hh, r'⟩
  · exact .inl h2
  · exact .inr ⟨g, cap, cur, hv, hg, by rw [heap_setCells _ _ _ _ (fun e => hb (by rw [hv, ← e]; rfl))]; exact hh, r'⟩

theorem W4.setCells {w wr : World} {L : List (Int × Value)} {cC bC base gK capK : Nat} {K : List Int} {Lc : List (Int × Value)} {vR : Value} {kids : Int → List Int} {roots : List Int} (h : W4 w wr L cC bC base gK capK K Lc vR kids roots) (ob : Obj) (o : Nat) (vs : List Value) :
    W4 w ((wr.alloc ob).setCells wr.heap.size o vs) L cC bC base gK capK K Lc vR kids roots := by
  have h1 := h.ltC; have h2 := h.ltB; have h3 := h.leB; have h4 := h.X.gt
  have ha := h.alloc ob
  have hfar : ∀ {base : Nat} {e : TypeId} {size : Nat} {v : Value} {n : Nat} {xs : List Value}, wr.ownsRow base e size v n xs → v.ownBlock ≠ some wr.heap.size := fun hr e => by have := (row_lt hr e).2; omega
  exact { h with X := ha.X.setCells h4 _ _, rowK := ownsRow_setCells ha.rowK (hfar h.rowK) _ _, leB := by rw [size_setCells]; exact ha.leB, hC := by rw [heap_setCells _ _ _ _ (by omega)]; exact ha.hC, mC := by rw [heap_setCells _ _ _ _ (by omega)]; exact ha.mC, kid := fun k => ownsRow_setCells (ha.kid k) (hfar (h.kid k)) _ _, row := ownsRow_setCells ha.row (hfar h.row) _ _ }

theorem look_in {es : List Ent} {k : Int} (h : k ∈ es.map (·.i)) : look (fillM es) k = some (entOf es k).val := by
  obtain ⟨e, he, _, _⟩ := lastE_some h
  rw [look_fillM, entOf, he]; rfl

theorem look_out {es : List Ent} {k : Int} (h : ¬ k ∈ es.map (·.i)) : look (fillM es) k = none := by
  rw [look_fillM, lastE_none h]; rfl

theorem take_snocK {K : List Int} {j : Nat} (hj : j < K.length) {x : Int} (hx : x = K.getD j 0) : K.take (j + 1) = K.take j ++ [x] := by
  rw [List.take_add_one, hx]
  simp [List.getD, hj]

theorem row_cell {w : World} {base g cap : Nat} {K : List Int} (h : w.ownsRow base 3 1 (.slice (some ⟨g, 0, none⟩) K.length cap) K.length (vals K)) {j : Nat} (hj : j < K.length) : w.cell? ⟨g, j, none⟩ = some (.int .i64 (K.getD j 0)) := by
  rw [h.cellAt _ (by omega)]
  simp [vals, List.getD, hj]

set_option maxHeartbeats 4000000 in
set_option maxRecDepth 100000 in
theorem tree_any (a0 : Option Addr) (c0 : Nat) (es : List Ent) (w : World) (h0 : EntRow w a0 es) (m0 : es.length ≤ 4096) :
    Calls Try.prog 8 #[.slice a0 es.length c0] w fun e w' => ∃ a' cap' K o1 out, e = .returned (.slice a' out.length cap') ∧ EntRow w' a' (out.map (placedE (entOf es))) ∧ Below w.heap.size w w' ∧ TreeOut es K o1 out := by
  have hm32 := made_hint Try.underlying32
  have hm36 := made_hint Try.underlying36
  have hm34 := made_plain 34
  go_enter Try.func8, Try.ntmps8
  go_wp2_with fail
  have X0 : W1 w ((w.alloc (mapObj [])).alloc (.cells #[.map (some w.heap.size)] 32)) (fillM (es.take 0)) := by
    refine ⟨((Below.refl _ _).alloc (Nat.le_refl _) _).alloc (by simp) _, by simp, ?_, ?_⟩
    · have := heap_alloc_new (w.alloc (mapObj [])) (.cells #[.map (some w.heap.size)] 32)
      simpa using this
    · rw [Below.heap_alloc _ _ _ (by simp)]; exact heap_alloc_new w _
  go_loopg [28] es.length (fun gk i wr => ∃ k : Nat, k + gk = es.length ∧ i = .int .i64 k ∧ W1 w wr (fillM (es.take k)))
  case atStart => exact ⟨0, by omega, rfl, X0⟩
  case round =>
    clear X0
    obtain ⟨k, hk, rfl, X⟩ := hrel
    have hgt := X.gt
    have cM := cell_of_one X.hM
    have lM : w.heap.size + 1 < wr.heap.size := by omega
    rcases gk with _ | gk
    · have e : k = es.length := by omega
      subst e
      rw [List.take_length] at X
      have hLl := fillM_length es
      obtain ⟨j0, hj, hy0, hy1, hy2⟩ := info_parts info3
      have lr : (fillM es).length ≤ 4096 := by omega
      obtain ⟨nL, hnL⟩ : ∃ n, (fillM es).length = n := ⟨_, rfl⟩
      have HN := hide hnL
      rw [hnL] at lr
      clear hnL hLl
      go_wp2_with (first
        | (at_len; refine wpList_len_im _ rfl _ 32 rfl 3 31 Try.underlying32 w.heap.size (fillM es) rfl X.mM nL HN.out ?_)
        | (at_make; refine wpList_make_own _ rfl _ _ 22 rfl (w.heap.size + 2) 3 j0 (.int .i64 0) 1 Try.underlying22 hj hy0 hy1 _ _ _ nL rfl rfl rfl (by rw [hy2]; omega) (by unfold maxLen; omega) hgt ?_))
      intro w5 hown5 hgrow5
      have X5 := X.grown hgrow5 (by intro k hk; cases hk)
      have cM5 := cell_of_one X5.hM
      have lM5 : w.heap.size + 1 < w5.heap.size := by have := X5.gt; omega
      clear X cM lM hgt hgrow5
      go_wp2_with (at_range; refine wpList_range_im _ rfl _ 32 rfl 3 31 Try.underlying32 w.heap.size (fillM es) rfl X5.mM ?_; intro w6 hw6; have Y : W2 w w6 (fillM es) w5.heap.size [] (.slice (some ⟨wr.heap.size, 0, none⟩) 0 nL) := by rw [hw6]; exact ⟨X5.alloc _, heap_alloc_new w5 _, X5.gt, hown5.alloc _, ⟨_, _, rfl⟩, by simp, by simp⟩
                   clear hw6 X5 cM5 lM5 hown5)
      generalize w5.heap.size = r at Y ⊢
      go_frame
      go_loopg [6] nL (fun gk v wq => ∃ seen, seen.length + gk = nL ∧ W2 w wq (fillM es) r seen v)
      case atStart => exact ⟨[], by simp, Y⟩
      case round =>
        clear Y
        obtain ⟨seen, hsl, Y⟩ := hrel
        go_wp2_with (at_next; refine wpList_next_im _ rfl _ rfl w.heap.size r (fillM es) seen rfl Y.it Y.X.mM ?_ ?_)
        · intro hall
          obtain ⟨hKn, hKm⟩ := Y.keys hall (fillM_keys es).1
          obtain ⟨gK, capK, rfl⟩ := Y.nn
          obtain ⟨ks, hks⟩ : ∃ ks, ks = seen.map (keyAt (fillM es)) := ⟨_, rfl⟩
          have hkl : seen.length = ks.length := by rw [hks]; simp
          have hrow := Y.row
          have X := Y.X
          rw [← hks] at hKn hKm hrow
          rw [hkl] at hrow ⊢
          have hkl4 : ks.length ≤ 4096 := by omega
          clear hks Y hall hsl hkl
          go_wp2_with (go_at_call 14; refine (sort_own _ _ _ ks _ hrow hkl4).mono ?_; rintro e w2 ⟨rfl, hrow2, hgrow2⟩)
          obtain ⟨K, hKd⟩ : ∃ K, K = sorted ks := ⟨_, rfl⟩
          have hAsc : Asc K := by rw [hKd]; exact sorted_asc hKn
          have hmem : ∀ x, x ∈ K ↔ x ∈ es.map (·.i) := fun x => by rw [hKd, sorted_mem, hKm, (fillM_keys es).2]
          have hlen : ks.length = K.length := by rw [hKd, sorted_length]
          rw [← hKd] at hrow2
          rw [hlen] at hrow2 hkl4 ⊢
          have Z0 : W4 w ((w2.alloc (mapObj [])).alloc (.cells #[.map (some w2.heap.size)] 34)) (fillM es) (w2.heap.size + 1) w2.heap.size (w2.heap.size + 2) gK capK K [] (.slice none 0 0) (kidsOf es (K.take 0)) (rootsOf es (K.take 0)) := W4.start (X.grown hgrow2 (fun k hk => by have := row_lt hrow (b := gK) rfl; simp at hk; omega)) hrow2 es
          clear hKd hlen hKn hKm hrow hgrow2 X hrow2
          generalize ((w2.alloc (mapObj [])).alloc (.cells #[.map (some w2.heap.size)] 34)) = w3 at Z0 ⊢
          generalize w2.heap.size = bC at Z0 ⊢
          go_loopg [9, 55] K.length (fun gk vR i wq => ∃ j Lc, j + gk = K.length ∧ i = .int .i64 (j : Nat) ∧ W4 w wq (fillM es) (bC + 1) bC (bC + 2) gK capK K Lc vR (kidsOf es (K.take j)) (rootsOf es (K.take j)))
          case atStart => exact ⟨0, [], by simp, rfl, Z0⟩
          case round =>
            clear Z0
            obtain ⟨j, Lc, hjg, rfl, Z⟩ := hrel
            rcases gk with _ | gk
            · have e : j = K.length := by omega
              subst e
              rw [List.take_length] at Z
              obtain ⟨q0, hq, hq0, hq1, hq2⟩ := info_parts info31
              go_wp2_with (at_make; refine wpList_make_own _ rfl _ _ 25 rfl 0 31 q0 (.agg #[.int .i64 0, .int .i64 0, .int .i64 0, .int .i64 0, .string ⟨#[]⟩, .string ⟨#[]⟩, .string ⟨#[]⟩, .string ⟨#[]⟩, .string ⟨#[]⟩, .string ⟨#[]⟩, .string ⟨#[]⟩, .string ⟨#[]⟩, .string ⟨#[]⟩, .string ⟨#[]⟩, .bool false, .int .i64 0]) 16 Try.underlying25 hq hq0 hq1 _ _ _ K.length rfl rfl rfl (by rw [hq2]; omega) (by unfold maxLen; omega) (Nat.zero_le _) ?_)
              intro w5 hown5 hgrow5
              obtain ⟨S, I, B0, hlat⟩ := Z.search hgrow5 hown5 hkl4 hmem
              obtain ⟨aR, cR, hu9, hRr0⟩ := slice_row Z.row
              obtain ⟨aK, cK, hgK, hKr0⟩ := slice_row Z.rowK
              cases hgK
              subst hu9
              have hRr := hRr0.later hlat
              have hKr := hKr0.later hlat
              have hw : w.heap.size + 2 ≤ wr.heap.size := Z.X.gt
              have hw5 := hgrow5.size
              obtain ⟨R, hR⟩ : ∃ R, R = rootsOf es K := ⟨_, rfl⟩
              rw [← hR] at hRr ⊢
              have hRK : ∀ x, x ∈ R → x ∈ K := fun x hx => by rw [hR] at hx; exact (List.mem_filter.1 hx).1
              have hRl : R.length ≤ 4096 := by
                have h1 : (rootsOf es K).length ≤ K.length := List.length_filter_le _ _
                rw [← hR] at h1
                omega
              have HR := hide hR
              have BO := hide (show w.heap.size ≤ wr.heap.size by omega)
              have B5 := hide (show w.heap.size ≤ w5.heap.size by omega)
              have HB := hide B0
              have PP : Hid (Pure K [] []) := ⟨by simp, by simp, by simp, by simp, by simp⟩
              clear Z hgrow5 hown5 hlat hRr0 hKr0 hR hq hq0 hq1 hq2 B0 hw hw5
              go_wp2_with fail
              rw [show ((((w5.alloc (.cells #[.slice (some ⟨wr.heap.size, 0, none⟩) 0 K.length] 25)).alloc (mapObj [])).alloc (.cells #[.map (some (w5.heap.size + 1))] 36)).alloc (.cells #[.slice none 0 0] 37)) = worldOf w5 wr.heap.size K.length from rfl]
              obtain ⟨E, hE⟩ : ∃ E, E = envOf es w w5 bC wr.heap.size K Lc := ⟨_, rfl⟩
              rw [← hE] at S I
              generalize worldOf w5 wr.heap.size K.length = w0 at S I hRr hKr HB ⊢
              have e1 : w5.heap.size + 1 + 1 + 1 = E.cS := by rw [hE]; rfl
              have e2 : w5.heap.size + 1 + 1 = E.cP := by rw [hE]; rfl
              have e3 : w5.heap.size = E.cO := by rw [hE]; rfl
              have e4 : w.heap.size + 1 = E.cM := by rw [hE]; rfl
              have e5 : bC + 1 = E.cC := by rw [hE]; rfl
              have HEM : Hid (E.M = entOf es) := by rw [hE]; rfl
              have HEK : Hid (E.kids = kidsOf es K) := by rw [hE]; rfl
              have HK : Hid (E.K = K) := by rw [hE]; rfl
              have H1 : Hid (w.heap.size ≤ E.cS) := by rw [hE]; exact Nat.le_trans B5.out (by show w5.heap.size ≤ w5.heap.size + 1 + 1 + 1; omega)
              have H2 : Hid (w.heap.size ≤ E.cO) := by rw [hE]; exact B5.out
              have H3 : Hid (w.heap.size ≤ E.bP) := by rw [hE]; exact Nat.le_trans B5.out (by show w5.heap.size ≤ w5.heap.size + 1; omega)
              have H4 : Hid (w.heap.size ≤ E.bO) := by rw [hE]; exact BO.out
              rw [e1, e2, e3, e4, e5]
              clear e1 e2 e3 e4 e5 hE BO B5
              go_loopg [96] R.length (fun gk i wq => ∃ j o v, j + gk = R.length ∧ i = .int .i64 (j : Nat) ∧ Inv E w0 wq [] o o v ∧ Hid (Pure E.K [] o) ∧ Hid (Runs (kidsOf es K) (R.take j) [] o))
              case atStart => exact ⟨0, [], _, by simp, rfl, I, by rw [HK.out]; exact PP, Runs.nil _⟩
              case round =>
                clear I PP
                obtain ⟨j, o, v, hjg, rfl, I, PP, RR⟩ := hrel
                rcases gk with _ | gk
                · have e : j = R.length := by omega
                  subst e
                  rw [List.take_length] at RR
                  go_wp2_with fail
                  go_loopg [106] K.length (fun gk i wq => ∃ j o2 v, j + gk = K.length ∧ i = .int .i64 (j : Nat) ∧ Inv E w0 wq [] o2 o2 v ∧ Hid (Pure E.K [] o2) ∧ Hid (Rest (kidsOf es K) (K.take j) o o2))
                  case atStart => exact ⟨0, o, _, by simp, rfl, I, PP, Rest.nil _⟩
                  case round =>
                    clear I PP
                    obtain ⟨j, o2, v, hjg, rfl, I, PP, QQ⟩ := hrel
                    rcases gk with _ | gk
                    · have e : j = K.length := by omega
                      subst e
                      rw [List.take_length] at QQ
                      have cO := cell_of_one I.hO
                      have hA := I.answer
                      rw [HEM.out] at hA
                      have hB := I.below HB.out H1.out H2.out H3.out H4.out
                      go_wp2_with fail
                      go_ret
                      exact ⟨_, _, K, o, o2, rfl, hA, hB, hAsc, hmem, hkl4, by rw [← HR.out]; exact RR.out, QQ.out, by have := PP.out; rw [HK.out] at this; exact this⟩
                    · have hlt : j < K.length := by omega
                      have i1 : (j : Int) < (K.length : Int) := by omega
                      obtain ⟨x, hx⟩ : ∃ x, x = K.getD j 0 := ⟨_, rfl⟩
                      obtain ⟨g, hg, hcx⟩ := I.kid S hKr hlt
                      cases hg
                      rw [← hx] at hcx
                      have hxK : Hid (x ∈ E.K) := by rw [HK.out, hx]; simp [Hid, List.getD, hlt]
                      have HX := hide hx
                      clear hx
                      have cP := cell_of_one (I.pCell S)
                      cases hd : isDone o2 x with
                      | true =>
                        go_wp2_with (at_lookup; refine wpList_lookup_im _ rfl _ _ 36 false rfl 3 4 Try.underlying36 Try.underlying3 (.bool false) zero4 E.bP (placedL o2) rfl I.hP x rfl (.bool true) (placed_val hd) ?_)
                        go_roundg gk
                        case measure => omega
                        case rel => exact ⟨j + 1, o2, _, by omega, by go_num, I, PP, by rw [take_snocK hlt HX.out]; exact Rest.skip QQ.out hd⟩
                      | false =>
                        go_wp2_with (first
                          | (at_lookup; refine wpList_lookup_im _ rfl _ _ 36 false rfl 3 4 Try.underlying36 Try.underlying3 (.bool false) zero4 E.bP (placedL o2) rfl I.hP x rfl (.bool false) (placed_val hd) ?_)
                          | (go_at_call 15; refine (walk_any E w0 _ x o2 v S I PP.out hxK.out).mono ?_; rintro e w9 ⟨rfl, o3, v3, I3, P3, R3⟩; have I9 := I3; have P9 := hide P3; have R9 := hide R3; clear I3 P3 R3 I hcx cP))
                        go_roundg gk
                        case measure => omega
                        case rel => exact ⟨j + 1, o3, _, by omega, by go_num, I9, P9, by rw [take_snocK hlt HX.out]; exact Rest.walk QQ.out hd (by have := R9.out; rw [HEK.out] at this; exact this)⟩
                · have hlt : j < R.length := by omega
                  have i1 : (j : Int) < (R.length : Int) := by omega
                  obtain ⟨x, hx⟩ : ∃ x, x = R.getD j 0 := ⟨_, rfl⟩
                  obtain ⟨g, hg, hcx⟩ := I.kid S hRr hlt
                  subst hg
                  rw [← hx] at hcx
                  have hxK : Hid (x ∈ E.K) := by rw [HK.out]; exact hRK x (by rw [hx]; simp [List.getD, hlt])
                  have HX := hide hx
                  clear hx
                  go_wp2_with (go_at_call 15; refine (walk_any E w0 _ x o v S I PP.out hxK.out).mono ?_; rintro e w9 ⟨rfl, o3, v3, I3, P3, R3⟩; have I9 := I3; have P9 := hide P3; have R9 := hide R3; clear I3 P3 R3 I hcx)
                  go_roundg gk
                  case measure => omega
                  case rel => exact ⟨j + 1, o3, _, by omega, by go_num, I9, P9, by rw [take_snocK hlt HX.out]; exact Runs.snoc RR.out (by have := R9.out; rw [HEK.out] at this; exact this)⟩
            · have hlt : j < K.length := by omega
              have i1 : (j : Int) < (K.length : Int) := by omega
              obtain ⟨x, hx⟩ : ∃ x, x = K.getD j 0 := ⟨_, rfl⟩
              have hcx := row_cell Z.rowK hlt
              rw [← hx] at hcx
              have hxK : x ∈ es.map (·.i) := (hmem x).1 (by rw [hx]; simp [List.getD, hlt])
              have HX := hide hx
              clear hx
              have cM := cell_of_one Z.X.hM
              have lM : w.heap.size + 1 < wr.heap.size := by have := Z.X.gt; omega
              have hf15 := field15
              have hMl := look_in hxK
              obtain ⟨m, hm⟩ : ∃ m, m = entOf es x := ⟨_, rfl⟩
              rw [← hm] at hMl
              have HM := hide hm
              clear hm
              have cC := cell_of_one Z.hC
              have lC := lt_of_block Z.hC
              by_cases hin : m.c ∈ es.map (·.i)
              · have hMl2 := look_in hin
                obtain ⟨m2, hm2⟩ : ∃ m2, m2 = entOf es m.c := ⟨_, rfl⟩
                rw [← hm2] at hMl2
                clear hm2
                by_cases hc0 : m.c = 0
                · have hne : (m.c != 0) = false := by simp [hc0]
                  have hhang : hangs es x = false := by unfold hangs; rw [← HM.out, hne, Bool.and_false]
                  have hkk : kidsOf es (K.take (j + 1)) = kidsOf es (K.take j) := by funext y; rw [take_snocK hlt HX.out, kidsOf_snoc, hhang]; simp
                  have hrr : rootsOf es (K.take (j + 1)) = rootsOf es (K.take j) ++ [x] := by rw [take_snocK hlt HX.out, rootsOf_snoc, hhang]; simp
                  have HKK := hide hkk
                  have HRR := hide hrr
                  have hkn : (rootsOf es (K.take j)).length ≤ 4096 := by
                    have h1 : (rootsOf es (K.take j)).length ≤ (K.take j).length := List.length_filter_le _ _
                    rw [List.length_take] at h1
                    omega
                  clear hkk hrr hhang hc0
                  obtain ⟨n0, hn0⟩ : ∃ n0, n0 = (rootsOf es (K.take j)).length := ⟨_, rfl⟩
                  rw [← hn0] at hkn
                  have HN0 := hide hn0
                  clear hn0
                  have hT := there_new wr #[.int .i64 0, .int .i64 0, .int .i64 0, .int .i64 0, .string ⟨#[]⟩, .string ⟨#[]⟩, .string ⟨#[]⟩, .string ⟨#[]⟩, .string ⟨#[]⟩, .string ⟨#[]⟩, .string ⟨#[]⟩, .string ⟨#[]⟩, .string ⟨#[]⟩, .string ⟨#[]⟩, .bool false, .int .i64 0] 31 16 rfl
                  have Z7 := Z.setCells (.cells #[.int .i64 0, .int .i64 0, .int .i64 0, .int .i64 0, .string ⟨#[]⟩, .string ⟨#[]⟩, .string ⟨#[]⟩, .string ⟨#[]⟩, .string ⟨#[]⟩, .string ⟨#[]⟩, .string ⟨#[]⟩, .string ⟨#[]⟩, .string ⟨#[]⟩, .string ⟨#[]⟩, .bool false, .int .i64 0] 31) 0 m2.cells
                  have tok1 : True := trivial
                  go_wp2_with (first
                    | (at_lookup; have _t := tok1; refine wpList_lookup_im _ rfl _ _ 32 false rfl 3 31 Try.underlying32 Try.underlying3 noEnt.val zero31 w.heap.size (fillM es) rfl Z.X.mM x rfl _ (ent_some hMl) ?_; clear tok1; clear _t; have tok2 : True := trivial)
                    | (at_lookup; have _t := tok2; refine wpList_lookup_im _ rfl _ _ 32 true rfl 3 31 Try.underlying32 Try.underlying3 noEnt.val zero31 w.heap.size (fillM es) rfl Z.X.mM m.c rfl _ (ent_ok hMl2) ?_; clear tok2; clear _t; have tok3 : True := trivial)
                    | (have _t := tok3; refine wpList_store_mid rfl 31 (.tmp 13) (.tmp 67) rfl wr.heap.size 0 m2.cells.toArray rfl rfl hT (by kernel_rfl) (Ent.oneCell _) ?_; clear tok3; clear _t; rw [List.toList_toArray]; generalize World.setCells (wr.alloc (.cells #[.int .i64 0, .int .i64 0, .int .i64 0, .int .i64 0, .string ⟨#[]⟩, .string ⟨#[]⟩, .string ⟨#[]⟩, .string ⟨#[]⟩, .string ⟨#[]⟩, .string ⟨#[]⟩, .string ⟨#[]⟩, .string ⟨#[]⟩, .string ⟨#[]⟩, .string ⟨#[]⟩, .bool false, .int .i64 0] 31)) wr.heap.size 0 m2.cells = w7 at Z7 ⊢; have Z8 := Z7.alloc (.cells #[.int .i64 x] 3); have hr0 := Z8.row; rw [← HN0.out] at hr0; have hbase : bC + 2 ≤ w7.heap.size := Z7.leB)
                    | (at_builtin; refine wpList_append_lies _ rfl _ _ 22 rfl (bC + 2) 3 j0 (.int .i64 0) 1 8 Try.underlying22 hj hy0 hy1 hy2 rfl (by omega) u9 n0 _ rfl hr0 ⟨w7.heap.size, 0, none⟩ 1 1 [.int .i64 x] rfl rfl (cells_one_new _ _ _) (one_int _) (by omega) (by unfold maxLen; omega) (by omega) (by simp; omega) (w7.heap.size + 1) (by simp) ?_))
                  intro gg cap2 w8 hown8 hgrow8 hat8 hlt8
                  have Z9 := Z8.root hgrow8 (by rw [← HN0.out]; exact hown8) (by simpa using hat8)
                  rw [← HN0.out] at Z9
                  clear hgrow8 hown8 hat8 hlt8 Z8 Z7 Z hr0 cC lC cM lM hcx hMl hf15 hMl2 hT
                  go_wp2_with fail
                  go_roundg gk
                  case measure => omega
                  case rel => exact ⟨j + 1, _, by omega, by go_num, by rw [HRR.out, HKK.out]; exact Z9⟩
                · have hne : (m.c != 0) = true := by simp [hc0]
                  have hhang : hangs es x = true := by unfold hangs; rw [← HM.out]; simp [hc0]; simpa using hin
                  have hkk : ∀ y, kidsOf es (K.take (j + 1)) y = if y = m.c then kidsOf es (K.take j) m.c ++ [x] else kidsOf es (K.take j) y := fun y => by
                    rw [take_snocK hlt HX.out, kidsOf_snoc, hhang, ← HM.out]
                    by_cases e : y = m.c
                    · subst e; simp
                    · have : (m.c == y) = false := beq_eq_false_iff_ne.2 (fun e' => e e'.symm)
                      simp [this, e]
                  have hrr : rootsOf es (K.take (j + 1)) = rootsOf es (K.take j) := by rw [take_snocK hlt HX.out, rootsOf_snoc, hhang]; simp
                  have HKK := hide hkk
                  have HRR := hide hrr
                  have hkn : (kidsOf es (K.take j) m.c).length ≤ 4096 := by
                    have h1 : (kidsOf es (K.take j) m.c).length ≤ (K.take j).length := List.length_filter_le _ _
                    rw [List.length_take] at h1
                    omega
                  clear hkk hrr hhang hc0
                  have hT := there_new wr #[.int .i64 0, .int .i64 0, .int .i64 0, .int .i64 0, .string ⟨#[]⟩, .string ⟨#[]⟩, .string ⟨#[]⟩, .string ⟨#[]⟩, .string ⟨#[]⟩, .string ⟨#[]⟩, .string ⟨#[]⟩, .string ⟨#[]⟩, .string ⟨#[]⟩, .string ⟨#[]⟩, .bool false, .int .i64 0] 31 16 rfl
                  have Z7 := Z.setCells (.cells #[.int .i64 0, .int .i64 0, .int .i64 0, .int .i64 0, .string ⟨#[]⟩, .string ⟨#[]⟩, .string ⟨#[]⟩, .string ⟨#[]⟩, .string ⟨#[]⟩, .string ⟨#[]⟩, .string ⟨#[]⟩, .string ⟨#[]⟩, .string ⟨#[]⟩, .string ⟨#[]⟩, .bool false, .int .i64 0] 31) 0 m2.cells
                  have tok1 : True := trivial
                  go_wp2_with (first
                    | (at_lookup; have _t := tok1; refine wpList_lookup_im _ rfl _ _ 32 false rfl 3 31 Try.underlying32 Try.underlying3 noEnt.val zero31 w.heap.size (fillM es) rfl Z.X.mM x rfl _ (ent_some hMl) ?_; clear tok1; clear _t; have tok2 : True := trivial)
                    | (at_lookup; have _t := tok2; refine wpList_lookup_im _ rfl _ _ 32 true rfl 3 31 Try.underlying32 Try.underlying3 noEnt.val zero31 w.heap.size (fillM es) rfl Z.X.mM m.c rfl _ (ent_ok hMl2) ?_; clear tok2; clear _t; have tok3 : True := trivial)
                    | (have _t := tok3; refine wpList_store_mid rfl 31 (.tmp 13) (.tmp 67) rfl wr.heap.size 0 m2.cells.toArray rfl rfl hT (by kernel_rfl) (Ent.oneCell _) ?_; clear tok3; clear _t; rw [List.toList_toArray]; generalize World.setCells (wr.alloc (.cells #[.int .i64 0, .int .i64 0, .int .i64 0, .int .i64 0, .string ⟨#[]⟩, .string ⟨#[]⟩, .string ⟨#[]⟩, .string ⟨#[]⟩, .string ⟨#[]⟩, .string ⟨#[]⟩, .string ⟨#[]⟩, .string ⟨#[]⟩, .string ⟨#[]⟩, .string ⟨#[]⟩, .bool false, .int .i64 0] 31)) wr.heap.size 0 m2.cells = w7 at Z7 ⊢))
                  clear Z cC lC cM lM hcx hMl hMl2 hin hf15 hne hT
                  have Z8 := (Z7.alloc (.cells #[.int .i64 x] 3)).drew
                  obtain ⟨v0, hv0⟩ : ∃ v0, v0 = kv Lc m.c := ⟨_, rfl⟩
                  obtain ⟨n0, hn0⟩ : ∃ n0, n0 = (kidsOf es (K.take j) m.c).length := ⟨_, rfl⟩
                  have hr0 := Z8.kid m.c
                  rw [← hn0] at hkn
                  rw [← hn0, ← hv0] at hr0
                  have hl1 : (Instr.lookup 34 (.map (some bC)) (.int .i64 m.c) false).run Try.prog w7.drew = .ok v0 w7.drew := by
                    rw [run_lookup_im w7.drew Try.underlying34 Try.underlying3 (zero22 _) Z7.drew.mC m.c false, hv0]; rfl
                  have hl2 : (Instr.lookup 34 (.map (some bC)) (.int .i64 m.c) false).run Try.prog (w7.alloc (.cells #[.int .i64 x] 3)).drew = .ok v0 (w7.alloc (.cells #[.int .i64 x] 3)).drew := by
                    rw [run_lookup_im _ Try.underlying34 Try.underlying3 (zero22 _) Z8.mC m.c false, hv0]; rfl
                  have HV0 := hide hv0
                  have HN0 := hide hn0
                  have cC := cell_of_one Z7.hC
                  have lC := lt_of_block Z7.hC
                  have hbase : bC + 2 ≤ w7.heap.size := Z7.leB
                  clear hv0 hn0
                  go_region_law
                    ((refine step_append_lies _ (by rfl) _ _ _ (by rfl) (bC + 2) 3 j0 _ 1 8 Try.underlying22 hj hy0 hy1 hy2 rfl (by omega) v0 n0 _ (by rfl) hr0
                        ⟨w7.heap.size, 0, none⟩ 1 1 [.int .i64 x] (by rfl) (by rfl) (World.news_of_block (cs := #[.int .i64 x]) (t := 3) (fr := (0, 0)) (heap_alloc_new w7 _)) (one_int _)
                        (by omega) (by unfold maxLen; omega) (by omega) (by simp; omega) (w7.heap.size + 1) (by simp) ?_; intro gg cap2 w8 hown8 hgrow8 hat8 hlt8
                      have hm8 : w8.heap[bC]? = some (mapObj Lc) := by rw [hgrow8.block bC (lt_of_block Z8.mC) (fun e => by have h := (row_lt hr0 e.symm).1; omega)]; exact Z8.mC
                      have hc8 : w8.heap[bC + 1]? = some (.cells #[.map (some bC)] 34 (0, 0)) := by rw [hgrow8.block (bC + 1) (lt_of_block Z8.hC) (fun e => by have h := (row_lt hr0 e.symm).1; omega)]; exact Z8.hC
                      have cC8 := cell_of_one hc8
                      obtain ⟨w9, hw9⟩ : ∃ w9, w9 = setBlock w8 bC (mapObj (put m.c (.slice (some ⟨gg, 0, none⟩) (n0 + 1) cap2) Lc)) := ⟨_, rfl⟩
                      have hup := run_update_im w8 Try.underlying34 Try.underlying3 hm8 m.c (.slice (some ⟨gg, 0, none⟩) (n0 + 1) cap2)
                      rw [← hw9] at hup
                      have Z9 := Z8.kidMore (k := m.c) (by rw [← HV0.out]; exact hgrow8) HN0.out hown8 (by rw [← HV0.out]; simpa using hat8) HKK.out
                      rw [← hw9] at Z9
                      clear hw9 hgrow8 hown8 hat8 hlt8 hm8 hc8))
                  all_goals
                    go_wp2_with fail
                    go_roundg gk
                    case measure => omega
                    case rel => exact ⟨j + 1, _, by omega, by go_num, by rw [HRR.out]; exact Z9⟩
              · have hMl2 := look_out hin
                have hhang : hangs es x = false := by unfold hangs; rw [← HM.out, decide_eq_false hin, Bool.false_and]
                have hkk : kidsOf es (K.take (j + 1)) = kidsOf es (K.take j) := by funext y; rw [take_snocK hlt HX.out, kidsOf_snoc, hhang]; simp
                have hrr : rootsOf es (K.take (j + 1)) = rootsOf es (K.take j) ++ [x] := by rw [take_snocK hlt HX.out, rootsOf_snoc, hhang]; simp
                have HKK := hide hkk
                have HRR := hide hrr
                have hkn : (rootsOf es (K.take j)).length ≤ 4096 := by
                  have h1 : (rootsOf es (K.take j)).length ≤ (K.take j).length := List.length_filter_le _ _
                  rw [List.length_take] at h1
                  omega
                clear hkk hrr hhang hin
                obtain ⟨n0, hn0⟩ : ∃ n0, n0 = (rootsOf es (K.take j)).length := ⟨_, rfl⟩
                rw [← hn0] at hkn
                have HN0 := hide hn0
                clear hn0
                have hT := there_new wr #[.int .i64 0, .int .i64 0, .int .i64 0, .int .i64 0, .string ⟨#[]⟩, .string ⟨#[]⟩, .string ⟨#[]⟩, .string ⟨#[]⟩, .string ⟨#[]⟩, .string ⟨#[]⟩, .string ⟨#[]⟩, .string ⟨#[]⟩, .string ⟨#[]⟩, .string ⟨#[]⟩, .bool false, .int .i64 0] 31 16 rfl
                have Z7 := Z.setCells (.cells #[.int .i64 0, .int .i64 0, .int .i64 0, .int .i64 0, .string ⟨#[]⟩, .string ⟨#[]⟩, .string ⟨#[]⟩, .string ⟨#[]⟩, .string ⟨#[]⟩, .string ⟨#[]⟩, .string ⟨#[]⟩, .string ⟨#[]⟩, .string ⟨#[]⟩, .string ⟨#[]⟩, .bool false, .int .i64 0] 31) 0 noEnt.cells
                have tok1 : True := trivial
                go_wp2_with (first
                  | (at_lookup; have _t := tok1; refine wpList_lookup_im _ rfl _ _ 32 false rfl 3 31 Try.underlying32 Try.underlying3 noEnt.val zero31 w.heap.size (fillM es) rfl Z.X.mM x rfl _ (ent_some hMl) ?_; clear tok1; clear _t; have tok2 : True := trivial)
                  | (at_lookup; have _t := tok2; refine wpList_lookup_im _ rfl _ _ 32 true rfl 3 31 Try.underlying32 Try.underlying3 noEnt.val zero31 w.heap.size (fillM es) rfl Z.X.mM m.c rfl _ (ent_miss hMl2) ?_; clear tok2; clear _t; have tok3 : True := trivial)
                  | (have _t := tok3; refine wpList_store_mid rfl 31 (.tmp 13) (.tmp 67) rfl wr.heap.size 0 noEnt.cells.toArray rfl rfl hT (by kernel_rfl) (Ent.oneCell _) ?_; clear tok3; clear _t; rw [List.toList_toArray]; generalize World.setCells (wr.alloc (.cells #[.int .i64 0, .int .i64 0, .int .i64 0, .int .i64 0, .string ⟨#[]⟩, .string ⟨#[]⟩, .string ⟨#[]⟩, .string ⟨#[]⟩, .string ⟨#[]⟩, .string ⟨#[]⟩, .string ⟨#[]⟩, .string ⟨#[]⟩, .string ⟨#[]⟩, .string ⟨#[]⟩, .bool false, .int .i64 0] 31)) wr.heap.size 0 noEnt.cells = w7 at Z7 ⊢; have Z8 := Z7.alloc (.cells #[.int .i64 x] 3); have hr0 := Z8.row; rw [← HN0.out] at hr0; have hbase : bC + 2 ≤ w7.heap.size := Z7.leB)
                  | (at_builtin; refine wpList_append_lies _ rfl _ _ 22 rfl (bC + 2) 3 j0 (.int .i64 0) 1 8 Try.underlying22 hj hy0 hy1 hy2 rfl (by omega) u9 n0 _ rfl hr0 ⟨w7.heap.size, 0, none⟩ 1 1 [.int .i64 x] rfl rfl (cells_one_new _ _ _) (one_int _) (by omega) (by unfold maxLen; omega) (by omega) (by simp; omega) (w7.heap.size + 1) (by simp) ?_))
                intro gg cap2 w8 hown8 hgrow8 hat8 hlt8
                have Z9 := Z8.root hgrow8 (by rw [← HN0.out]; exact hown8) (by simpa using hat8)
                rw [← HN0.out] at Z9
                clear hgrow8 hown8 hat8 hlt8 Z8 Z7 Z hr0 cC lC cM lM hcx hMl hf15 hMl2 hT
                go_wp2_with fail
                go_roundg gk
                case measure => omega
                case rel => exact ⟨j + 1, _, by omega, by go_num, by rw [HRR.out, HKK.out]; exact Z9⟩
        · intro i k v w1 w2 hi hns hk hw1 hw2 hen
          have hroom := Y.room hi hns
          rw [HN.out] at hroom
          have hrow2 : w2.ownsRow (w.heap.size + 2) 3 1 u6 seen.length (vals (seen.map (keyAt (fillM es)))) := Y.row2 hw1 hw2
          have hge2 : w.heap.size + 2 ≤ w2.heap.size := Y.size2 hw1 hw2
          have HW1 := hide hw1
          have HW2 := hide hw2
          have HK := hide hk
          clear hw1 hw2 hk
          go_wp2_with (at_builtin; refine wpList_append_lies _ rfl _ _ 22 rfl (w.heap.size + 2) 3 j0 (.int .i64 0) 1 8 Try.underlying22 hj hy0 hy1 hy2 rfl (by omega) u6 seen.length _ rfl (hrow2.alloc _) ⟨w2.heap.size, 0, none⟩ 1 1 [.int .i64 k] rfl rfl (cells_one_new _ _ _) (one_int _) (by omega) (by unfold maxLen; omega) (by omega) (by simp; omega) (w2.heap.size + 1) (by simp) ?_)
          intro g cap w3 hown3 hgrow3 hat3 hlt3
          have Y3 := Y.next HW1.out HW2.out hi hns hgrow3 (by rw [← HK.out]; exact hown3) ⟨g, cap, by simp⟩
          clear hown3 hgrow3 hat3 hlt3 hrow2 hge2 hen Y
          go_wp2_with fail
          go_roundg (gk - 1)
          case measure => omega
          case rel => exact ⟨seen ++ [i], by simp; omega, Y3⟩
    · have hlt : k < es.length := by omega
      have i1 : (k : Int) < (es.length : Int) := by omega
      obtain ⟨b0, o0, rfl, hb0, hc0⟩ := h0 (by intro e; subst e; simp at hlt)
      obtain ⟨e, he⟩ : ∃ e, e = es.getD k noEnt := ⟨_, rfl⟩
      have HE := hide he
      have hR : wr.rangeAt b0 (o0 + k * 16) e.cells := fun j v hv => (X.B.cell (p := ⟨b0, o0 + k * 16 + j, none⟩) hb0).trans (hc0 k hlt j v (by rw [← he]; exact hv))
      clear he hc0
      have hT := there_new wr #[.int .i64 0, .int .i64 0, .int .i64 0, .int .i64 0, .string ⟨#[]⟩, .string ⟨#[]⟩, .string ⟨#[]⟩, .string ⟨#[]⟩, .string ⟨#[]⟩, .string ⟨#[]⟩, .string ⟨#[]⟩, .string ⟨#[]⟩, .string ⟨#[]⟩, .string ⟨#[]⟩, .bool false, .int .i64 0] 31 16 rfl
      have X2 := (X.alloc (.cells #[.int .i64 0, .int .i64 0, .int .i64 0, .int .i64 0, .string ⟨#[]⟩, .string ⟨#[]⟩, .string ⟨#[]⟩, .string ⟨#[]⟩, .string ⟨#[]⟩, .string ⟨#[]⟩, .string ⟨#[]⟩, .string ⟨#[]⟩, .string ⟨#[]⟩, .string ⟨#[]⟩, .bool false, .int .i64 0] 31)).setCells hgt 0 e.cells
      have HR2 := hide (World.rangeAt_setCells_same _ wr.heap.size 0 e.cells hT)
      have tokA : True := trivial
      go_wp2_with (first
        | (have _t := tokA; refine wpList_load_mid rfl 31 (.tmp 30) rfl b0 (o0 + k * 16) rfl e.cells _ hR Try.underlying31 rfl (by kernel_rfl) ?_; clear tokA; clear _t; have tokB : True := trivial)
        | (have _t := tokB; refine wpList_store_mid rfl 31 (.tmp 5) (.tmp 31) rfl wr.heap.size 0 e.cells.toArray rfl rfl hT (by kernel_rfl) (Ent.oneCell _) ?_; clear tokB; clear _t; rw [List.toList_toArray]; generalize World.setCells (wr.alloc (.cells #[.int .i64 0, .int .i64 0, .int .i64 0, .int .i64 0, .string ⟨#[]⟩, .string ⟨#[]⟩, .string ⟨#[]⟩, .string ⟨#[]⟩, .string ⟨#[]⟩, .string ⟨#[]⟩, .string ⟨#[]⟩, .string ⟨#[]⟩, .string ⟨#[]⟩, .string ⟨#[]⟩, .bool false, .int .i64 0] 31)) wr.heap.size 0 e.cells = w2 at X2 HR2 ⊢; have R2 := HR2.out; have tokC : True := trivial; have cM2 := cell_of_one X2.hM; have cF0 : w2.cell? ⟨wr.heap.size, 0, none⟩ = some (.int .i64 e.i) := R2 0 _ rfl)
        | (have _t := tokC; refine wpList_load_mid rfl 31 (.tmp 5) rfl wr.heap.size 0 rfl e.cells _ R2 Try.underlying31 rfl (by kernel_rfl) ?_; clear tokC; clear _t)
        | (at_mapUpdate; refine wpList_update_im _ rfl _ _ _ 32 rfl 3 31 Try.underlying32 Try.underlying3 w.heap.size (fillM (es.take k)) rfl X2.mM e.i rfl e.val rfl ?_; intro w3 hw3; have X3 := X2.put (put e.i e.val (fillM (es.take k))); rw [← hw3, ← fillM_snoc, ← take_snocE hlt HE.out] at X3; clear X X2 hw3 cM cM2 cF0 R2 HR2 hR hT))
      go_wp2_with fail
      go_roundg gk
      case measure => omega
      case rel => exact ⟨k + 1, by omega, by go_num, X3⟩
end Go.Proofs.Qxb6001503a
