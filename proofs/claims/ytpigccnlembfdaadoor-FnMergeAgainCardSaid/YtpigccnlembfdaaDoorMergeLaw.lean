/- The whole walk of FnMergeAgain: it returns true at any two values. Conditions: the two tables of package utf8 lie where they lie. -/
import Derived.Test.YtpigccnlembfdaaDoorMergeDoor
import Derived.Test.YtpigccnlembfdaaDoorGiven
import Derived.Test.YtpigccnlembfdaaDoorFine
import Derived.Deep.RegionHeld3
import Derived.Deep.DrawnRows
namespace Go.Proofs.YtpigccnlembfdaaDoor
open Go.RowKit
attribute [local go_sem ↓] Go.wp_at_zero Go.wp_at_succ

set_option maxRecDepth 100000 in
set_option maxHeartbeats 1000000 in
theorem fit2_any' {Tabs : World → Prop} (hV : ValidSaid Tabs) {N : Nat} (hTk : ∀ w w' : World, ∀ g, N ≤ g → Tabs w → w.grownBy w' (some g) → Tabs w') (x y : V) (w : World) (B : Nat) (hx : x.In w B) (hy : y.In w B) (hB : B ≤ w.heap.size) (hNw : N ≤ w.heap.size) (hT : Tabs w) :
    Calls Tryd.prog 11 #[x.val, y.val] w fun e w' => ∃ b, e = .returned (.bool b) ∧ Below w.heap.size w w' ∧ (b = true → x.Good ∧ y.Good ∧ x.parts ≤ 400 ∧ y.parts ≤ 400) := by
  have hTb : ∀ w', Below w.heap.size w w' → Tabs w' := fun w' hb => hTk w w' w.heap.size hNw hT (grown_below hb _)
  have hX : ∀ w', Below w.heap.size w w' → Calls Tryd.prog 15 #[x.val] w' (FitPost x w') := fun w' hb => fit_any hV hTk x w' B (hx.below hb hB) (by have := hb.size; omega) (by have := hb.size; omega) (hTb w' hb)
  have hY : ∀ w', Below w.heap.size w w' → Calls Tryd.prog 15 #[y.val] w' (FitPost y w') := fun w' hb => fit_any hV hTk y w' B (hy.below hb hB) (by have := hb.size; omega) (by have := hb.size; omega) (hTb w' hb)
  obtain ⟨k, h, t, aL, cL, l, aK, cK, ks, aV, cV, vs⟩ := x
  obtain ⟨k', h', t', aL', cL', l', aK', cK', ks', aV', cV', vs'⟩ := y
  rw [V.val_mk] at hX hY ⊢
  rw [V.val_mk]
  have HX := Lib.hid hX
  have HY := Lib.hid hY
  have HC1 := Lib.hid (Cells.new (w.alloc (.cells #[.int .i64 k, .int .i64 h, .string t, .slice aL l.length cL, .slice aK ks.length cK, .slice aV vs.length cV] 26)) 26 #[.int .i64 k', .int .i64 h', .string t', .slice aL' l'.length cL', .slice aK' ks'.length cK', .slice aV' vs'.length cV'])
  clear hX hY hx hy hB hNw hT hTb hTk hV
  generalize l.length = n1 at *
  generalize ks.length = n2 at *
  generalize vs.length = n3 at *
  generalize l'.length = n4 at *
  generalize ks'.length = n5 at *
  generalize vs'.length = n6 at *
  go_enter Tryd.func11, Tryd.ntmps11
  go_wp2_with fail
  refine (HX.out _ (below2 _ _ _)).mono ?_
  rintro e w1 ⟨b1, rfl, hb1, h1⟩
  have hB1 : Below w.heap.size w w1 := (below2 w _ _).trans (hb1.mono (by simp; omega))
  have a1 : Cells w1 (w.heap.size + 1) 26 #[.int .i64 k', .int .i64 h', .string t', .slice aL' n4 cL', .slice aK' n5 cK', .slice aV' n6 cV'] := by
    have := HC1.out
    rw [World.size_alloc] at this
    exact (hb1.block _ (by simp)).trans this
  have c0 := a1.cell 0
  have c1 := a1.cell 1
  have c2 := a1.cell 2
  have c3 := a1.cell 3
  have c4 := a1.cell 4
  have c5 := a1.cell 5
  simp at c0 c1 c2 c3 c4 c5
  have H1 := Lib.hid h1
  have HB1 := Lib.hid hB1
  clear h1 hb1 hB1 a1 HX HC1
  cases b1
  · go_wp2_with fail
    go_ret
    exact ⟨false, rfl, HB1.out, fun h => by cases h⟩
  · go_wp2_with fail
    refine (HY.out _ HB1.out).mono ?_
    rintro e w2 ⟨b2, rfl, hb2, h2⟩
    have H2 := Lib.hid h2
    have HB2 := Lib.hid (HB1.out.trans (hb2.mono HB1.out.size))
    clear h2 hb2
    go_wp2_with fail
    go_ret
    refine ⟨b2, rfl, HB2.out, fun h => ?_⟩
    have h1 := H1.out (by first | rfl | trivial)
    have h2 := H2.out h
    exact ⟨h1.1, h2.1, h1.2.1, h2.2.1⟩

set_option maxRecDepth 100000 in
set_option maxHeartbeats 4000000 in
theorem mergeLaw_any {Tabs : World → Prop} (hV : ValidSaid Tabs) {N : Nat} (hTk : ∀ w w' : World, ∀ g, N ≤ g → Tabs w → w.grownBy w' (some g) → Tabs w') (x y : V) (w : World) (hx : x.In w w.heap.size) (hy : y.In w w.heap.size) (hNw : N ≤ w.heap.size) (hT : Tabs w) :
    Calls Tryd.prog 4 #[x.val, y.val] w (Same0 w (.bool true)) := by
  have hTb : ∀ w', Below w.heap.size w w' → Tabs w' := fun w' hb => hTk w w' w.heap.size hNw hT (grown_below hb _)
  have hZx : ∀ w', Below w.heap.size w w' → Calls Tryd.prog 5 #[x.val] w' (SaysBelow w') := fun w' hb => fits1_any w' w.heap.size x (hx.below hb (Nat.le_refl _)) hb.size
  have hZy : ∀ w', Below w.heap.size w w' → Calls Tryd.prog 5 #[y.val] w' (SaysBelow w') := fun w' hb => fits1_any w' w.heap.size y (hy.below hb (Nat.le_refl _)) hb.size
  have hF : ∀ w', Below w.heap.size w w' → Calls Tryd.prog 11 #[x.val, y.val] w' (fun e w'' => ∃ b, e = .returned (.bool b) ∧ Below w'.heap.size w' w'' ∧ (b = true → x.Good ∧ y.Good ∧ x.parts ≤ 400 ∧ y.parts ≤ 400)) := fun w' hb =>
    fit2_any' hV hTk x y w' w.heap.size (hx.below hb (Nat.le_refl _)) (hy.below hb (Nat.le_refl _)) hb.size (by have := hb.size; omega) (hTb w' hb)
  have hM : ∀ w', Below w.heap.size w w' → x.Good → y.Good → x.kind = 6 → y.kind = 6 → x.parts ≤ 400 → y.parts ≤ 400 → Calls Tryd.prog 12 #[x.val, y.val] w' (ResPost (meld x.toJ y.toJ) w') := fun w' hb g1 g2 k1 k2 p1 p2 =>
    mergeDoor_any x y w' w.heap.size (hx.below hb (Nat.le_refl _)) (hy.below hb (Nat.le_refl _)) hb.size g1 g2 k1 k2 (by omega) (by omega)
  -- the second time
  have hM2 : ∀ w' X, Below w.heap.size w w' → V.In w' w'.heap.size X → X.Good → X.kind = 6 → X.toJ = meld x.toJ y.toJ → X.parts ≤ 1000 → x.Good → y.Good → y.kind = 6 → y.parts ≤ 400 → Calls Tryd.prog 12 #[X.val, y.val] w' (ResPost X.toJ w') := fun w' X hb hin g k e p g1 g2 k2 p2 => by
    have h := mergeDoor_any X y w' w'.heap.size hin ((hy.below hb (Nat.le_refl _)).more hb.size) (Nat.le_refl _) g g2 k k2 p (by omega)
    rw [e, meld_again _ _ g1.fine g2.fine, ← e] at h
    exact h
  have hK : x.Good → y.Good → x.kind = 6 → y.kind = 6 → x.parts ≤ 400 → y.parts ≤ 400 → (meld x.toJ y.toJ).kind = 6 ∧ (meld x.toJ y.toJ).parts ≤ 800 := fun g1 g2 k1 k2 p1 p2 => by
    have q1 := toJ_parts x
    have q2 := toJ_parts y
    have hp := meld_parts y.toJ x.toJ g1.fine g2.fine
    refine ⟨?_, by omega⟩
    obtain ⟨k, h, t, aL, cL, l, aK, cK, ks, aV, cV, vs⟩ := x
    obtain ⟨k', h', t', aL', cL', l', aK', cK', ks', aV', cV', vs'⟩ := y
    simp only [V.kind] at k1 k2
    subst k1
    subst k2
    have ex : (V.mk 6 h t aL cL l aK cK ks aV cV vs).toJ = .map ks (toJAll vs) := by simp [V.toJ]
    have ey : (V.mk 6 h' t' aL' cL' l' aK' cK' ks' aV' cV' vs').toJ = .map ks' (toJAll vs') := by simp [V.toJ]
    rw [ex, ey, meld_map]
    rfl
  obtain ⟨k, h, t, aL, cL, l, aK, cK, ks, aV, cV, vs⟩ := x
  obtain ⟨k', h', t', aL', cL', l', aK', cK', ks', aV', cV', vs'⟩ := y
  simp only [V.kind] at hM hM2 hK
  rw [V.val_mk] at hZx hZy hF hM ⊢
  rw [V.val_mk] at hF hM ⊢
  simp only [V.val_mk] at hM2
  generalize (V.mk k h t aL cL l aK cK ks aV cV vs).toJ = jx at *
  generalize (V.mk k' h' t' aL' cL' l' aK' cK' ks' aV' cV' vs').toJ = jy at *
  have HZX := Lib.hid hZx
  have HZY := Lib.hid hZy
  have HF := Lib.hid hF
  have HM := Lib.hid hM
  have HM2 := Lib.hid hM2
  have HK := Lib.hid hK
  clear hZx hZy hF hM hM2 hK hx hy hNw hT hTb hTk hV
  generalize l.length = n1 at *
  generalize ks.length = n2 at *
  generalize vs.length = n3 at *
  generalize l'.length = n4 at *
  generalize ks'.length = n5 at *
  generalize vs'.length = n6 at *
  have HC0 := Lib.hid (Cells.new w 26 #[.int .i64 k, .int .i64 h, .string t, .slice aL n1 cL, .slice aK n2 cK, .slice aV n3 cV])
  have HC1 := Lib.hid (Cells.new (w.alloc (.cells #[.int .i64 k, .int .i64 h, .string t, .slice aL n1 cL, .slice aK n2 cK, .slice aV n3 cV] 26)) 26 #[.int .i64 k', .int .i64 h', .string t', .slice aL' n4 cL', .slice aK' n5 cK', .slice aV' n6 cV'])
  go_enter Tryd.func4, Tryd.ntmps4
  go_wp2_with fail
  refine (HZX.out _ (below2 _ _ _)).mono ?_
  rintro e w1 ⟨b1, rfl, hb1⟩
  have hB1 : Below w.heap.size w w1 := (below2 w _ _).trans (hb1.mono (by simp; omega))
  have a0 : Cells w1 w.heap.size 26 #[.int .i64 k, .int .i64 h, .string t, .slice aL n1 cL, .slice aK n2 cK, .slice aV n3 cV] := (hb1.block _ (by simp; omega)).trans ((Below.heap_alloc _ _ _ (by simp)).trans HC0.out)
  have a1 : Cells w1 (w.heap.size + 1) 26 #[.int .i64 k', .int .i64 h', .string t', .slice aL' n4 cL', .slice aK' n5 cK', .slice aV' n6 cV'] := by
    have := HC1.out
    rw [World.size_alloc] at this
    exact (hb1.block _ (by simp)).trans this
  have HS := Lib.hid (fun W (hb : Below w1.heap.size w1 W) => And.intro (a0.below hb) (a1.below hb))
  have HB1 := Lib.hid hB1
  clear hb1 hB1 a0 a1 HC0 HC1 HZX
  obtain ⟨a0, a1⟩ := HS.out w1 (Below.refl _ _)
  have c0 := a0.cell 0
  have c1 := a0.cell 1
  have c2 := a0.cell 2
  have c3 := a0.cell 3
  have c4 := a0.cell 4
  have c5 := a0.cell 5
  have d0 := a1.cell 0
  have d1 := a1.cell 1
  have d2 := a1.cell 2
  have d3 := a1.cell 3
  have d4 := a1.cell 4
  have d5 := a1.cell 5
  simp at c0 c1 c2 c3 c4 c5 d0 d1 d2 d3 d4 d5
  clear a0 a1
  cases b1
  · go_wp2_with fail
    go_ret
    exact ⟨rfl, HB1.out⟩
  go_wp2_with fail
  refine (HZY.out _ HB1.out).mono ?_
  rintro e w2 ⟨b2, rfl, hb2⟩
  have HS2 := Lib.hid (fun W (hb : Below w2.heap.size w2 W) => HS.out W (hb2.trans (hb.mono hb2.size)))
  have HB2 := Lib.hid (HB1.out.trans (hb2.mono HB1.out.size))
  clear hb2 HS HZY HB1 c0 c1 c2 c3 c4 c5 d0 d1 d2 d3 d4 d5
  obtain ⟨a0, a1⟩ := HS2.out w2 (Below.refl _ _)
  have c0 := a0.cell 0
  have c1 := a0.cell 1
  have c2 := a0.cell 2
  have c3 := a0.cell 3
  have c4 := a0.cell 4
  have c5 := a0.cell 5
  have d0 := a1.cell 0
  have d1 := a1.cell 1
  have d2 := a1.cell 2
  have d3 := a1.cell 3
  have d4 := a1.cell 4
  have d5 := a1.cell 5
  simp at c0 c1 c2 c3 c4 c5 d0 d1 d2 d3 d4 d5
  clear a0 a1
  cases b2
  · go_wp2_with fail
    go_ret
    exact ⟨rfl, HB2.out⟩
  go_wp2_with fail
  refine (HF.out _ HB2.out).mono ?_
  rintro e w3 ⟨b3, rfl, hb3, hg⟩
  have HS3 := Lib.hid (fun W (hb : Below w3.heap.size w3 W) => HS2.out W (hb3.trans (hb.mono hb3.size)))
  have HB3 := Lib.hid (HB2.out.trans (hb3.mono HB2.out.size))
  have HG := Lib.hid hg
  clear hg hb3 HS2 HF HB2 c0 c1 c2 c3 c4 c5 d0 d1 d2 d3 d4 d5
  obtain ⟨a0, a1⟩ := HS3.out w3 (Below.refl _ _)
  have c0 := a0.cell 0
  have c1 := a0.cell 1
  have c2 := a0.cell 2
  have c3 := a0.cell 3
  have c4 := a0.cell 4
  have c5 := a0.cell 5
  have d0 := a1.cell 0
  have d1 := a1.cell 1
  have d2 := a1.cell 2
  have d3 := a1.cell 3
  have d4 := a1.cell 4
  have d5 := a1.cell 5
  simp at c0 c1 c2 c3 c4 c5 d0 d1 d2 d3 d4 d5
  clear a0 a1
  cases b3
  · go_wp2_with fail
    go_ret
    exact ⟨rfl, HB3.out⟩
  by_cases hk : k = 6
  case neg =>
    have e1 : (k == 6) = false := by simp [hk]
    go_wp2_with fail
    go_ret
    exact ⟨rfl, HB3.out⟩
  by_cases hk' : k' = 6
  case neg =>
    have e1 : (k == 6) = true := by simp [hk]
    have e2 : (k' == 6) = false := by simp [hk']
    go_wp2_with fail
    go_ret
    exact ⟨rfl, HB3.out⟩
  subst hk
  subst hk'
  go_wp2_with fail
  obtain ⟨g1, g2, p1, p2⟩ := HG.out (by first | rfl | trivial)
  have hMM := HM.out w3 HB3.out g1 g2 (by first | rfl | trivial) (by first | rfl | trivial) p1 p2
  have hKK := HK.out g1 g2 (by first | rfl | trivial) (by first | rfl | trivial) p1 p2
  refine hMM.mono ?_
  rintro e w4 ⟨X, rfl, hb4, hin4, _, hj4, hg4, hp4⟩
  have hB4 := HB3.out.trans (hb4.mono HB3.out.size)
  have hs4 : w.heap.size + 1 < w4.heap.size := by
    have h1 := (HS3.out w3 (Below.refl _ _)).2.lt
    have := hb4.size
    omega
  have hy4 := (HS3.out w4 hb4).2
  have hxk : X.kind = 6 := by
    have h1 := congrArg J.kind hj4
    rw [hKK.1] at h1
    obtain ⟨xk, xh, xt, xaL, xcL, xl, xaK, xcK, xks, xaV, xcV, xvs⟩ := X
    rw [toJ_kind hg4] at h1
    exact h1
  have hpx : X.parts ≤ 1000 := by rw [hp4]; have := hKK.2; omega
  have hM5 : ∀ w', Below w4.heap.size w4 w' → Calls Tryd.prog 12 #[X.val, .agg #[.int .i64 6, .int .i64 h', .string t', .slice aL' n4 cL', .slice aK' n5 cK', .slice aV' n6 cV']] w' (ResPost X.toJ w') := fun w' hb => HM2.out w' X (hB4.trans (hb.mono hB4.size)) ((hin4.below hb (Nat.le_refl _)).more hb.size) hg4 hxk hj4 hpx g1 g2 (by first | rfl | trivial) p2
  have hG5 : ∀ w5 w' Y, Below w4.heap.size w4 w5 → V.In w5 w5.heap.size Y → Y.toJ = X.toJ → Y.Good → Below w5.heap.size w5 w' → Calls Tryd.prog 13 #[.agg (Y.cells ++ [Value.int .i64 0]).toArray, X.val] w' (Same0 w' (.bool true)) := fun w5 w' Y hb hin e gy hb' =>
    given_same w' w5.heap.size Y X ⟨hin.below hb' (Nat.le_refl _), ((hin4.below hb (Nat.le_refl _)).more hb.size).below hb' (Nat.le_refl _), hb'.size, gy, hg4, e⟩
  clear hMM hKK HG HM HM2 HK g1 g2 p1 p2 hin4 hj4 hg4 hp4 hpx c0 c1 c2 c3 c4 c5 d0 d1 d2 d3 d4 d5
  generalize X.toJ = jm at *
  obtain ⟨xk, xh, xt, xaL, xcL, xl, xaK, xcK, xks, xaV, xcV, xvs⟩ := X
  simp only [V.kind] at hxk
  subst hxk
  rw [V.val_mk] at hM5
  simp only [V.val_mk] at hG5
  simp only [V.cells, List.cons_append, List.nil_append]
  generalize xl.length = ml at *
  generalize xks.length = mk at *
  generalize xvs.length = mv at *
  have hr5 := ResAt.new w4 #[.int .i64 6, .int .i64 xh, .string xt, .slice xaL ml xcL, .slice xaK mk xcK, .slice xaV mv xcV, .int .i64 0]
  have hSS : ∀ w', Below (w4.alloc (.cells #[.int .i64 6, .int .i64 xh, .string xt, .slice xaL ml xcL, .slice xaK mk xcK, .slice xaV mv xcV, .int .i64 0] 30)).heap.size (w4.alloc (.cells #[.int .i64 6, .int .i64 xh, .string xt, .slice xaL ml xcL, .slice xaK mk xcK, .slice xaV mv xcV, .int .i64 0] 30)) w' → w'.cell? ⟨w4.heap.size, 0, none⟩ = some (.int .i64 6) ∧ w'.cell? ⟨w4.heap.size, 1, none⟩ = some (.int .i64 xh) ∧ w'.cell? ⟨w4.heap.size, 2, none⟩ = some (.string xt) ∧ w'.cell? ⟨w4.heap.size, 3, none⟩ = some (.slice xaL ml xcL) ∧ w'.cell? ⟨w4.heap.size, 4, none⟩ = some (.slice xaK mk xcK) ∧ w'.cell? ⟨w4.heap.size, 5, none⟩ = some (.slice xaV mv xcV) ∧ w'.cell? ⟨w4.heap.size, 6, none⟩ = some (.int .i64 0) ∧ w'.cell? ⟨w.heap.size + 1, 0, none⟩ = some (.int .i64 6) ∧ w'.cell? ⟨w.heap.size + 1, 1, none⟩ = some (.int .i64 h') ∧ w'.cell? ⟨w.heap.size + 1, 2, none⟩ = some (.string t') ∧ w'.cell? ⟨w.heap.size + 1, 3, none⟩ = some (.slice aL' n4 cL') ∧ w'.cell? ⟨w.heap.size + 1, 4, none⟩ = some (.slice aK' n5 cK') ∧ w'.cell? ⟨w.heap.size + 1, 5, none⟩ = some (.slice aV' n6 cV') := fun w' hb => by
    have r := hr5.below hb
    have q := hy4.below ((below1 w4 (.cells #[.int .i64 6, .int .i64 xh, .string xt, .slice xaL ml xcL, .slice xaK mk xcK, .slice xaV mv xcV, .int .i64 0] 30)).trans (hb.mono (by simp)))
    have r0 := r.cell 0
    have r1 := r.cell 1
    have r2 := r.cell 2
    have r3 := r.cell 3
    have r4 := r.cell 4
    have r5 := r.cell 5
    have r6 := r.cell 6
    have q0 := q.cell 0
    have q1 := q.cell 1
    have q2 := q.cell 2
    have q3 := q.cell 3
    have q4 := q.cell 4
    have q5 := q.cell 5
    simp at r0 r1 r2 r3 r4 r5 r6 q0 q1 q2 q3 q4 q5
    exact ⟨r0, r1, r2, r3, r4, r5, r6, q0, q1, q2, q3, q4, q5⟩
  have hB5 : Below w.heap.size w (w4.alloc (.cells #[.int .i64 6, .int .i64 xh, .string xt, .slice xaL ml xcL, .slice xaK mk xcK, .slice xaV mv xcV, .int .i64 0] 30)) := hB4.alloc hB4.size _
  have HB5 := Lib.hid hB5
  have HSS := Lib.hid hSS
  have HM5 := Lib.hid (fun w' (hb : Below (w4.alloc (.cells #[.int .i64 6, .int .i64 xh, .string xt, .slice xaL ml xcL, .slice xaK mk xcK, .slice xaV mv xcV, .int .i64 0] 30)).heap.size (w4.alloc (.cells #[.int .i64 6, .int .i64 xh, .string xt, .slice xaL ml xcL, .slice xaK mk xcK, .slice xaV mv xcV, .int .i64 0] 30)) w') => hM5 w' ((below1 w4 (.cells #[.int .i64 6, .int .i64 xh, .string xt, .slice xaL ml xcL, .slice xaK mk xcK, .slice xaV mv xcV, .int .i64 0] 30)).trans (hb.mono (by simp))))
  have HG5 := Lib.hid (fun w5 w' Y (hb : Below (w4.alloc (.cells #[.int .i64 6, .int .i64 xh, .string xt, .slice xaL ml xcL, .slice xaK mk xcK, .slice xaV mv xcV, .int .i64 0] 30)).heap.size (w4.alloc (.cells #[.int .i64 6, .int .i64 xh, .string xt, .slice xaL ml xcL, .slice xaK mk xcK, .slice xaV mv xcV, .int .i64 0] 30)) w5) => hG5 w5 w' Y ((below1 w4 (.cells #[.int .i64 6, .int .i64 xh, .string xt, .slice xaL ml xcL, .slice xaK mk xcK, .slice xaV mv xcV, .int .i64 0] 30)).trans (hb.mono (by simp))))
  clear hB5 hSS hM5 hG5 hr5 hy4 hB4 hb4 HS3
  go_wp2_with fail
  generalize w4.alloc (.cells #[.int .i64 6, .int .i64 xh, .string xt, .slice xaL ml xcL, .slice xaK mk xcK, .slice xaV mv xcV, .int .i64 0] 30) = w5 at *
  go_region_held3 (fun w' => w'.cell? ⟨w4.heap.size, 0, none⟩ = some (.int .i64 6) ∧ w'.cell? ⟨w4.heap.size, 1, none⟩ = some (.int .i64 xh) ∧ w'.cell? ⟨w4.heap.size, 2, none⟩ = some (.string xt) ∧ w'.cell? ⟨w4.heap.size, 3, none⟩ = some (.slice xaL ml xcL) ∧ w'.cell? ⟨w4.heap.size, 4, none⟩ = some (.slice xaK mk xcK) ∧ w'.cell? ⟨w4.heap.size, 5, none⟩ = some (.slice xaV mv xcV) ∧ w'.cell? ⟨w4.heap.size, 6, none⟩ = some (.int .i64 0) ∧ w'.cell? ⟨w.heap.size + 1, 0, none⟩ = some (.int .i64 6) ∧ w'.cell? ⟨w.heap.size + 1, 1, none⟩ = some (.int .i64 h') ∧ w'.cell? ⟨w.heap.size + 1, 2, none⟩ = some (.string t') ∧ w'.cell? ⟨w.heap.size + 1, 3, none⟩ = some (.slice aL' n4 cL') ∧ w'.cell? ⟨w.heap.size + 1, 4, none⟩ = some (.slice aK' n5 cK') ∧ w'.cell? ⟨w.heap.size + 1, 5, none⟩ = some (.slice aV' n6 cV')) ((refine HSS.out _ ?_; first | exact Below.refl _ _ | exact (Below.refl _ _).drew | exact HB6.out | exact HB7.out))
    (first
      | (go_at_call 12; refine (HM5.out _ ((Below.refl _ _).drew)).mono ?_; rintro e w6 ⟨Y, rfl, hb6, hin6, _, hj6, hg6, _⟩; have HB6 := Lib.hid (((Below.refl w5.heap.size w5).drew).trans hb6); have HG6 := Lib.hid (fun w' hb' => HG5.out w6 w' Y (((Below.refl w5.heap.size w5).drew).trans hb6) hin6 hj6 hg6 hb'); clear hb6 hin6 hj6 hg6; generalize (Value.agg (Y.cells ++ [Value.int IntKind.i64 0]).toArray) = yv at *)
      | (go_at_call 13; refine (HG6.out _ (Below.refl _ _)).mono ?_; rintro e w7 ⟨rfl, hb7⟩; have HB7 := Lib.hid (HB6.out.trans (hb7.mono HB6.out.size)); clear hb7))
  go_wp2_with fail
  go_ret
  exact ⟨rfl, HB5.out.trans (HB7.out.mono HB5.out.size)⟩
end Go.Proofs.YtpigccnlembfdaaDoor
