/- The walk of impl.Merge at two right maps: a right tree that stands for the merged value. Conditions: as each theorem states. -/
import Derived.Test.YtpigccnlembfdaaDoorFromGo
import Derived.Test.YtpigccnlembfdaaDoorToBool
namespace Go.Proofs.YtpigccnlembfdaaDoor
open Go.RowKit

/-- What impl.result leaves where it says no error. -/
def ResPost (j : J) (w : World) (e : Ending) (w' : World) : Prop :=
  ∃ X : V, e = .returned (.agg (X.cells ++ [Value.int .i64 0]).toArray) ∧ Below w.heap.size w w' ∧ X.In w' w'.heap.size ∧ X.Blocks (From w.heap.size) ∧ X.toJ = j ∧ X.Good ∧ X.parts = j.parts

theorem stay_after {w1 wf : World} {X : V} {B0 g : Nat} (hin : X.In w1 w1.heap.size) (hbl : X.Blocks (From B0)) (hg : g < B0) (hgr : w1.grownBy wf (some g)) : X.In wf wf.heap.size :=
  V.In.stay hgr.size (fun p hp hlt => World.cell?_of_block (hgr.block p.block hlt (fun e => by have := Option.some.inj e; simp only [From] at hp; omega))) hin hbl

/-- Seven stores into a block. -/
theorem grown_seven (w : World) (g : Nat) (v0 v1 v2 v3 v4 v5 v6 : Value) :
    w.grownBy (((((((w.setCell ⟨g, 0, none⟩ v0).setCell ⟨g, 1, none⟩ v1).setCell ⟨g, 2, none⟩ v2).setCell ⟨g, 3, none⟩ v3).setCell ⟨g, 4, none⟩ v4).setCell ⟨g, 5, none⟩ v5).setCell ⟨g, 6, none⟩ v6) (some g) :=
  ((((((grown_set w g 0 v0).trans (grown_set _ g 1 v1)).trans (grown_set _ g 2 v2)).trans (grown_set _ g 3 v3)).trans (grown_set _ g 4 v4)).trans (grown_set _ g 5 v5)).trans (grown_set _ g 6 v6)

theorem res_close {w w' w1 wf : World} {X : V} {j : J} {g : Nat} (hb : Below w.heap.size w w') (hgw : w.heap.size ≤ g) (hg : g < w'.heap.size) (hb1 : Below w'.heap.size w' w1) (hin : X.In w1 w1.heap.size) (hbl : X.Blocks (From w'.heap.size)) (hj : X.toJ = j) (hgo : X.Good) (hp : X.parts = j.parts)
    (hgr : w1.grownBy wf (some g)) : ResPost j w (.returned (.agg (X.cells ++ [Value.int .i64 0]).toArray)) wf := by
  have hs := hb.size
  have hs1 := hb1.size
  refine ⟨X, rfl, (hb.trans (hb1.mono hs)).grown hgr (by omega) (fun k hk => by have := Option.some.inj hk; omega), stay_after hin hbl hg hgr, hbl.more (fun b hb => ?_), hj, hgo, hp⟩
  simp only [From] at hb ⊢; omega

set_option maxRecDepth 100000 in
set_option maxHeartbeats 1000000 in
theorem result_map (w : World) (b : Nat) (j : J) (hc : ∀ w', Below w.heap.size w w' → Calls Tryd.prog 25 #[.iface 42 (.map (some b))] w' (FromPost j w')) :
    Calls Tryd.prog 17 #[.iface 42 (.map (some b))] w (ResPost j w) := by
  have HC := Lib.hid hc
  have HR := Lib.hid (ResAt.new w #[.int .i64 0, .int .i64 0, .string ⟨#[]⟩, .slice none 0 0, .slice none 0 0, .slice none 0 0, .int .i64 0])
  clear hc
  go_enter Tryd.func17, Tryd.ntmps17
  go_wp2_with (go_at_call 25; refine (HC.out _ (below1 _ _)).mono ?_; rintro e w1 ⟨X, rfl, hb1, hin1, hbl1, hj1, hg1, hp1⟩; have hR := HR.out.below hb1; have r0 := hR.cell 0; have r1 := hR.cell 1; have r2 := hR.cell 2; have r3 := hR.cell 3; have r4 := hR.cell 4; have r5 := hR.cell 5; have r6 := hR.cell 6; have f0 := hR.frozen 0; have f1 := hR.frozen 1; have f2 := hR.frozen 2; have f3 := hR.frozen 3; have f4 := hR.frozen 4; have f5 := hR.frozen 5; have f6 := hR.frozen 6; have hlt := hR.lt; simp at r0 r1 r2 r3 r4 r5 r6; clear hR; have HF := Lib.hid (fun wf => res_close (g := w.heap.size) (wf := wf) (below1 w _) (Nat.le_refl _) (by simp) hb1 hin1 hbl1 hj1 hg1 hp1); clear hb1 hin1 hbl1 hj1 hg1 hp1; obtain ⟨xk, xh, xt, xaL, xcL, xl, xaK, xcK, xks, xaV, xcV, xvs⟩ := X; rw [V.val_mk]; simp only [V.cells] at HF; generalize xl.length = ml at *; generalize xks.length = mk at *; generalize xvs.length = mv at *)
  refine bodyPost_ret (v := .agg #[.int .i64 xk, .int .i64 xh, .string xt, .slice xaL ml xcL, .slice xaK mk xcK, .slice xaV mv xcV, .int .i64 0]) (by simp [results, Tryd.results17, go_sem, r0, r1, r2, r3, r4, r5, r6, hlt]) rfl ?_
  refine HF.out _ ?_
  refine World.grownBy.trans ?_ (World.grownBy_alloc _ _ _)
  exact grown_seven _ _ _ _ _ _ _ _ _

theorem mapToGo_any (x : V) (w : World) (B : Nat) (hin : x.In w B) (hB : B ≤ w.heap.size) (hg : x.Good) (hk : x.kind = 6) (hp : x.parts ≤ 1000000) :
    Calls Tryd.prog 20 #[x.val] w (MapPost x.keys (toJAll x.vals) w) := by
  obtain ⟨k, h, t, aL, cL, l, aK, cK, ks, aV, cV, vs⟩ := x
  have hg0 := hg
  unfold V.Good at hg0
  obtain ⟨hc1, hc2, hval, hks, hgl, hgv⟩ := hg0
  have hpl := length_parts vs
  have hpp := partsAll_nonneg l
  simp only [V.parts] at hp
  refine map_any w B k h t aL cL l aK cK ks aV cV vs hin hB (by have := hc1.2.2.2.2.2.2; omega) hc1.2.2.2.2.2.2 hks.rising fun y hy w' hyI hB' => ?_
  exact toGo_any y.deep y w' B (Nat.le_refl _) hyI hB' (goodAll_mem hgv y hy) (by have := parts_mem hy; omega)

/-- ZzMerge of two represented maps. -/
theorem zzMerge_any (ks : List ByteArray) (vs : List J) (ks' : List ByteArray) (vs' : List J) (w : World) (S : Nat → Prop) (bl br : Nat) (hp1 : (J.map ks vs).parts ≤ 1000000) (hp2 : (J.map ks' vs').parts ≤ 1000000)
    (hl : Rep w S (.map ks vs) (.iface 42 (.map (some bl)))) (hr : Rep w S (.map ks' vs') (.iface 42 (.map (some br)))) :
    Calls Tryd.prog 21 #[.map (some bl), .map (some br)] w (MergePost S (meld (.map ks vs) (.map ks' vs')) w) := by
  have HM := Lib.hid (merge_any _ ks vs ks' vs' w S bl br (Nat.le_refl _) hp1 hp2 hl hr)
  clear hl hr hp1 hp2
  generalize meld (.map ks vs) (.map ks' vs') = j at *
  go_enter Tryd.func21, Tryd.ntmps21
  go_wp2_with (go_at_call 28; refine HM.out.mono ?_; rintro e w5 ⟨x', rfl, hB5, hR5⟩)
  go_ret
  exact ⟨_, rfl, hB5, hR5⟩

mutual
theorem toJ_parts : ∀ x : V, (x.toJ.parts : Int) ≤ x.parts
  | .mk k h t aL cL l aK cK ks aV cV vs => by
    have h1 := toJAll_parts l
    have h2 := toJAll_parts vs
    have h3 := partsAll_nonneg l
    have h4 := partsAll_nonneg vs
    unfold V.toJ
    simp only [V.parts]
    repeat' split
    all_goals (simp only [J.parts]; omega)
theorem toJAll_parts : ∀ l : List V, (jpartsAll (toJAll l) : Int) ≤ partsAll l
  | [] => by simp [toJAll, jpartsAll, partsAll]
  | x :: r => by
    have h1 := toJ_parts x
    have h2 := toJAll_parts r
    simp only [toJAll, jpartsAll, partsAll]
    omega
end

set_option maxRecDepth 100000 in
set_option maxHeartbeats 2000000 in
theorem mergeDoor_any (x y : V) (w : World) (B : Nat) (hx : x.In w B) (hy : y.In w B) (hB : B ≤ w.heap.size) (gx : x.Good) (gy : y.Good) (kx : x.kind = 6) (ky : y.kind = 6) (px : x.parts ≤ 1000) (py : y.parts ≤ 1000) :
    Calls Tryd.prog 12 #[x.val, y.val] w (ResPost (meld x.toJ y.toJ) w) := by
  have hX : ∀ w', Below w.heap.size w w' → Calls Tryd.prog 20 #[x.val] w' (MapPost x.keys (toJAll x.vals) w') := fun w' hb => mapToGo_any x w' B (hx.below hb hB) (by have := hb.size; omega) gx kx (by omega)
  have hY : ∀ w', Below w.heap.size w w' → Calls Tryd.prog 20 #[y.val] w' (MapPost y.keys (toJAll y.vals) w') := fun w' hb => mapToGo_any y w' B (hy.below hb hB) (by have := hb.size; omega) gy ky (by omega)
  have fx := gx.fine
  have fy := gy.fine
  have qx := toJ_parts x
  have qy := toJ_parts y
  have hfine := meld_fine y.toJ x.toJ fx fy
  have hparts := meld_parts y.toJ x.toJ fx fy
  obtain ⟨k, h, t, aL, cL, l, aK, cK, ks, aV, cV, vs⟩ := x
  obtain ⟨k', h', t', aL', cL', l', aK', cK', ks', aV', cV', vs'⟩ := y
  simp only [V.kind] at kx ky
  subst kx
  subst ky
  have ex : (V.mk 6 h t aL cL l aK cK ks aV cV vs).toJ = .map ks (toJAll vs) := by simp [V.toJ]
  have ey : (V.mk 6 h' t' aL' cL' l' aK' cK' ks' aV' cV' vs').toJ = .map ks' (toJAll vs') := by simp [V.toJ]
  rw [ex] at hfine hparts qx ⊢
  rw [ey] at hfine hparts qy ⊢
  rw [V.val_mk] at hX hY ⊢
  rw [V.val_mk]
  simp only [V.keys, V.vals] at hX hY
  have HX := Lib.hid hX
  have HY := Lib.hid hY
  have hpp : (meld (.map ks (toJAll vs)) (.map ks' (toJAll vs'))).parts ≤ 1000000 ∧ (J.map ks (toJAll vs)).parts ≤ 1000000 ∧ (J.map ks' (toJAll vs')).parts ≤ 1000000 := by omega
  have HP := Lib.hid hpp
  have HFI := Lib.hid hfine
  have HMM := Lib.hid (meld_map ks (toJAll vs) ks' (toJAll vs'))
  clear hX hY hx hy hB gx gy px py fx fy qx qy hfine hparts ex ey hpp
  generalize toJAll vs = us at *
  generalize toJAll vs' = us' at *
  generalize l.length = n1 at *
  generalize ks.length = n2 at *
  generalize vs.length = n3 at *
  generalize l'.length = n4 at *
  generalize ks'.length = n5 at *
  generalize vs'.length = n6 at *
  have HC0 := Lib.hid (Cells.new w 26 #[.int .i64 6, .int .i64 h, .string t, .slice aL n1 cL, .slice aK n2 cK, .slice aV n3 cV])
  have HC1 := Lib.hid (Cells.new (w.alloc (.cells #[.int .i64 6, .int .i64 h, .string t, .slice aL n1 cL, .slice aK n2 cK, .slice aV n3 cV] 26)) 26 #[.int .i64 6, .int .i64 h', .string t', .slice aL' n4 cL', .slice aK' n5 cK', .slice aV' n6 cV'])
  have HC2 := Lib.hid (ResAt.new ((w.alloc (.cells #[.int .i64 6, .int .i64 h, .string t, .slice aL n1 cL, .slice aK n2 cK, .slice aV n3 cV] 26)).alloc (.cells #[.int .i64 6, .int .i64 h', .string t', .slice aL' n4 cL', .slice aK' n5 cK', .slice aV' n6 cV'] 26)) #[.int .i64 0, .int .i64 0, .string ⟨#[]⟩, .slice none 0 0, .slice none 0 0, .slice none 0 0, .int .i64 0])
  go_enter Tryd.func12, Tryd.ntmps12
  go_wp2_with fail
  have hb0 : Below w.heap.size w (((w.alloc (.cells #[.int .i64 6, .int .i64 h, .string t, .slice aL n1 cL, .slice aK n2 cK, .slice aV n3 cV] 26)).alloc (.cells #[.int .i64 6, .int .i64 h', .string t', .slice aL' n4 cL', .slice aK' n5 cK', .slice aV' n6 cV'] 26)).alloc (.cells #[.int .i64 0, .int .i64 0, .string ⟨#[]⟩, .slice none 0 0, .slice none 0 0, .slice none 0 0, .int .i64 0] 30)) := (below2 w _ _).alloc (by simp; omega) _
  refine (HX.out _ hb0).mono ?_
  rintro e w1 ⟨b1, rfl, hb1, hr1⟩
  have hB1 : Below w.heap.size w w1 := hb0.trans (hb1.mono hb0.size)
  have hs1 : w.heap.size + 3 ≤ w1.heap.size := by have := hb1.size; simp at this; omega
  have a0 : Cells w1 w.heap.size 26 #[.int .i64 6, .int .i64 h, .string t, .slice aL n1 cL, .slice aK n2 cK, .slice aV n3 cV] := (hb1.block _ (by simp; omega)).trans ((Below.heap_alloc _ _ _ (by simp; omega)).trans ((Below.heap_alloc _ _ _ (by simp)).trans HC0.out))
  have a1 : Cells w1 (w.heap.size + 1) 26 #[.int .i64 6, .int .i64 h', .string t', .slice aL' n4 cL', .slice aK' n5 cK', .slice aV' n6 cV'] := by
    have := HC1.out
    rw [World.size_alloc] at this
    exact (hb1.block _ (by simp)).trans ((Below.heap_alloc _ _ _ (by simp)).trans this)
  have a2 : ResAt w1 (w.heap.size + 1 + 1) #[.int .i64 0, .int .i64 0, .string ⟨#[]⟩, .slice none 0 0, .slice none 0 0, .slice none 0 0, .int .i64 0] := by
    have := HC2.out
    rw [World.size_alloc, World.size_alloc] at this
    exact (hb1.block _ (by simp)).trans this
  have c0 := a1.cell 0
  have c1 := a1.cell 1
  have c2 := a1.cell 2
  have c3 := a1.cell 3
  have c4 := a1.cell 4
  have c5 := a1.cell 5
  simp at c0 c1 c2 c3 c4 c5
  have HA0 := Lib.hid a0
  have HA1 := Lib.hid a1
  have HA2 := Lib.hid a2
  have HB1 := Lib.hid hB1
  have hr1' := hr1.more (S' := From w.heap.size) (fun b hb => by simp only [From] at hb ⊢; simp at hb; omega)
  have HR1 := Lib.hid hr1'
  clear a0 a1 a2 hB1 hr1 hr1' hb1 hb0 HC0 HC1 HC2 HX
  go_wp2_with fail
  refine (HY.out _ HB1.out).mono ?_
  rintro e w2 ⟨b2, rfl, hb2, hr2⟩
  have hs2 := hb2.size
  have hA0 := HA0.out.below hb2
  have hA1 := HA1.out.below hb2
  have hA2 := HA2.out.below hb2
  clear c0 c1 c2 c3 c4 c5
  have c0 := hA0.cell 0
  have d0 := hA1.cell 0
  simp at c0 d0
  have HA2' := Lib.hid hA2
  have HB2 := Lib.hid (HB1.out.trans (hb2.mono (by omega)))
  have HR1' := Lib.hid (HR1.out.below hb2)
  have HR2 := Lib.hid (hr2.more (S' := From w.heap.size) (fun b hb => by simp only [From] at hb ⊢; omega))
  clear hA0 hA1 hA2 HA0 HA1 HA2 HR1 HB1 hb2 hr2 HY
  go_wp2_with fail
  refine (zzMerge_any ks us ks' us' w2 (From w.heap.size) b1 b2 HP.out.2.1 HP.out.2.2 HR1'.out HR2.out).mono ?_
  rintro e w3 ⟨x3, rfl, hb3, hr3⟩
  have hr3' := hr3
  rw [HMM.out] at hr3'
  unfold Rep at hr3'
  obtain ⟨b3, _, _, rfl, _⟩ := hr3'
  have hs3 := hb3.size
  have HA3 := Lib.hid (HA2'.out.below hb3)
  have HB3 := Lib.hid (HB2.out.trans (hb3.mono (by omega)))
  have HR3 := Lib.hid hr3
  clear hr3 hb3 HA2' HB2 HR1' HR2 c0 d0
  go_wp2_with fail
  refine (result_map w3 b3 (meld (.map ks us) (.map ks' us')) (fun w' hb => fromGo_any _ _ _ w' _ (Nat.le_refl _) HP.out.1 HFI.out (HR3.out.below hb))).mono ?_
  rintro e w4 ⟨X, rfl, hb4, hin4, hbl4, hj4, hg4, hp4⟩
  have hR := HA3.out.below hb4
  have r0 := hR.cell 0
  have r1 := hR.cell 1
  have r2 := hR.cell 2
  have r3 := hR.cell 3
  have r4 := hR.cell 4
  have r5 := hR.cell 5
  have r6 := hR.cell 6
  have f0 := hR.frozen 0
  have f1 := hR.frozen 1
  have f2 := hR.frozen 2
  have f3 := hR.frozen 3
  have f4 := hR.frozen 4
  have f5 := hR.frozen 5
  have f6 := hR.frozen 6
  have hlt := hR.lt
  simp at r0 r1 r2 r3 r4 r5 r6
  have HF := Lib.hid (fun wf => res_close (g := w.heap.size + 1 + 1) (wf := wf) HB3.out (by omega) (by omega) hb4 hin4 hbl4 hj4 hg4 hp4)
  clear hb4 hin4 hbl4 hj4 hg4 hp4 hR HA3 HB3 HR3 HP HFI HMM
  generalize meld (.map ks us) (.map ks' us') = jm at *
  obtain ⟨xk, xh, xt, xaL, xcL, xl, xaK, xcK, xks, xaV, xcV, xvs⟩ := X
  simp only [V.cells] at HF ⊢
  generalize xl.length = ml at *
  generalize xks.length = mk at *
  generalize xvs.length = mv at *
  go_wp2_with fail
  refine bodyPost_ret (v := .agg #[.int .i64 xk, .int .i64 xh, .string xt, .slice xaL ml xcL, .slice xaK mk xcK, .slice xaV mv xcV, .int .i64 0]) (by simp [results, Tryd.results12, go_sem, r0, r1, r2, r3, r4, r5, r6]) rfl ?_
  refine HF.out _ ?_
  exact grown_seven _ _ _ _ _ _ _ _ _
end Go.Proofs.YtpigccnlembfdaaDoor
