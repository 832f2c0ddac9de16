/- The walks of laws.told where @sh has answered, and of laws.formatted. Conditions: as each theorem states. -/
import Derived.Test.YtpigccnlembfdaaGreatDoorFormat
import Derived.Test.YtpigccnlembfdaaGreatDoorImplSh
import Derived.Test.YtpigccnlembfdaaGreatDoorStage
namespace Go.Proofs.YtpigccnlembfdaaGreatDoor
open Go.RowKit Go.Deep

/-- A text as a result, and an error. -/
def okRes (t : ByteArray) : Value := .agg #[.int .i64 4, .int .i64 0, .string t, .slice none 0 0, .slice none 0 0, .slice none 0 0, .int .i64 0]
def errRes : Value := .agg #[.int .i64 0, .int .i64 0, .string ⟨#[]⟩, .slice none 0 0, .slice none 0 0, .slice none 0 0, .int .i64 1]
set_option maxRecDepth 100000 in
set_option maxHeartbeats 2000000 in
theorem told_ok (w : World) (t : ByteArray) : Calls Tryz.prog 25 #[.agg #[.int .i64 4, .int .i64 0, .string t, .slice none 0 0, .slice none 0 0, .slice none 0 0, .int .i64 0], .agg #[.int .i64 4, .int .i64 0, .string t, .slice none 0 0, .slice none 0 0, .slice none 0 0], .int .i64 0] w (Same0 w (.bool true)) := by
  have HB := Lib.hid (below2 w (.cells #[.int .i64 4, .int .i64 0, .string t, .slice none 0 0, .slice none 0 0, .slice none 0 0, .int .i64 0] 36) (.cells #[.int .i64 4, .int .i64 0, .string t, .slice none 0 0, .slice none 0 0, .slice none 0 0] 26))
  go_enter Tryz.func25, Tryz.ntmps25
  go_wp2_with fail
  refine (same_text _ t).mono ?_
  rintro e w2 ⟨rfl, hb2⟩
  have HB2 := Lib.hid (HB.out.trans (hb2.mono HB.out.size))
  clear hb2
  go_wp2_with fail
  go_ret
  exact ⟨rfl, HB2.out⟩
set_option maxRecDepth 100000 in
set_option maxHeartbeats 2000000 in
theorem told_err (w : World) (t : ByteArray) : Calls Tryz.prog 25 #[.agg #[.int .i64 0, .int .i64 0, .string ⟨#[]⟩, .slice none 0 0, .slice none 0 0, .slice none 0 0, .int .i64 1], .agg #[.int .i64 4, .int .i64 0, .string t, .slice none 0 0, .slice none 0 0, .slice none 0 0], .int .i64 1] w (Same0 w (.bool true)) := by
  have HB := Lib.hid (below2 w (.cells #[.int .i64 0, .int .i64 0, .string ⟨#[]⟩, .slice none 0 0, .slice none 0 0, .slice none 0 0, .int .i64 1] 36) (.cells #[.int .i64 4, .int .i64 0, .string t, .slice none 0 0, .slice none 0 0, .slice none 0 0] 26))
  go_enter Tryz.func25, Tryz.ntmps25
  go_wp2_with fail
  go_ret
  exact ⟨rfl, HB.out⟩
set_option maxRecDepth 100000 in
set_option maxHeartbeats 2000000 in
theorem told_silent (w : World) (t r : ByteArray) (k h : Int) : Calls Tryz.prog 25 #[.agg #[.int .i64 k, .int .i64 0, .string r, .slice none 0 0, .slice none 0 0, .slice none 0 0, .int .i64 h], .agg #[.int .i64 4, .int .i64 0, .string t, .slice none 0 0, .slice none 0 0, .slice none 0 0], .int .i64 2] w (Same0 w (.bool true)) := by
  have HB := Lib.hid (below2 w (.cells #[.int .i64 k, .int .i64 0, .string r, .slice none 0 0, .slice none 0 0, .slice none 0 0, .int .i64 h] 36) (.cells #[.int .i64 4, .int .i64 0, .string t, .slice none 0 0, .slice none 0 0, .slice none 0 0] 26))
  go_enter Tryz.func25, Tryz.ntmps25
  go_wp2_with fail
  go_ret
  exact ⟨rfl, HB.out⟩
set_option maxRecDepth 100000 in
set_option maxHeartbeats 4000000 in
theorem formatted_any (w : World) (x : V) (B : Nat) (hB : B ≤ w.heap.size) (h : ShIn x w B) (rk rh : Int) (rt : ByteArray)
    (hr : ((texts x.elems).2 = true ∧ rk = 4 ∧ rh = 0 ∧ rt = strL (Lib.join (texts x.elems).1 [32])) ∨ ((texts x.elems).2 = false ∧ rk = 0 ∧ rh = 1 ∧ rt = ⟨#[]⟩)) :
    Calls Tryz.prog 11 #[.agg #[.int .i64 rk, .int .i64 0, .string rt, .slice none 0 0, .slice none 0 0, .slice none 0 0, .int .i64 rh], .string ⟨#[115, 104]⟩, x.val] w (Same0 w (.bool true)) := by
  have HF := Lib.hid (fun w' (hb : Below w.heap.size w w') => format_any w' x B (by have := hb.size; omega) (h.below hb hB))
  have HC := Lib.hid (fun w' (hb : Below w.heap.size w w') => control_any _ x w' B (Nat.le_refl _) (h.inn.below hb hB) (by have := hb.size; omega) h.parts h.good)
  have HT : Hid (∀ (how : Int) (t : ByteArray), (((texts x.elems).2 = true ∧ t = strL (Lib.join (texts x.elems).1 [32]) ∧ how = 0) ∨ ((texts x.elems).2 = false ∧ t = ⟨#[]⟩ ∧ how = 1) ∨ how = 2) → ∀ w', Calls Tryz.prog 25 #[.agg #[.int .i64 rk, .int .i64 0, .string rt, .slice none 0 0, .slice none 0 0, .slice none 0 0, .int .i64 rh], .agg #[.int .i64 4, .int .i64 0, .string t, .slice none 0 0, .slice none 0 0, .slice none 0 0], .int .i64 how] w' (Same0 w' (.bool true))) := Lib.hid fun how t ht w' => by
    rcases ht with ⟨h1, rfl, rfl⟩ | ⟨h1, rfl, rfl⟩ | rfl
    · rcases hr with ⟨_, rfl, rfl, rfl⟩ | ⟨h2, _⟩
      · exact told_ok w' _
      · rw [h1] at h2; cases h2
    · rcases hr with ⟨h2, _⟩ | ⟨_, rfl, rfl, rfl⟩
      · rw [h1] at h2; cases h2
      · exact told_err w' _
    · exact told_silent w' t rt rk rh
  obtain ⟨TS, hTS⟩ : ∃ TS, TS = texts x.elems := ⟨_, rfl⟩
  unfold ShellPost at HF
  rw [← hTS] at HF HT
  clear h hr hTS
  obtain ⟨k, hh, t, aL, cL, l, aK, cK, ks, aV, cV, vs⟩ := x
  rw [V.val_mk] at HF HC ⊢
  obtain ⟨a, ha⟩ : ∃ a, a = Value.slice aL l.length cL := ⟨_, rfl⟩
  obtain ⟨b, hb⟩ : ∃ b, b = Value.slice aK ks.length cK := ⟨_, rfl⟩
  obtain ⟨c, hc⟩ : ∃ c, c = Value.slice aV vs.length cV := ⟨_, rfl⟩
  rw [← ha, ← hb, ← hc] at HF HC ⊢
  obtain ⟨W, hW⟩ : ∃ W, W = (w.alloc (.cells #[.int .i64 rk, .int .i64 0, .string rt, .slice none 0 0, .slice none 0 0, .slice none 0 0, .int .i64 rh] 36)).alloc (.cells #[.int .i64 k, .int .i64 hh, .string t, a, b, c] 26) := ⟨_, rfl⟩
  have HB : Hid (Below w.heap.size w W) := Lib.hid (by rw [hW]; exact below2 _ _ _)
  have HR : Hid (W.heap[w.heap.size]? = some (.cells #[.int .i64 rk, .int .i64 0, .string rt, .slice none 0 0, .slice none 0 0, .slice none 0 0, .int .i64 rh] 36 (0, 0))) := Lib.hid (by
    rw [hW, Lib.alloc_old _ _ _ (by simp)]; exact heap_alloc_new w _)
  have HV : Hid (W.heap[w.heap.size + 1]? = some (.cells #[.int .i64 k, .int .i64 hh, .string t, a, b, c] 26 (0, 0))) := Lib.hid (by
    have := heap_alloc_new (w.alloc (.cells #[.int .i64 rk, .int .i64 0, .string rt, .slice none 0 0, .slice none 0 0, .slice none 0 0, .int .i64 rh] 36)) (Obj.cells #[.int .i64 k, .int .i64 hh, .string t, a, b, c] 26)
    rw [World.size_alloc] at this
    rw [hW]; exact this)
  have HWW := Lib.hid hW
  clear ha hb hc hW
  go_enter Tryz.func11, Tryz.ntmps11
  go_wp2_with fail
  rw [← HWW.out]
  refine (HF.out _ HB.out).mono ?_
  rintro e w2 ⟨hb2, h2⟩
  obtain ⟨tt, how, he, hth⟩ : ∃ (tt : ByteArray) (how : Int), e = .returned (.tuple #[.string tt, .int .i64 how]) ∧ ((TS.2 = true ∧ tt = strL (Lib.join TS.1 [32]) ∧ how = 0) ∨ (TS.2 = false ∧ tt = ⟨#[]⟩ ∧ how = 1) ∨ how = 2) := by
    rcases h2 with ⟨h3, rfl⟩ | ⟨h3, rfl⟩ | ⟨s, rfl⟩
    · exact ⟨_, _, rfl, Or.inl ⟨h3, rfl, rfl⟩⟩
    · exact ⟨_, _, rfl, Or.inr (Or.inl ⟨h3, rfl, rfl⟩)⟩
    · exact ⟨_, _, rfl, Or.inr (Or.inr rfl)⟩
  subst he
  have HTO := Lib.hid (HT.out how tt hth)
  have HB2 := Lib.hid (HB.out.trans (hb2.mono HB.out.size))
  have HR2 := Lib.hid ((hb2.block _ (Array.getElem?_eq_some_iff.1 HR.out).1).trans HR.out)
  have HV2 := Lib.hid ((hb2.block _ (Array.getElem?_eq_some_iff.1 HV.out).1).trans HV.out)
  clear h2 hth hb2
  have x0 := cell_of_row w2 _ 0 _ _ _ HV2.out
  have x1 := cell_of_row w2 _ 1 _ _ _ HV2.out
  have x2 := cell_of_row w2 _ 2 _ _ _ HV2.out
  have x3 := cell_of_row w2 _ 3 _ _ _ HV2.out
  have x4 := cell_of_row w2 _ 4 _ _ _ HV2.out
  have x5 := cell_of_row w2 _ 5 _ _ _ HV2.out
  simp only [List.getElem?_toArray, List.getElem?_cons_zero, List.getElem?_cons_succ] at x0 x1 x2 x3 x4 x5
  have hxl := (Array.getElem?_eq_some_iff.1 HV2.out).1
  by_cases hk4 : k = 4
  · subst hk4
    go_wp2_with fail
    clear x0 x1 x2 x3 x4 x5
    refine wp_region_S (Sf := Till 6 (fun W => W.heap[w.heap.size]? = some (.cells #[.int .i64 rk, .int .i64 0, .string rt, .slice none 0 0, .slice none 0 0, .slice none 0 0, .int .i64 rh] 36 (0, 0))) (fun _ => True)) (by kernel_rfl) ?_
    have hrd : w2.drew.heap[w.heap.size]? = some (.cells #[.int .i64 rk, .int .i64 0, .string rt, .slice none 0 0, .slice none 0 0, .slice none 0 0, .int .i64 rh] 36 (0, 0)) := HR2.out
    have HBD := Lib.hid (show Below w.heap.size w w2.drew from HB2.out.drew)
    generalize w2.drew = wd at *
    refine till_take_R (i := 0) 34 (.agg #[.int .i64 rk, .int .i64 0, .string rt, .slice none 0 0, .slice none 0 0, .slice none 0 0, .int .i64 rh]) rfl rfl (by kernel_rfl) (by kernel_rfl) (by kernel_rfl) (by decide) (fun _ _ _ h => h) (Or.inl ⟨by rfl, ?_⟩) ⟨hrd, fun _ => trivial⟩ ?_
    · intro W hW
      have y0 := cell_of_row W _ 0 _ _ _ hW
      have y1 := cell_of_row W _ 1 _ _ _ hW
      have y2 := cell_of_row W _ 2 _ _ _ hW
      have y3 := cell_of_row W _ 3 _ _ _ hW
      have y4 := cell_of_row W _ 4 _ _ _ hW
      have y5 := cell_of_row W _ 5 _ _ _ hW
      have y6 := cell_of_row W _ 6 _ _ _ hW
      simp only [List.getElem?_toArray, List.getElem?_cons_zero, List.getElem?_cons_succ] at y0 y1 y2 y3 y4 y5 y6
      have yl := (Array.getElem?_eq_some_iff.1 hW).1
      clear hW
      go_simp
    simp only [Act.put, List.setIfInBounds_toArray, List.set_cons_zero, List.set_cons_succ]
    refine till_take_R (i := 1) 35 (.string tt) rfl rfl (by kernel_rfl) (by kernel_rfl) (by kernel_rfl) (by decide) (fun _ _ _ h => h) (Or.inl ⟨by rfl, ?_⟩) ⟨hrd, fun _ => trivial⟩ ?_
    · intro W hW
      go_simp
    simp only [Act.put, List.setIfInBounds_toArray, List.set_cons_zero, List.set_cons_succ]
    refine till_take_R (i := 3) 37 (.int .i64 how) rfl rfl (by kernel_rfl) (by kernel_rfl) (by kernel_rfl) (by decide) (fun _ _ _ h => h) (Or.inl ⟨by rfl, ?_⟩) ⟨hrd, fun _ => trivial⟩ ?_
    · intro W hW
      go_simp
    simp only [Act.put, List.setIfInBounds_toArray, List.set_cons_zero, List.set_cons_succ]
    refine anyS_ready (rs := [2]) (by kernel_rfl) (by simp) ?_
    refine AllS.cons rfl (fun K hK => ?_) AllS.nil
    go_simp
    refine (str_mk _ _).mono ?_
    rintro e w4 ⟨rfl, hb4⟩
    have hr4 := (hb4.block _ (Array.getElem?_eq_some_iff.1 hrd).1).trans hrd
    have HB4 := Lib.hid (HBD.out.trans (hb4.mono HBD.out.size))
    refine hK.out _ _ ⟨hr4, fun _ => trivial⟩ ?_
    clear hK K hb4 hrd
    refine anyS_ready (rs := [4]) (by kernel_rfl) (by simp) ?_
    refine AllS.cons rfl (fun K hK => ?_) AllS.nil
    go_simp
    refine (HTO.out _).mono ?_
    rintro e w5 ⟨rfl, hb5⟩
    have hr5 := (hb5.block _ (Array.getElem?_eq_some_iff.1 hr4).1).trans hr4
    have HB5 := Lib.hid (HB4.out.trans (hb5.mono HB4.out.size))
    refine hK.out _ _ ⟨hr5, fun _ => trivial⟩ ?_
    clear hK K hb5 hr4
    refine anyS_ready (rs := [5]) (by kernel_rfl) (by simp) ?_
    refine AllS.cons rfl (fun K hK => ?_) AllS.nil
    go_simp
    refine hK.out _ _ ⟨hr5, fun _ => trivial⟩ ?_
    clear hK K hr5
    refine anyS_done (by kernel_rfl) ?_ _
    go_wp2_with fail
    go_ret
    exact ⟨rfl, HB5.out⟩
  · have hkb : (k != 4) = true := by rw [bne_iff_ne]; exact hk4
    have HCC := Lib.hid (HC.out w2 HB2.out)
    clear hk4
    go_wp2_with fail
    refine HCC.out.mono ?_
    rintro e w3 ⟨bb, rfl, hb3⟩
    have HB3 := Lib.hid (HB2.out.trans (hb3.mono HB2.out.size))
    have HR3 := Lib.hid ((hb3.block _ (Array.getElem?_eq_some_iff.1 HR2.out).1).trans HR2.out)
    clear hb3
    cases bb with
    | true =>
      go_wp2_with fail
      clear x0 x1 x2 x3 x4 x5
      refine wp_region_S (Sf := Till 6 (fun W => W.heap[w.heap.size]? = some (.cells #[.int .i64 rk, .int .i64 0, .string rt, .slice none 0 0, .slice none 0 0, .slice none 0 0, .int .i64 rh] 36 (0, 0))) (fun _ => True)) (by kernel_rfl) ?_
      have hrd : w3.drew.heap[w.heap.size]? = some (.cells #[.int .i64 rk, .int .i64 0, .string rt, .slice none 0 0, .slice none 0 0, .slice none 0 0, .int .i64 rh] 36 (0, 0)) := HR3.out
      have HBD := Lib.hid (show Below w.heap.size w w3.drew from HB3.out.drew)
      generalize w3.drew = wd at *
      refine till_take_R (i := 0) 34 (.agg #[.int .i64 rk, .int .i64 0, .string rt, .slice none 0 0, .slice none 0 0, .slice none 0 0, .int .i64 rh]) rfl rfl (by kernel_rfl) (by kernel_rfl) (by kernel_rfl) (by decide) (fun _ _ _ h => h) (Or.inl ⟨by rfl, ?_⟩) ⟨hrd, fun _ => trivial⟩ ?_
      · intro W hW
        have y0 := cell_of_row W _ 0 _ _ _ hW
        have y1 := cell_of_row W _ 1 _ _ _ hW
        have y2 := cell_of_row W _ 2 _ _ _ hW
        have y3 := cell_of_row W _ 3 _ _ _ hW
        have y4 := cell_of_row W _ 4 _ _ _ hW
        have y5 := cell_of_row W _ 5 _ _ _ hW
        have y6 := cell_of_row W _ 6 _ _ _ hW
        simp only [List.getElem?_toArray, List.getElem?_cons_zero, List.getElem?_cons_succ] at y0 y1 y2 y3 y4 y5 y6
        have yl := (Array.getElem?_eq_some_iff.1 hW).1
        clear hW
        go_simp
      simp only [Act.put, List.setIfInBounds_toArray, List.set_cons_zero, List.set_cons_succ]
      refine till_take_R (i := 1) 35 (.string tt) rfl rfl (by kernel_rfl) (by kernel_rfl) (by kernel_rfl) (by decide) (fun _ _ _ h => h) (Or.inl ⟨by rfl, ?_⟩) ⟨hrd, fun _ => trivial⟩ ?_
      · intro W hW
        go_simp
      simp only [Act.put, List.setIfInBounds_toArray, List.set_cons_zero, List.set_cons_succ]
      refine till_take_R (i := 3) 37 (.int .i64 how) rfl rfl (by kernel_rfl) (by kernel_rfl) (by kernel_rfl) (by decide) (fun _ _ _ h => h) (Or.inl ⟨by rfl, ?_⟩) ⟨hrd, fun _ => trivial⟩ ?_
      · intro W hW
        go_simp
      simp only [Act.put, List.setIfInBounds_toArray, List.set_cons_zero, List.set_cons_succ]
      refine anyS_ready (rs := [2]) (by kernel_rfl) (by simp) ?_
      refine AllS.cons rfl (fun K hK => ?_) AllS.nil
      go_simp
      refine (str_mk _ _).mono ?_
      rintro e w4 ⟨rfl, hb4⟩
      have hr4 := (hb4.block _ (Array.getElem?_eq_some_iff.1 hrd).1).trans hrd
      have HB4 := Lib.hid (HBD.out.trans (hb4.mono HBD.out.size))
      refine hK.out _ _ ⟨hr4, fun _ => trivial⟩ ?_
      clear hK K hb4 hrd
      refine anyS_ready (rs := [4]) (by kernel_rfl) (by simp) ?_
      refine AllS.cons rfl (fun K hK => ?_) AllS.nil
      go_simp
      refine (HTO.out _).mono ?_
      rintro e w5 ⟨rfl, hb5⟩
      have hr5 := (hb5.block _ (Array.getElem?_eq_some_iff.1 hr4).1).trans hr4
      have HB5 := Lib.hid (HB4.out.trans (hb5.mono HB4.out.size))
      refine hK.out _ _ ⟨hr5, fun _ => trivial⟩ ?_
      clear hK K hb5 hr4
      refine anyS_ready (rs := [5]) (by kernel_rfl) (by simp) ?_
      refine AllS.cons rfl (fun K hK => ?_) AllS.nil
      go_simp
      refine hK.out _ _ ⟨hr5, fun _ => trivial⟩ ?_
      clear hK K hr5
      refine anyS_done (by kernel_rfl) ?_ _
      go_wp2_with fail
      go_ret
      exact ⟨rfl, HB5.out⟩
    | false =>
      go_wp2_with fail
      clear x0 x1 x2 x3 x4 x5
      refine wp_region_S (Sf := Till 6 (fun W => W.heap[w.heap.size]? = some (.cells #[.int .i64 rk, .int .i64 0, .string rt, .slice none 0 0, .slice none 0 0, .slice none 0 0, .int .i64 rh] 36 (0, 0))) (fun _ => True)) (by kernel_rfl) ?_
      have hrd : w3.drew.heap[w.heap.size]? = some (.cells #[.int .i64 rk, .int .i64 0, .string rt, .slice none 0 0, .slice none 0 0, .slice none 0 0, .int .i64 rh] 36 (0, 0)) := HR3.out
      have HBD := Lib.hid (show Below w.heap.size w w3.drew from HB3.out.drew)
      generalize w3.drew = wd at *
      refine till_take_R (i := 0) 34 (.agg #[.int .i64 rk, .int .i64 0, .string rt, .slice none 0 0, .slice none 0 0, .slice none 0 0, .int .i64 rh]) rfl rfl (by kernel_rfl) (by kernel_rfl) (by kernel_rfl) (by decide) (fun _ _ _ h => h) (Or.inl ⟨by rfl, ?_⟩) ⟨hrd, fun _ => trivial⟩ ?_
      · intro W hW
        have y0 := cell_of_row W _ 0 _ _ _ hW
        have y1 := cell_of_row W _ 1 _ _ _ hW
        have y2 := cell_of_row W _ 2 _ _ _ hW
        have y3 := cell_of_row W _ 3 _ _ _ hW
        have y4 := cell_of_row W _ 4 _ _ _ hW
        have y5 := cell_of_row W _ 5 _ _ _ hW
        have y6 := cell_of_row W _ 6 _ _ _ hW
        simp only [List.getElem?_toArray, List.getElem?_cons_zero, List.getElem?_cons_succ] at y0 y1 y2 y3 y4 y5 y6
        have yl := (Array.getElem?_eq_some_iff.1 hW).1
        clear hW
        go_simp
      simp only [Act.put, List.setIfInBounds_toArray, List.set_cons_zero, List.set_cons_succ]
      refine till_take_R (i := 1) 35 (.string tt) rfl rfl (by kernel_rfl) (by kernel_rfl) (by kernel_rfl) (by decide) (fun _ _ _ h => h) (Or.inl ⟨by rfl, ?_⟩) ⟨hrd, fun _ => trivial⟩ ?_
      · intro W hW
        go_simp
      simp only [Act.put, List.setIfInBounds_toArray, List.set_cons_zero, List.set_cons_succ]
      refine till_take_R (i := 3) 37 (.int .i64 how) rfl rfl (by kernel_rfl) (by kernel_rfl) (by kernel_rfl) (by decide) (fun _ _ _ h => h) (Or.inl ⟨by rfl, ?_⟩) ⟨hrd, fun _ => trivial⟩ ?_
      · intro W hW
        go_simp
      simp only [Act.put, List.setIfInBounds_toArray, List.set_cons_zero, List.set_cons_succ]
      refine anyS_ready (rs := [2]) (by kernel_rfl) (by simp) ?_
      refine AllS.cons rfl (fun K hK => ?_) AllS.nil
      go_simp
      refine (str_mk _ _).mono ?_
      rintro e w4 ⟨rfl, hb4⟩
      have hr4 := (hb4.block _ (Array.getElem?_eq_some_iff.1 hrd).1).trans hrd
      have HB4 := Lib.hid (HBD.out.trans (hb4.mono HBD.out.size))
      refine hK.out _ _ ⟨hr4, fun _ => trivial⟩ ?_
      clear hK K hb4 hrd
      refine anyS_ready (rs := [4]) (by kernel_rfl) (by simp) ?_
      refine AllS.cons rfl (fun K hK => ?_) AllS.nil
      go_simp
      refine (HTO.out _).mono ?_
      rintro e w5 ⟨rfl, hb5⟩
      have hr5 := (hb5.block _ (Array.getElem?_eq_some_iff.1 hr4).1).trans hr4
      have HB5 := Lib.hid (HB4.out.trans (hb5.mono HB4.out.size))
      refine hK.out _ _ ⟨hr5, fun _ => trivial⟩ ?_
      clear hK K hb5 hr4
      refine anyS_ready (rs := [5]) (by kernel_rfl) (by simp) ?_
      refine AllS.cons rfl (fun K hK => ?_) AllS.nil
      go_simp
      refine hK.out _ _ ⟨hr5, fun _ => trivial⟩ ?_
      clear hK K hr5
      refine anyS_done (by kernel_rfl) ?_ _
      go_wp2_with fail
      go_ret
      exact ⟨rfl, HB5.out⟩
end Go.Proofs.YtpigccnlembfdaaGreatDoor
