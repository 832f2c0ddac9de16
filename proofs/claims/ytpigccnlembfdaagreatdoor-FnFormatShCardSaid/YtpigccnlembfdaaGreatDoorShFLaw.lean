/- The whole walk of FnFormatSh: it returns true at any value. Conditions: the two tables of package utf8 lie where they lie. -/
import Derived.Test.YtpigccnlembfdaaGreatDoorTold
import Derived.Test.YtpigccnlembfdaaGreatDoorFine
namespace Go.Proofs.YtpigccnlembfdaaGreatDoor
open Go.RowKit Go.Deep

theorem sizes_pos : ∀ ks : List ByteArray, 0 ≤ sizes ks
  | [] => by simp [sizes]
  | s :: r => by have := sizes_pos r; simp only [sizes]; omega
mutual
theorem bytes_pos : ∀ x : V, 0 ≤ x.bytes
  | .mk k h t aL cL l aK cK ks aV cV vs => by
    have h1 := bytes_posAll l
    have h2 := bytes_posAll vs
    have h3 := sizes_pos ks
    simp only [V.bytes]; omega
theorem bytes_posAll : ∀ l : List V, 0 ≤ bytesAll l
  | [] => by simp [bytesAll]
  | x :: r => by
    have h1 := bytes_pos x
    have h2 := bytes_posAll r
    simp only [bytesAll]; omega
end
theorem bytes_mem : ∀ {l : List V} {y : V}, y ∈ l → y.bytes ≤ bytesAll l
  | x :: r, y, hy => by
    have h1 := bytes_pos x
    have h2 := bytes_posAll r
    simp only [bytesAll]
    rcases List.mem_cons.1 hy with rfl | hy
    · omega
    · have := bytes_mem hy; omega
theorem bytes_list (x y : V) (hy : y ∈ x.list) : y.bytes ≤ x.bytes := by
  obtain ⟨k, h, t, aL, cL, l, aK, cK, ks, aV, cV, vs⟩ := x
  have h1 := bytes_mem (l := l) hy
  have h2 := bytes_posAll vs
  have h3 := sizes_pos ks
  simp only [V.bytes]; omega
theorem text_small (x : V) (hb : x.bytes ≤ 2000) : x.text.size ≤ 1000000 := by
  obtain ⟨k, h, t, aL, cL, l, aK, cK, ks, aV, cV, vs⟩ := x
  have h1 := bytes_posAll l
  have h2 := bytes_posAll vs
  have h3 := sizes_pos ks
  simp only [V.bytes] at hb
  simp only [V.text]; omega
set_option maxRecDepth 100000 in
set_option maxHeartbeats 4000000 in
theorem shf_any {Tabs : World → Prop} (hV : ValidSaid Tabs) {N : Nat} (hTk : ∀ w w' : World, ∀ g, N ≤ g → Tabs w → w.grownBy w' (some g) → Tabs w') (x : V) (w : World) (hin : x.In w w.heap.size) (hNw : N ≤ w.heap.size) (hT : Tabs w) :
    Calls Tryz.prog 4 #[x.val] w (Same0 w (.bool true)) := by
  have hZ : ∀ w', Below w.heap.size w w' → Calls Tryz.prog 6 #[x.val] w' (SaysBelow w') := fun w' hb => fits1_any w' w.heap.size x (hin.below hb (Nat.le_refl _)) hb.size
  have hTb : ∀ w', Below w.heap.size w w' → Tabs w' := fun w' hb => hTk w w' w.heap.size hNw hT (grown_below hb _)
  have hFi : ∀ w' c ad, Below w.heap.size w w' → (∀ (j : Nat) (u : Value), x.cells[j]? = some u → w'.cell? (ad.add j) = some u) → Calls Tryz.prog 10 #[.slice (some ad) 1 c] w' (FinePost x w') :=
    fun w' c ad hb hr => fine_any hV hTk x w' w.heap.size c ad (hin.below hb (Nat.le_refl _)) hb.size (by have := hb.size; omega) hr (hTb w' hb)
  have hSI : x.Good → x.parts ≤ 400 → x.bytes ≤ 2000 → ∀ w', Below w.heap.size w w' → ShIn x w' w.heap.size := fun h1 h2 h3 w' hb => ⟨hin.below hb (Nat.le_refl _), h1, by omega, (text_small x h3), fun y hy => text_small y (by have := bytes_list x y hy; omega)⟩
  have hI : x.Good → x.parts ≤ 400 → x.bytes ≤ 2000 → ∀ w', Below w.heap.size w w' → Calls Tryz.prog 12 #[x.val] w' (ShPost x w') := fun h1 h2 h3 w' hb =>
    formatSh_gen x w' w.heap.size hb.size (hin.below hb (Nat.le_refl _)) h1 (by omega) (hSI h1 h2 h3 w' hb).text (hSI h1 h2 h3 w' hb).texts
  have hD : x.Good → x.parts ≤ 400 → x.bytes ≤ 2000 → ∀ w', Below w.heap.size w w' → ∀ rk rh rt, (((texts x.elems).2 = true ∧ rk = 4 ∧ rh = 0 ∧ rt = strL (Lib.join (texts x.elems).1 [32])) ∨ ((texts x.elems).2 = false ∧ rk = 0 ∧ rh = 1 ∧ rt = ⟨#[]⟩)) → Calls Tryz.prog 11 #[.agg #[.int .i64 rk, .int .i64 0, .string rt, .slice none 0 0, .slice none 0 0, .slice none 0 0, .int .i64 rh], .string ⟨#[115, 104]⟩, x.val] w' (Same0 w' (.bool true)) := fun h1 h2 h3 w' hb rk rh rt hr =>
    formatted_any w' x w.heap.size hb.size (hSI h1 h2 h3 w' hb) rk rh rt hr
  obtain ⟨TS, hTS⟩ : ∃ TS, TS = texts x.elems := ⟨_, rfl⟩
  unfold ShPost at hI
  rw [← hTS] at hI hD
  have HFI : Hid (∀ w' c ad, Below w.heap.size w w' → (∀ (j : Nat) (u : Value), x.cells[j]? = some u → w'.cell? (ad.add j) = some u) → Calls Tryz.prog 10 #[.slice (some ad) 1 c] w' (fun e w'' => ∃ b, e = .returned (.bool b) ∧ Below w'.heap.size w' w'' ∧ (b = true → x.Good ∧ x.parts ≤ 400 ∧ x.bytes ≤ 2000))) := Lib.hid fun w' c ad hb hr => (hFi w' c ad hb hr).mono fun e w'' ⟨b, h1, h2, h3⟩ => ⟨b, h1, h2, fun h => ⟨(h3 h).1, (h3 h).2.1, (h3 h).2.2.1⟩⟩
  clear hSI hTb hTS hT hTk hV hin hNw hFi
  obtain ⟨G, hG⟩ : ∃ G, G = (x.Good ∧ x.parts ≤ 400 ∧ x.bytes ≤ 2000) := ⟨_, rfl⟩
  rw [← hG] at HFI
  have HI : Hid (G → ∀ w', Below w.heap.size w w' → Calls Tryz.prog 12 #[x.val] w' (fun e w'' => Below w'.heap.size w' w'' ∧ ∃ (rk rh : Int) (rt : ByteArray), e = .returned (.agg #[.int .i64 rk, .int .i64 0, .string rt, .slice none 0 0, .slice none 0 0, .slice none 0 0, .int .i64 rh]) ∧ ∀ w3, Below w.heap.size w w3 → Calls Tryz.prog 11 #[.agg #[.int .i64 rk, .int .i64 0, .string rt, .slice none 0 0, .slice none 0 0, .slice none 0 0, .int .i64 rh], .string ⟨#[115, 104]⟩, x.val] w3 (Same0 w3 (.bool true)))) := Lib.hid fun hg w' hb => by
    rw [hG] at hg
    obtain ⟨g1, g2, g3⟩ := hg
    refine (hI g1 g2 g3 w' hb).mono fun e w'' ⟨h1, h2⟩ => ⟨h1, ?_⟩
    rcases h2 with ⟨h3, rfl⟩ | ⟨h3, rfl⟩
    · exact ⟨_, _, _, rfl, fun w3 hb3 => hD g1 g2 g3 w3 hb3 _ _ _ (Or.inl ⟨h3, rfl, rfl, rfl⟩)⟩
    · exact ⟨_, _, _, rfl, fun w3 hb3 => hD g1 g2 g3 w3 hb3 _ _ _ (Or.inr ⟨h3, rfl, rfl, rfl⟩)⟩
  clear hI hD hG
  obtain ⟨k, h, t, aL, cL, l, aK, cK, ks, aV, cV, vs⟩ := x
  have HCL : Hid ((V.mk k h t aL cL l aK cK ks aV cV vs).cells = [.int .i64 k, .int .i64 h, .string t, .slice aL l.length cL, .slice aK ks.length cK, .slice aV vs.length cV]) := Lib.hid rfl
  rw [HCL.out] at HFI
  rw [V.val_mk] at hZ HI ⊢
  have HZ := Lib.hid hZ
  clear hZ HCL
  generalize l.length = n1 at *
  generalize ks.length = n2 at *
  generalize vs.length = n3 at *
  have HB0 := Lib.hid (below1 w (.cells #[.int .i64 k, .int .i64 h, .string t, .slice aL n1 cL, .slice aK n2 cK, .slice aV n3 cV] 26))
  have HC0 := Lib.hid (heap_alloc_new w (.cells #[.int .i64 k, .int .i64 h, .string t, .slice aL n1 cL, .slice aK n2 cK, .slice aV n3 cV] 26))
  go_enter Tryz.func4, Tryz.ntmps4
  go_wp2_with fail
  refine (HZ.out _ HB0.out).mono ?_
  rintro e w1 ⟨b1, rfl, hb1⟩
  have HB1 := Lib.hid (HB0.out.trans (hb1.mono (by simp)))
  have HC1 := Lib.hid ((hb1.block _ (by simp)).trans HC0.out)
  clear hb1
  cases b1 with
  | false =>
    go_wp2_with fail
    go_ret
    exact ⟨rfl, HB1.out⟩
  | true =>
    go_wp2_with fail
    refine wp_region_S (Sf := Till 11 (fun W => W.heap[w.heap.size]? = some (.cells #[.int .i64 k, .int .i64 h, .string t, .slice aL n1 cL, .slice aK n2 cK, .slice aV n3 cV] 26 (0, 0))) (fun _ => True)) (by kernel_rfl) ?_
    have hrd : w1.drew.heap[w.heap.size]? = some (.cells #[.int .i64 k, .int .i64 h, .string t, .slice aL n1 cL, .slice aK n2 cK, .slice aV n3 cV] 26 (0, 0)) := HC1.out
    have HBD := Lib.hid (show Below w.heap.size w w1.drew from HB1.out.drew)
    generalize w1.drew = wd at *
    refine till_take_R (i := 0) 6 (.agg #[.int .i64 k, .int .i64 h, .string t, .slice aL n1 cL, .slice aK n2 cK, .slice aV n3 cV]) rfl rfl (by kernel_rfl) (by kernel_rfl) (by kernel_rfl) (by decide) (fun _ _ _ h => h) (Or.inl ⟨by rfl, ?_⟩) ⟨hrd, fun _ => trivial⟩ ?_
    · intro W hW
      have y0 := cell_of_row W _ 0 _ _ _ hW
      have y1 := cell_of_row W _ 1 _ _ _ hW
      have y2 := cell_of_row W _ 2 _ _ _ hW
      have y3 := cell_of_row W _ 3 _ _ _ hW
      have y4 := cell_of_row W _ 4 _ _ _ hW
      have y5 := cell_of_row W _ 5 _ _ _ hW
      simp only [List.getElem?_toArray, List.getElem?_cons_zero, List.getElem?_cons_succ] at y0 y1 y2 y3 y4 y5
      have yl := (Array.getElem?_eq_some_iff.1 hW).1
      clear hW
      go_simp
    simp only [Act.put, List.setIfInBounds_toArray, List.set_cons_zero, List.set_cons_succ]
    refine anyS_ready (rs := [1]) (by kernel_rfl) (by simp) ?_
    refine AllS.cons rfl (fun K hK => ?_) AllS.nil
    go_simp
    have hnew := heap_alloc_new wd (.cells #[.int .i64 k, .int .i64 h, .string t, .slice aL n1 cL, .slice aK n2 cK, .slice aV n3 cV] 26)
    have hrn : (wd.alloc (.cells #[.int .i64 k, .int .i64 h, .string t, .slice aL n1 cL, .slice aK n2 cK, .slice aV n3 cV] 26)).heap[w.heap.size]? = some (.cells #[.int .i64 k, .int .i64 h, .string t, .slice aL n1 cL, .slice aK n2 cK, .slice aV n3 cV] 26 (0, 0)) := (Lib.alloc_old _ _ _ (Array.getElem?_eq_some_iff.1 hrd).1).trans hrd
    have HBN := Lib.hid (HBD.out.alloc HBD.out.size (.cells #[.int .i64 k, .int .i64 h, .string t, .slice aL n1 cL, .slice aK n2 cK, .slice aV n3 cV] 26))
    have HFN := Lib.hid (HFI.out (wd.alloc (.cells #[.int .i64 k, .int .i64 h, .string t, .slice aL n1 cL, .slice aK n2 cK, .slice aV n3 cV] 26)) 1 ⟨wd.heap.size, 0, none⟩ HBN.out (fun j u hj => by
      rw [show (⟨wd.heap.size, 0, none⟩ : Addr).add j = ⟨wd.heap.size, j, none⟩ by unfold Addr.add; split <;> simp_all, cell_of_row _ wd.heap.size j _ _ _ hnew]
      simpa using hj))
    refine hK.out _ _ ⟨hrn, fun _ => trivial⟩ ?_
    clear hK K hnew hrd
    generalize wd.alloc (.cells #[.int .i64 k, .int .i64 h, .string t, .slice aL n1 cL, .slice aK n2 cK, .slice aV n3 cV] 26) = we at *
    refine anyS_ready (rs := [2]) (by kernel_rfl) (by simp) ?_
    refine AllS.cons rfl (fun K hK => ?_) AllS.nil
    go_simp
    refine HFN.out.mono ?_
    rintro e w2 ⟨b2, rfl, hb2, hg2⟩
    have hr2 := (hb2.block _ (Array.getElem?_eq_some_iff.1 hrn).1).trans hrn
    have HB2 := Lib.hid (HBN.out.trans (hb2.mono HBN.out.size))
    refine hK.out _ _ ⟨hr2, fun _ => trivial⟩ ?_
    clear hK K hb2 hrn
    refine anyS_ready (rs := [3]) (by kernel_rfl) (by simp) ?_
    refine AllS.cons rfl (fun K hK => ?_) AllS.nil
    go_simp
    refine hK.out _ _ ⟨hr2, fun _ => trivial⟩ ?_
    clear hK K
    refine anyS_ready (rs := [4]) (by kernel_rfl) (by simp) ?_
    refine AllS.cons rfl (fun K hK => ?_) AllS.nil
    go_simp
    refine hK.out _ _ ⟨hr2, fun _ => trivial⟩ ?_
    clear hK K
    cases b2 with
    | false =>
      clear hg2
      refine till_take_R (i := 5) 11 (undef) rfl rfl (by kernel_rfl) (by kernel_rfl) (by kernel_rfl) (by decide) (fun _ _ _ h => h) (Or.inr ⟨by rfl, rfl⟩) ⟨hr2, fun _ => trivial⟩ ?_
      simp only [Act.put, List.setIfInBounds_toArray, List.set_cons_zero, List.set_cons_succ]
      refine till_take_R (i := 7) 13 (undef) rfl rfl (by kernel_rfl) (by kernel_rfl) (by kernel_rfl) (by decide) (fun _ _ _ h => h) (Or.inr ⟨by rfl, rfl⟩) ⟨hr2, fun _ => trivial⟩ ?_
      simp only [Act.put, List.setIfInBounds_toArray, List.set_cons_zero, List.set_cons_succ]
      refine anyS_ready (rs := [6]) (by kernel_rfl) (by simp) ?_
      refine AllS.cons rfl (fun K hK => ?_) AllS.nil
      go_simp
      refine hK.out _ _ ⟨hr2, fun _ => trivial⟩ ?_
      clear hK K
      refine anyS_ready (rs := [8]) (by kernel_rfl) (by simp) ?_
      refine AllS.cons rfl (fun K hK => ?_) AllS.nil
      go_simp
      refine hK.out _ _ ⟨hr2, fun _ => trivial⟩ ?_
      clear hK K
      refine anyS_ready (rs := [9]) (by kernel_rfl) (by simp) ?_
      refine AllS.cons rfl (fun K hK => ?_) AllS.nil
      go_simp
      refine hK.out _ _ ⟨hr2, fun _ => trivial⟩ ?_
      clear hK K
      refine anyS_ready (rs := [10]) (by kernel_rfl) (by simp) ?_
      refine AllS.cons rfl (fun K hK => ?_) AllS.nil
      go_simp
      refine hK.out _ _ ⟨hr2, fun _ => trivial⟩ ?_
      clear hK K
      refine anyS_done (by kernel_rfl) ?_ _
      go_wp2_with fail
      go_ret
      exact ⟨rfl, HB2.out⟩
    | true =>
      have HG2 := Lib.hid (hg2 rfl)
      clear hg2
      refine till_take_R (i := 5) 11 (.agg #[.int .i64 k, .int .i64 h, .string t, .slice aL n1 cL, .slice aK n2 cK, .slice aV n3 cV]) rfl rfl (by kernel_rfl) (by kernel_rfl) (by kernel_rfl) (by decide) (fun _ _ _ h => h) (Or.inl ⟨by rfl, ?_⟩) ⟨hr2, fun _ => trivial⟩ ?_
      · intro W hW
        have y0 := cell_of_row W _ 0 _ _ _ hW
        have y1 := cell_of_row W _ 1 _ _ _ hW
        have y2 := cell_of_row W _ 2 _ _ _ hW
        have y3 := cell_of_row W _ 3 _ _ _ hW
        have y4 := cell_of_row W _ 4 _ _ _ hW
        have y5 := cell_of_row W _ 5 _ _ _ hW
        simp only [List.getElem?_toArray, List.getElem?_cons_zero, List.getElem?_cons_succ] at y0 y1 y2 y3 y4 y5
        have yl := (Array.getElem?_eq_some_iff.1 hW).1
        clear hW
        go_simp
      simp only [Act.put, List.setIfInBounds_toArray, List.set_cons_zero, List.set_cons_succ]
      refine till_take_R (i := 7) 13 (.agg #[.int .i64 k, .int .i64 h, .string t, .slice aL n1 cL, .slice aK n2 cK, .slice aV n3 cV]) rfl rfl (by kernel_rfl) (by kernel_rfl) (by kernel_rfl) (by decide) (fun _ _ _ h => h) (Or.inl ⟨by rfl, ?_⟩) ⟨hr2, fun _ => trivial⟩ ?_
      · intro W hW
        have y0 := cell_of_row W _ 0 _ _ _ hW
        have y1 := cell_of_row W _ 1 _ _ _ hW
        have y2 := cell_of_row W _ 2 _ _ _ hW
        have y3 := cell_of_row W _ 3 _ _ _ hW
        have y4 := cell_of_row W _ 4 _ _ _ hW
        have y5 := cell_of_row W _ 5 _ _ _ hW
        simp only [List.getElem?_toArray, List.getElem?_cons_zero, List.getElem?_cons_succ] at y0 y1 y2 y3 y4 y5
        have yl := (Array.getElem?_eq_some_iff.1 hW).1
        clear hW
        go_simp
      simp only [Act.put, List.setIfInBounds_toArray, List.set_cons_zero, List.set_cons_succ]
      refine anyS_ready (rs := [6]) (by kernel_rfl) (by simp) ?_
      refine AllS.cons rfl (fun K hK => ?_) AllS.nil
      go_simp
      refine (HI.out HG2.out _ HB2.out).mono ?_
      rintro e w3 ⟨hb3, rk, rh, rt, rfl, hfo⟩
      have HB3 := Lib.hid (HB2.out.trans (hb3.mono HB2.out.size))
      have hr3 := (hb3.block _ (Array.getElem?_eq_some_iff.1 hr2).1).trans hr2
      have HFO := Lib.hid (hfo w3 HB3.out)
      refine hK.out _ _ ⟨hr3, fun _ => trivial⟩ ?_
      clear hK K hr2 hb3 hfo
      refine anyS_ready (rs := [8]) (by kernel_rfl) (by simp) ?_
      refine AllS.cons rfl (fun K hK => ?_) AllS.nil
      go_simp
      refine HFO.out.mono ?_
      rintro e w4 ⟨rfl, hb4⟩
      have HB4 := Lib.hid (HB3.out.trans (hb4.mono HB3.out.size))
      have hr2 := (hb4.block _ (Array.getElem?_eq_some_iff.1 hr3).1).trans hr3
      refine hK.out _ _ ⟨hr2, fun _ => trivial⟩ ?_
      clear hK K
      clear hr3 hb4
      refine anyS_ready (rs := [9]) (by kernel_rfl) (by simp) ?_
      refine AllS.cons rfl (fun K hK => ?_) AllS.nil
      go_simp
      refine hK.out _ _ ⟨hr2, fun _ => trivial⟩ ?_
      clear hK K
      refine anyS_ready (rs := [10]) (by kernel_rfl) (by simp) ?_
      refine AllS.cons rfl (fun K hK => ?_) AllS.nil
      go_simp
      refine hK.out _ _ ⟨hr2, fun _ => trivial⟩ ?_
      clear hK K
      refine anyS_done (by kernel_rfl) ?_ _
      go_wp2_with fail
      go_ret
      exact ⟨rfl, HB4.out⟩
end Go.Proofs.YtpigccnlembfdaaGreatDoor
