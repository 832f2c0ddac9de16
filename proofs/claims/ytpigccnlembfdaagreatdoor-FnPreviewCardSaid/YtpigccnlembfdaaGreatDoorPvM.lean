/- The whole walk of FnPreview; how an argument opens. Conditions: as each theorem states. -/
import Derived.Test.YtpigccnlembfdaaGreatDoorPvK
import Derived.Test.YtpigccnlembfdaaGreatDoorPvL
import Derived.Test.YtpigccnlembfdaaGreatDoorPvG
import Derived.Test.YtpigccnlembfdaaGreatDoorPvA
import Derived.ProofKit
import Derived.OpenShut
import Derived.SizedLaws
import Derived.Deep.Slices

/- The whole walk of FnPreview: it returns true at any value. Conditions: the two tables of package utf8 lie where they lie. -/
namespace Go.Proofs.YtpigccnlembfdaaGreatDoor
open Go.RowKit Go.Deep

set_option maxRecDepth 100000 in
set_option maxHeartbeats 4000000 in
theorem prev_any {Tabs : World → Prop} (hV : ValidSaid Tabs) (hD : DecodeSaid Tabs) {N : Nat} (hTk : ∀ w w' : World, ∀ g, N ≤ g → Tabs w → w.grownBy w' (some g) → Tabs w') (hTB : TabsKeep Tabs N) (x : V) (w : World) (hin : x.In w w.heap.size) (hNw : N ≤ w.heap.size) (hT : Tabs w) :
    Calls Tryz.prog 3 #[x.val] w (Same0 w (.bool true)) := by
  have hTb : ∀ w', Below w.heap.size w w' → Tabs w' := fun w' hb => hTB w w' w.heap.size hNw hT hb
  have hZ : ∀ w', Below w.heap.size w w' → Calls Tryz.prog 6 #[x.val] w' (SaysBelow w') := fun w' hb => fits1_any w' w.heap.size x (hin.below hb (Nat.le_refl _)) hb.size
  have hF : ∀ w', Below w.heap.size w w' → Calls Tryz.prog 7 #[x.val] w' (FitPost x w') := fun w' hb => fit_any hV hTk x w' w.heap.size (hin.below hb (Nat.le_refl _)) hb.size (by have := hb.size; omega) (hTb w' hb)
  have hJ : x.Good → x.parts ≤ 400 → x.bytes ≤ 2000 → ∀ w', Below w.heap.size w w' → Calls Tryz.prog 8 #[x.val] w' (TextPost x.jsonT w') := fun h1 h2 h3 w' hb =>
    json_any _ x w' w.heap.size (Nat.le_refl _) (hin.below hb (Nat.le_refl _)) hb.size h1 h2 h3
  have hP : x.Good → x.parts ≤ 400 → x.jsonT.length ≤ 20 → ∀ w', Below w.heap.size w w' → Calls Tryz.prog 9 #[x.val] w' (PrevPost x.jsonT w') := fun h1 h2 h3 w' hb =>
    implPreview_any hD hTB x w' w.heap.size hb.size (hin.below hb (Nat.le_refl _)) (by have := hb.size; omega) (hTb w' hb) h1 (by omega) h3
  have hlen : x.Good → x.parts ≤ 400 → x.bytes ≤ 2000 → x.jsonT.length ≤ 40000 := fun h1 h2 h3 => jsonT_small x h1 h3 h2
  obtain ⟨l, hll⟩ : ∃ l, l = x.jsonT := ⟨_, rfl⟩
  rw [← hll] at hJ hP hlen
  obtain ⟨G, hG⟩ : ∃ G, G = (x.Good ∧ x.parts ≤ 400 ∧ x.bytes ≤ 2000) := ⟨_, rfl⟩
  have HF : Hid (∀ w', Below w.heap.size w w' → Calls Tryz.prog 7 #[x.val] w' (fun e w'' => ∃ b, e = .returned (.bool b) ∧ Below w'.heap.size w' w'' ∧ (b = true → G))) := Lib.hid fun w' hb => (hF w' hb).mono fun e w'' ⟨b, h1, h2, h3⟩ => ⟨b, h1, h2, fun h => by rw [hG]; exact h3 h⟩
  have HJ : Hid (G → ∀ w', Below w.heap.size w w' → Calls Tryz.prog 8 #[x.val] w' (TextPost l w')) := Lib.hid fun h => by rw [hG] at h; exact hJ h.1 h.2.1 h.2.2
  have HP : Hid (G → l.length ≤ 20 → ∀ w', Below w.heap.size w w' → Calls Tryz.prog 9 #[x.val] w' (PrevPost l w')) := Lib.hid fun h => by rw [hG] at h; exact hP h.1 h.2.1
  have HLN : Hid (G → l.length ≤ 40000) := Lib.hid fun h => by rw [hG] at h; exact hlen h.1 h.2.1 h.2.2
  clear hJ hP hF hlen hll hG hTb hTk hTB hV hD hin hT hNw
  obtain ⟨k, h, t, aL, cL, ll, aK, cK, ks, aV, cV, vs⟩ := x
  rw [V.val_mk] at hZ HF HJ HP ⊢
  have HZ := Lib.hid hZ
  clear hZ
  generalize ll.length = n1 at *
  generalize ks.length = n2 at *
  generalize vs.length = n3 at *
  obtain ⟨ob, hob⟩ : ∃ ob, ob = Obj.cells #[.int .i64 k, .int .i64 h, .string t, .slice aL n1 cL, .slice aK n2 cK, .slice aV n3 cV] 26 := ⟨_, rfl⟩
  have HB0 := Lib.hid (below1 w (.cells #[.int .i64 k, .int .i64 h, .string t, .slice aL n1 cL, .slice aK n2 cK, .slice aV n3 cV] 26))
  have HC0 := Lib.hid (heap_alloc_new w (.cells #[.int .i64 k, .int .i64 h, .string t, .slice aL n1 cL, .slice aK n2 cK, .slice aV n3 cV] 26))
  clear hob
  go_enter Tryz.func3, Tryz.ntmps3
  go_wp2_with fail
  refine (HZ.out _ HB0.out).mono ?_
  rintro e w1 ⟨b1, rfl, hb1⟩
  have HB1 := Lib.hid (HB0.out.trans (hb1.mono (by simp)))
  have HC1 := Lib.hid ((hb1.block _ (by simp)).trans HC0.out)
  clear hb1
  cases b1 with
  | false =>
    go_wp2_with fail
    go_ret
    exact ⟨rfl, HB1.out⟩
  | true =>
    have y0 := cell_of_row w1 _ 0 _ _ _ HC1.out
    have y1 := cell_of_row w1 _ 1 _ _ _ HC1.out
    have y2 := cell_of_row w1 _ 2 _ _ _ HC1.out
    have y3 := cell_of_row w1 _ 3 _ _ _ HC1.out
    have y4 := cell_of_row w1 _ 4 _ _ _ HC1.out
    have y5 := cell_of_row w1 _ 5 _ _ _ HC1.out
    simp only [List.getElem?_toArray, List.getElem?_cons_zero, List.getElem?_cons_succ] at y0 y1 y2 y3 y4 y5
    have yl := (Array.getElem?_eq_some_iff.1 HC1.out).1
    go_wp2_with fail
    refine (HF.out _ HB1.out).mono ?_
    rintro e w2 ⟨b2, rfl, hb2, hg2⟩
    have HB2 := Lib.hid (HB1.out.trans (hb2.mono HB1.out.size))
    have HC2 := Lib.hid ((hb2.block _ yl).trans HC1.out)
    clear hb2 y0 y1 y2 y3 y4 y5 yl
    cases b2 with
    | false =>
      clear hg2
      go_wp2_with fail
      go_ret
      exact ⟨rfl, HB2.out⟩
    | true =>
      have HG := Lib.hid (hg2 rfl)
      clear hg2
      have y0 := cell_of_row w2 _ 0 _ _ _ HC2.out
      have y1 := cell_of_row w2 _ 1 _ _ _ HC2.out
      have y2 := cell_of_row w2 _ 2 _ _ _ HC2.out
      have y3 := cell_of_row w2 _ 3 _ _ _ HC2.out
      have y4 := cell_of_row w2 _ 4 _ _ _ HC2.out
      have y5 := cell_of_row w2 _ 5 _ _ _ HC2.out
      simp only [List.getElem?_toArray, List.getElem?_cons_zero, List.getElem?_cons_succ] at y0 y1 y2 y3 y4 y5
      have yl := (Array.getElem?_eq_some_iff.1 HC2.out).1
      go_wp2_with fail
      refine (HJ.out HG.out _ HB2.out).mono ?_
      obtain ⟨T, hT⟩ : ∃ T, T = strL l := ⟨_, rfl⟩
      have hTs : T.size = l.length := by rw [hT, strL_size]
      have HTs := Lib.hid hTs
      have HT := Lib.hid hT
      unfold TextPost
      rw [← hT]
      clear hT hTs
      rintro e w3 ⟨hb3, rfl | ⟨s, hs, rfl⟩⟩
      · have HB3 := Lib.hid (HB2.out.trans (hb3.mono HB2.out.size))
        have HC3 := Lib.hid ((hb3.block _ yl).trans HC2.out)
        clear hb3 y0 y1 y2 y3 y4 y5 yl
        by_cases h20 : l.length ≤ 20
        · have ht20 : ¬ (20 : Int) < (T.size : Int) := by have := HTs.out; omega
          have y0 := cell_of_row w3 _ 0 _ _ _ HC3.out
          have y1 := cell_of_row w3 _ 1 _ _ _ HC3.out
          have y2 := cell_of_row w3 _ 2 _ _ _ HC3.out
          have y3 := cell_of_row w3 _ 3 _ _ _ HC3.out
          have y4 := cell_of_row w3 _ 4 _ _ _ HC3.out
          have y5 := cell_of_row w3 _ 5 _ _ _ HC3.out
          simp only [List.getElem?_toArray, List.getElem?_cons_zero, List.getElem?_cons_succ] at y0 y1 y2 y3 y4 y5
          have yl := (Array.getElem?_eq_some_iff.1 HC3.out).1
          have HPP := Lib.hid (HP.out HG.out h20 w3 HB3.out)
          unfold PrevPost at HPP
          rw [← HT.out] at HPP
          clear h20
          go_wp2_with fail
          refine HPP.out.mono ?_
          rintro e w4 ⟨rfl, hb4⟩
          have HB4 := Lib.hid (HB3.out.trans (hb4.mono HB3.out.size))
          clear hb4 y0 y1 y2 y3 y4 y5 yl
          go_wp2_with fail
          go_ret
          exact ⟨rfl, HB4.out⟩
        · have ht20 : (20 : Int) < (T.size : Int) := by have := HTs.out; omega
          clear h20
          go_wp2_with fail
          go_ret
          exact ⟨rfl, HB3.out⟩
      · have HB3 := Lib.hid (HB2.out.trans (hb3.mono HB2.out.size))
        clear hb3 y0 y1 y2 y3 y4 y5 yl
        go_wp2_with fail
        go_ret
        exact ⟨rfl, HB3.out⟩
end Go.Proofs.YtpigccnlembfdaaGreatDoor

/- An argument of the type impl.Value, as the row reads it, is a tree that lies in memory. Conditions: the reading, and the form's own reach. -/
namespace Go.Proofs.YtpigccnlembfdaaGreatDoor
open Go.RowKit Go.ChangeShapes Go.WideShapes

section
variable {H : Type} {enc : TypeId × Value → H} {W : World}

theorem weightsAll_mem {P : Program} {e : TypeId} : ∀ {l : List (DataW H)} {d : DataW H}, d ∈ l → ∀ n ∈ d.weights P e, n ∈ DataW.weightsAll P e l
  | x :: r, d, hd, n, hn => by
    unfold DataW.weightsAll
    rcases List.mem_cons.1 hd with rfl | hd
    · exact List.mem_append_left _ hn
    · exact List.mem_append_right _ (weightsAll_mem hd n hn)

theorem exists_list {α : Type} (p : Nat → α → Prop) : ∀ n : Nat, (∀ i, i < n → ∃ x, p i x) → ∃ l : List α, l.length = n ∧ ∀ (i : Nat) (x : α), l[i]? = some x → p i x
  | 0, _ => ⟨[], rfl, fun i x h => by simp at h⟩
  | n + 1, h => by
    obtain ⟨l, hl, hp⟩ := exists_list p n fun i hi => h i (by omega)
    obtain ⟨x, hx⟩ := h n (by omega)
    refine ⟨l ++ [x], by simp [hl], fun i y hy => ?_⟩
    by_cases hi : i < n
    · rw [List.getElem?_append_left (by omega)] at hy; exact hp i y hy
    · have hin : i = n := by
        have := (List.getElem?_eq_some_iff.1 hy).1
        simp [hl] at this; omega
      subst hin
      rw [List.getElem?_append_right (by omega), hl] at hy
      simp at hy; subst hy; exact hx

theorem cells26 : Tryz.prog.cellsOf 26 = 6 := by kernel_rfl
theorem bytes26 : Tryz.prog.bytesOf 26 = 104 := by kernel_rfl
theorem cells9 : Tryz.prog.cellsOf 9 = 1 := by kernel_rfl
theorem bytes9 : Tryz.prog.bytesOf 9 = 16 := by kernel_rfl

/-- All weights of a reading are within the reach. -/
def Small (t : TypeId) (d : DataW H) : Prop := ∀ n ∈ d.weights Tryz.prog t, n ≤ 140737488351232

theorem open_keys {n : Nat} {cs : List Value} {y : DataW H × List MemPlace} (h : DataW.trod enc Tryz.prog W 0 (fun _ => true) true n 24 cs = some y) (hs : Small 24 y.1) :
    ∃ (A : Option Addr) (cK : Nat) (ks : List ByteArray), cs = [.slice A ks.length cK] ∧ Reads W W.heap.size A (ks.map .string) ∧ ks.length ≤ cK ∧ cK ≤ 140737488351232 ∧ ∀ s ∈ ks, s.size ≤ 140737488351232 := by
  rcases DataW.trod_slice Tryz.underlying24 h with ⟨rfl, _⟩ | ⟨a, len, cap, elems, rest, n', _, rfl, rfl, _, hlc, hcm, hel, hat, hsp, _⟩
  · exact ⟨none, 0, [], rfl, fun h => absurd rfl h, Nat.le_refl _, by decide, fun s hs => by cases hs⟩
  · have hrl := (hsp rfl).1
    have hw : Small 24 (DataW.slice (elems.map (·.1)) (rest.map (·.1))) := hs
    unfold Small at hw
    rw [show (DataW.slice (elems.map (·.1)) (rest.map (·.1))).weights Tryz.prog 24 = ((elems.map (·.1)).length + (rest.map (·.1)).length) * Tryz.prog.bytesOf 9 :: (DataW.weightsAll Tryz.prog 9 (elems.map (·.1)) ++ DataW.weightsAll Tryz.prog 9 (rest.map (·.1))) by simp [DataW.weights, Tryz.underlying24]] at hw
    have hcap := hw _ (List.mem_cons_self ..)
    rw [bytes9, List.length_map, List.length_map, hel, hrl] at hcap
    have hone : ∀ i, i < len → ∃ s : ByteArray, W.cell? (a.add i) = some (.string s) ∧ s.size ≤ 140737488351232 := fun i hi => by
      have h1 := hat i hi
      rw [cells9, Nat.mul_one] at h1
      have hle : elems[i]? = some elems[i] := List.getElem?_eq_getElem (by omega)
      rw [hle] at h1
      obtain ⟨cs', hc, ht⟩ := Option.bind_eq_some_iff.1 h1
      obtain ⟨_, hl1, hcell⟩ := World.cells?_some hc
      obtain ⟨s, rfl, hx, _⟩ := DataW.trod_string Tryz.underlying9 ht
      have h0 := hcell 0 (by omega)
      rw [show (a.add i).add 0 = a.add i by unfold Addr.add; simp] at h0
      refine ⟨s, by simpa using h0, ?_⟩
      have hm : (elems[i]).1 ∈ elems.map (·.1) := List.mem_map.2 ⟨_, List.getElem_mem _, rfl⟩
      have := hw s.data.toList.length (List.mem_cons_of_mem _ (List.mem_append_left _ (weightsAll_mem hm _ (by rw [hx]; simp [DataW.weights]))))
      simpa using this
    obtain ⟨ks, hkl, hk⟩ := exists_list (fun i (s : ByteArray) => W.cell? (a.add i) = some (.string s) ∧ s.size ≤ 140737488351232) len hone
    refine ⟨some a, cap, ks, by rw [hkl], fun hn => ?_, by omega, by omega, fun s hs => ?_⟩
    · have hpos : 0 < ks.length := by cases ks with | nil => exact absurd rfl hn | cons _ _ => simp
      have h0 := (hk 0 _ (List.getElem?_eq_getElem hpos)).1
      refine ⟨a, rfl, by have := World.block_lt_of_cell? W _ h0; rwa [block_of_add] at this, fun j u hu => ?_⟩
      rw [List.getElem?_map] at hu
      obtain ⟨s, hs, rfl⟩ := Option.map_eq_some_iff.1 hu
      exact (hk j s hs).1
    · obtain ⟨i, hi, he⟩ := List.getElem_of_mem hs
      exact (hk i s (by rw [List.getElem?_eq_getElem hi, he])).2

theorem open_rows {n : Nat} (ih : ∀ m, m < n → ∀ (cs : List Value) (y : DataW H × List MemPlace), DataW.trod enc Tryz.prog W 0 (fun _ => true) true m 26 cs = some y → Small 26 y.1 → ∃ x : V, cs = x.cells ∧ x.In W W.heap.size)
    {cs : List Value} {y : DataW H × List MemPlace} (h : DataW.trod enc Tryz.prog W 0 (fun _ => true) true n 23 cs = some y) (hs : Small 23 y.1) :
    ∃ (A : Option Addr) (cL : Nat) (l : List V), cs = [.slice A l.length cL] ∧ RowsV W W.heap.size A l ∧ AllIn W W.heap.size l ∧ l.length ≤ cL ∧ cL ≤ 140737488351232 := by
  rcases DataW.trod_slice Tryz.underlying23 h with ⟨rfl, _⟩ | ⟨a, len, cap, elems, rest, n', hn', rfl, rfl, _, hlc, hcm, hel, hat, hsp, _⟩
  · exact ⟨none, 0, [], rfl, fun h => absurd rfl h, by unfold AllIn; trivial, Nat.le_refl _, by decide⟩
  · have hrl := (hsp rfl).1
    have hw : Small 23 (DataW.slice (elems.map (·.1)) (rest.map (·.1))) := hs
    unfold Small at hw
    rw [show (DataW.slice (elems.map (·.1)) (rest.map (·.1))).weights Tryz.prog 23 = ((elems.map (·.1)).length + (rest.map (·.1)).length) * Tryz.prog.bytesOf 26 :: (DataW.weightsAll Tryz.prog 26 (elems.map (·.1)) ++ DataW.weightsAll Tryz.prog 26 (rest.map (·.1))) by simp [DataW.weights, Tryz.underlying23]] at hw
    have hcap := hw _ (List.mem_cons_self ..)
    rw [bytes26, List.length_map, List.length_map, hel, hrl] at hcap
    have hone : ∀ i, i < len → ∃ x : V, x.In W W.heap.size ∧ ∀ (j : Nat) (u : Value), x.cells[j]? = some u → W.cell? (a.add (i * 6 + j)) = some u := fun i hi => by
      have h1 := hat i hi
      rw [cells26] at h1
      have hle : elems[i]? = some elems[i] := List.getElem?_eq_getElem (by omega)
      rw [hle] at h1
      obtain ⟨cs', hc, ht⟩ := Option.bind_eq_some_iff.1 h1
      obtain ⟨_, hl1, hcell⟩ := World.cells?_some hc
      have hm : (elems[i]).1 ∈ elems.map (·.1) := List.mem_map.2 ⟨_, List.getElem_mem _, rfl⟩
      obtain ⟨x, rfl, hx⟩ := ih n' (by omega) cs' _ ht (fun k hk => hw k (List.mem_cons_of_mem _ (List.mem_append_left _ (weightsAll_mem hm k hk))))
      refine ⟨x, hx, fun j u hu => ?_⟩
      have hj : j < 6 := by have := (List.getElem?_eq_some_iff.1 hu).1; omega
      rw [← add_of_add, hcell j hj, hu]
    obtain ⟨l, hll, hl⟩ := exists_list (fun i (x : V) => x.In W W.heap.size ∧ ∀ (j : Nat) (u : Value), x.cells[j]? = some u → W.cell? (a.add (i * 6 + j)) = some u) len hone
    refine ⟨some a, cap, l, by rw [hll], fun hn => ?_, allIn_of fun x hx => ?_, by omega, by omega⟩
    · have hpos : 0 < l.length := by cases l with | nil => exact absurd rfl hn | cons _ _ => simp
      obtain ⟨x, hx⟩ : ∃ x, l[0]? = some x := ⟨_, List.getElem?_eq_getElem hpos⟩
      have h0 := (hl 0 x hx).2 0
      obtain ⟨k, h, t, aL, cL, l', aK, cK, ks, aV, cV, vs⟩ := x
      have h1 := h0 _ rfl
      exact ⟨a, rfl, by have := World.block_lt_of_cell? W _ h1; rwa [block_of_add] at this, fun i x hx => (hl i x hx).2⟩
    · obtain ⟨i, hi, he⟩ := List.getElem_of_mem hx
      exact (hl i x (by rw [List.getElem?_eq_getElem hi, he])).1

set_option maxRecDepth 100000 in
/-- A reading of the type impl.Value is a tree in memory. -/
theorem open_val (n : Nat) : ∀ (cs : List Value) (y : DataW H × List MemPlace), DataW.trod enc Tryz.prog W 0 (fun _ => true) true n 26 cs = some y → Small 26 y.1 → ∃ x : V, cs = x.cells ∧ x.In W W.heap.size := by
  induction n using Nat.strongRecOn with
  | _ n ih =>
    intro cs y h hs
    obtain ⟨xs, m, hnm, hy, hlen, hxl, hf⟩ := DataW.trod_struct Tryz.underlying26 h
    rw [cells26] at hlen
    match cs, hlen with
    | [c0, c1, c2, c3, c4, c5], _ =>
      match xs, hxl with
      | [y0, y1, y2, y3, y4, y5], _ =>
        have g0 := hf 0 _ rfl
        have g1 := hf 1 _ rfl
        have g2 := hf 2 _ rfl
        have g3 := hf 3 _ rfl
        have g4 := hf 4 _ rfl
        have g5 := hf 5 _ rfl
        have k22 : Tryz.prog.cellsOf 22 = 1 := by kernel_rfl
        have k3 : Tryz.prog.cellsOf 3 = 1 := by kernel_rfl
        have k23 : Tryz.prog.cellsOf 23 = 1 := by kernel_rfl
        have k24 : Tryz.prog.cellsOf 24 = 1 := by kernel_rfl
        simp [k22, k3, cells9, k23, k24] at g0 g1 g2 g3 g4 g5
        subst hy
        have hsm : ∀ t d, (t, d) ∈ [(22, y0.1), (3, y1.1), (9, y2.1), (23, y3.1), (24, y4.1), (23, y5.1)] → Small t d := by
          intro t d hm k hk
          refine hs k ?_
          simp only [DataW.weights, Tryz.underlying26, List.map_cons, List.map_nil, DataW.weightsEach, List.mem_append]
          simp at hm
          rcases hm with ⟨rfl, rfl⟩ | ⟨rfl, rfl⟩ | ⟨rfl, rfl⟩ | ⟨rfl, rfl⟩ | ⟨rfl, rfl⟩ | ⟨rfl, rfl⟩ <;> simp [hk]
        obtain ⟨k, e0, _, w0⟩ := DataW.trod_int Tryz.underlying22 g0
        obtain ⟨hf', e1, _, w1⟩ := DataW.trod_int Tryz.underlying3 g1
        obtain ⟨t, e2, x2, _⟩ := DataW.trod_string Tryz.underlying9 g2
        obtain ⟨aL, cL, l, e3, r3, all3, l3, c3'⟩ := open_rows (fun q hq => ih q (by omega)) g3 (hsm _ _ (by simp))
        obtain ⟨aK, cK, ks, e4, r4, l4, c4', z4⟩ := open_keys g4 (hsm _ _ (by simp))
        obtain ⟨aV, cV, vs, e5, r5, all5, l5, c5'⟩ := open_rows (fun q hq => ih q (by omega)) g5 (hsm _ _ (by simp))
        simp at e0 e1 e2 e3 e4 e5
        subst e0 e1 e2 e3 e4 e5
        have hts : t.size ≤ 140737488351232 := by
          have := hsm 9 y2.1 (by simp) t.data.toList.length (by rw [x2]; simp [DataW.weights])
          simpa using this
        refine ⟨V.mk k hf' t aL cL l aK cK ks aV cV vs, rfl, ?_⟩
        unfold V.In V.Own
        exact ⟨⟨bounds_i64 w0, bounds_i64 w1, hts, l3, Nat.le_trans l3 c3', l4, Nat.le_trans l4 c4', l5, Nat.le_trans l5 c5', z4⟩, r3, r4, r5, all3, all5⟩
end
end Go.Proofs.YtpigccnlembfdaaGreatDoor
