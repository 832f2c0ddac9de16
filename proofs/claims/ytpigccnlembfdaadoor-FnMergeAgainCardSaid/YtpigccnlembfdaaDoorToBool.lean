/- The walks of fromGo and result at a boolean and at an error, of impl.ToBoolean, and of the law FnToBoolean. Conditions: the tree lies in the world; the tables of package utf8 lie there. -/
import Derived.Test.YtpigccnlembfdaaDoorBool
namespace Go.Proofs.YtpigccnlembfdaaDoor
open Go.RowKit

set_option maxRecDepth 100000 in
set_option maxHeartbeats 1000000 in
theorem fromGo_bool (w : World) (b : Bool) :
    Calls Tryd.prog 25 #[.iface 4 (.bool b)] w (Same0 w (.tuple #[.agg #[.int .i64 (if b then 2 else 1), .int .i64 0, .string ⟨#[]⟩, .slice none 0 0, .slice none 0 0, .slice none 0 0], .bool true])) := by
  cases b
  · go_enter Tryd.func25, Tryd.ntmps25
    go_wp2_with fail
    refine bodyPost_ret (v := .tuple #[.agg #[.int .i64 1, .int .i64 0, .string ⟨#[]⟩, .slice none 0 0, .slice none 0 0, .slice none 0 0], .bool true]) (by simp [results, Tryd.results25, go_sem]) rfl ⟨rfl, below1 _ _⟩
  · go_enter Tryd.func25, Tryd.ntmps25
    go_wp2_with fail
    refine bodyPost_ret (v := .tuple #[.agg #[.int .i64 2, .int .i64 0, .string ⟨#[]⟩, .slice none 0 0, .slice none 0 0, .slice none 0 0], .bool true]) (by simp [results, Tryd.results25, go_sem]) rfl ⟨rfl, below1 _ _⟩

/-- The seven cells of a door's answer that is being made. -/
def ResAt (w : World) (g : Nat) (cs : Array Value) : Prop := w.heap[g]? = some (.cells cs 30 (0, 0))
theorem ResAt.new (w : World) (cs : Array Value) : ResAt (w.alloc (.cells cs 30)) w.heap.size cs := heap_alloc_new w _
theorem ResAt.below {w w1 : World} {g : Nat} {cs : Array Value} (h : ResAt w g cs) (hb : Below w.heap.size w w1) : ResAt w1 g cs := (hb.block g (Array.getElem?_eq_some_iff.1 h).1).trans h
theorem ResAt.lt {w : World} {g : Nat} {cs : Array Value} (h : ResAt w g cs) : g < w.heap.size := (Array.getElem?_eq_some_iff.1 h).1
theorem ResAt.cell {w : World} {g : Nat} {cs : Array Value} (h : ResAt w g cs) (i : Nat) : w.cell? ⟨g, i, none⟩ = cs[i]? := cell_of_row w g i _ _ _ h
theorem ResAt.frozen {w : World} {g : Nat} {cs : Array Value} (h : ResAt w g cs) (i : Nat) : w.frozen? ⟨g, i, none⟩ = false := by
  unfold ResAt at h; simp [World.frozen?, h]

set_option maxRecDepth 100000 in
set_option maxHeartbeats 1000000 in
theorem result_bool (w : World) (b : Bool) :
    Calls Tryd.prog 17 #[.iface 4 (.bool b)] w (Same0 w (.agg #[.int .i64 (if b then 2 else 1), .int .i64 0, .string ⟨#[]⟩, .slice none 0 0, .slice none 0 0, .slice none 0 0, .int .i64 0])) := by
  obtain ⟨k, hk⟩ : ∃ k : Int, k = (if b then 2 else 1) := ⟨_, rfl⟩
  have hF := fromGo_bool (w.alloc (.cells #[.int .i64 0, .int .i64 0, .string ⟨#[]⟩, .slice none 0 0, .slice none 0 0, .slice none 0 0, .int .i64 0] 30)) b
  rw [← hk] at hF ⊢
  have HF := Lib.hid hF
  have HR := Lib.hid (ResAt.new w #[.int .i64 0, .int .i64 0, .string ⟨#[]⟩, .slice none 0 0, .slice none 0 0, .slice none 0 0, .int .i64 0])
  clear hF hk
  go_enter Tryd.func17, Tryd.ntmps17
  go_wp2_with (go_at_call 25; refine HF.out.mono ?_; rintro e w1 ⟨rfl, hb1⟩; have hR := HR.out.below hb1; have r0 := hR.cell 0; have r1 := hR.cell 1; have r2 := hR.cell 2; have r3 := hR.cell 3; have r4 := hR.cell 4; have r5 := hR.cell 5; have r6 := hR.cell 6; have f0 := hR.frozen 0; have f1 := hR.frozen 1; have f2 := hR.frozen 2; have f3 := hR.frozen 3; have f4 := hR.frozen 4; have f5 := hR.frozen 5; have f6 := hR.frozen 6; have hlt := hR.lt; simp at r0 r1 r2 r3 r4 r5 r6; clear hR)
  have hbB : Below w.heap.size w w1 := (below1 w _).trans (hb1.mono (by simp))
  refine bodyPost_ret (v := .agg #[.int .i64 k, .int .i64 0, .string ⟨#[]⟩, .slice none 0 0, .slice none 0 0, .slice none 0 0, .int .i64 0]) (by simp [results, Tryd.results17, go_sem, r0, r1, r2, r3, r4, r5, r6, hlt]) rfl ⟨rfl, ?_⟩
  exact (((((((hbB.setCell (by simp) _).setCell (by simp) _).setCell (by simp) _).setCell (by simp) _).setCell (by simp) _).setCell (by simp) _).setCell (by simp) _).alloc (by simpa using Nat.le_of_lt hlt) _

set_option maxRecDepth 100000 in
set_option maxHeartbeats 1000000 in
theorem result_err (w : World) (t : TypeId) (a : Addr) (ht : t = 68 ∨ t = 72) :
    Calls Tryd.prog 17 #[.iface t (.pointer (some a))] w (Same0 w (.agg #[.int .i64 0, .int .i64 0, .string ⟨#[]⟩, .slice none 0 0, .slice none 0 0, .slice none 0 0, .int .i64 1])) := by
  rcases ht with rfl | rfl
  all_goals
    go_enter Tryd.func17, Tryd.ntmps17
    go_wp2_with fail
    refine bodyPost_ret (v := .agg #[.int .i64 0, .int .i64 0, .string ⟨#[]⟩, .slice none 0 0, .slice none 0 0, .slice none 0 0, .int .i64 1]) (by simp [results, Tryd.results17, go_sem]) rfl ⟨rfl, below1 _ _⟩

/-- What ToBoolean answers: a boolean, or an error. -/
def ToBoolPost (o : Option Bool) (w : World) (e : Ending) (w' : World) : Prop :=
  Below w.heap.size w w' ∧ e = .returned (match o with
    | some b => .agg #[.int .i64 (if b then 2 else 1), .int .i64 0, .string ⟨#[]⟩, .slice none 0 0, .slice none 0 0, .slice none 0 0, .int .i64 0]
    | none => .agg #[.int .i64 0, .int .i64 0, .string ⟨#[]⟩, .slice none 0 0, .slice none 0 0, .slice none 0 0, .int .i64 1])

theorem result_of_bool (w0 w : World) (o : Option Bool) (x : Value) (h : match o with
    | some b => x = .iface 4 (.bool b)
    | none => ∃ a, x = .iface 68 (.pointer (some a)) ∨ x = .iface 72 (.pointer (some a))) (hb : Below w0.heap.size w0 w) :
    Calls Tryd.prog 17 #[x] w (ToBoolPost o w0) := by
  cases o with
  | some b =>
    simp only at h; subst h
    exact (result_bool w b).mono fun e w' ⟨he, hb'⟩ => ⟨hb.trans (hb'.mono hb.size), he⟩
  | none =>
    obtain ⟨a, rfl | rfl⟩ := h
    · exact (result_err w _ a (Or.inl rfl)).mono fun e w' ⟨he, hb'⟩ => ⟨hb.trans (hb'.mono hb.size), he⟩
    · exact (result_err w _ a (Or.inr rfl)).mono fun e w' ⟨he, hb'⟩ => ⟨hb.trans (hb'.mono hb.size), he⟩

set_option maxRecDepth 100000 in
set_option maxHeartbeats 1000000 in
theorem toBoolean_any (x : V) (w : World) (B : Nat) (hin : x.In w B) (hB : B ≤ w.heap.size) (hg : x.Good) (hp : x.parts ≤ 400) :
    Calls Tryd.prog 7 #[x.val] w (ToBoolPost (boolOf x.toJ) w) := by
  have hC : ∀ w', Below w.heap.size w w' → Calls Tryd.prog 16 #[x.val] w' (GoPost x.toJ w') := fun w' hb => toGo_any x.deep x w' B (Nat.le_refl _) (hin.below hb hB) (by have := hb.size; omega) hg (by omega)
  obtain ⟨k, h, t, aL, cL, l, aK, cK, ks, aV, cV, vs⟩ := x
  rw [V.val_mk] at hC ⊢
  generalize (V.mk k h t aL cL l aK cK ks aV cV vs).toJ = j at *
  have HC := Lib.hid hC
  clear hC hin hg hp
  go_enter Tryd.func7, Tryd.ntmps7
  go_wp2_with fail
  refine (HC.out _ (below2 _ _ _)).mono ?_
  rintro e w2 ⟨x, rfl, hb2, hr2⟩
  have HB2 := Lib.hid ((below2 w _ _).trans (hb2.mono (by simp; omega)))
  have HR2 := Lib.hid hr2
  have HRA : Hid (ResAt _ (w.heap.size + 1) _) := Lib.hid (by have := ResAt.new (w.alloc (.cells #[.int .i64 k, .int .i64 h, .string t, .slice aL l.length cL, .slice aK ks.length cK, .slice aV vs.length cV] 26)) #[.int .i64 0, .int .i64 0, .string ⟨#[]⟩, .slice none 0 0, .slice none 0 0, .slice none 0 0, .int .i64 0]; simpa using this)
  clear hr2
  go_wp2_with fail
  refine (toBool_any _ _ _ _ HR2.out).mono ?_
  rintro e w3 ⟨hb3, y, rfl, hy⟩
  generalize boolOf j = o at *
  have hRA : ResAt w3 (w.heap.size + 1) #[.int .i64 0, .int .i64 0, .string ⟨#[]⟩, .slice none 0 0, .slice none 0 0, .slice none 0 0, .int .i64 0] := by
    have h0 := HRA.out
    have h1 := hb2.trans (hb3.mono hb2.size)
    exact h0.below h1
  have hB3 : Below w.heap.size w w3 := HB2.out.trans (hb3.mono HB2.out.size)
  have HRA3 := Lib.hid hRA
  have HB3 := Lib.hid hB3
  have HY := Lib.hid hy
  clear hb3 hy HR2 hRA hB3 hb2
  go_wp2_with fail
  refine (result_of_bool w3 w3 o y HY.out (Below.refl _ _)).mono ?_
  rintro e w4 ⟨hb4, rfl⟩
  have hR := HRA3.out.below hb4
  have r0 := hR.cell 0
  have r1 := hR.cell 1
  have r2 := hR.cell 2
  have r3 := hR.cell 3
  have r4 := hR.cell 4
  have r5 := hR.cell 5
  have r6 := hR.cell 6
  have f0 := hR.frozen 0
  have f1 := hR.frozen 1
  have f2 := hR.frozen 2
  have f3 := hR.frozen 3
  have f4 := hR.frozen 4
  have f5 := hR.frozen 5
  have f6 := hR.frozen 6
  have hlt := hR.lt
  simp at r0 r1 r2 r3 r4 r5 r6
  have hB4 : Below w.heap.size w w4 := HB3.out.trans (hb4.mono HB3.out.size)
  have HB4 := Lib.hid hB4
  clear hR hb4 hB4 HY HRA3 HB3 HB2
  cases o with
  | some b =>
    obtain ⟨k', hk'⟩ : ∃ k' : Int, k' = (if b then 2 else 1) := ⟨_, rfl⟩
    unfold ToBoolPost
    simp only
    rw [← hk']
    have HK := Lib.hid hk'
    clear hk'
    go_wp2_with fail
    refine bodyPost_ret (v := .agg #[.int .i64 k', .int .i64 0, .string ⟨#[]⟩, .slice none 0 0, .slice none 0 0, .slice none 0 0, .int .i64 0]) (by simp [results, Tryd.results7, go_sem, r0, r1, r2, r3, r4, r5, r6]) rfl ⟨?_, by rw [HK.out]⟩
    exact ((((((HB4.out.setCell (by simp) _).setCell (by simp) _).setCell (by simp) _).setCell (by simp) _).setCell (by simp) _).setCell (by simp) _).setCell (by simp) _
  | none =>
    simp only
    go_wp2_with fail
    refine bodyPost_ret (v := .agg #[.int .i64 0, .int .i64 0, .string ⟨#[]⟩, .slice none 0 0, .slice none 0 0, .slice none 0 0, .int .i64 1]) (by simp [results, Tryd.results7, go_sem, r0, r1, r2, r3, r4, r5, r6]) rfl ⟨?_, rfl⟩
    exact ((((((HB4.out.setCell (by simp) _).setCell (by simp) _).setCell (by simp) _).setCell (by simp) _).setCell (by simp) _).setCell (by simp) _).setCell (by simp) _

/-- What toboolean makes of a tree, by its kind and text. -/
theorem boolOf_kind {k h : Int} {t : ByteArray} {aL : Option Addr} {cL : Nat} {l : List V} {aK : Option Addr} {cK : Nat} {ks : List ByteArray} {aV : Option Addr} {cV : Nat} {vs : List V} (hk0 : 0 ≤ k) (hk : k ≤ 6) :
    boolOf (V.mk k h t aL cL l aK cK ks aV cV vs).toJ = if k = 1 then some false else if k = 2 then some true else if k = 4 then (if t.toList = [116, 114, 117, 101] then some true else if t.toList = [102, 97, 108, 115, 101] then some false else none) else none := by
  have hc : k = 0 ∨ k = 1 ∨ k = 2 ∨ k = 3 ∨ k = 4 ∨ k = 5 ∨ k = 6 := by omega
  rcases hc with rfl | rfl | rfl | rfl | rfl | rfl | rfl
  · simp [V.toJ, boolOf]
  · simp [V.toJ, boolOf]
  · simp [V.toJ, boolOf]
  · by_cases he : h.tmod 2 = 0 <;> simp [V.toJ, boolOf, he]
  · simp [V.toJ, boolOf]
  · simp [V.toJ, boolOf]
  · simp [V.toJ, boolOf]

set_option maxRecDepth 100000 in
set_option maxHeartbeats 2000000 in
theorem law_any {Tabs : World → Prop} (hV : ValidSaid Tabs) {N : Nat} (hTk : ∀ w w' : World, ∀ g, N ≤ g → Tabs w → w.grownBy w' (some g) → Tabs w') (x : V) (w : World) (hin : x.In w w.heap.size) (hNw : N ≤ w.heap.size) (hT : Tabs w) :
    Calls Tryd.prog 3 #[x.val] w (Same0 w (.bool true)) := by
  have hZ : ∀ w', Below w.heap.size w w' → Calls Tryd.prog 5 #[x.val] w' (SaysBelow w') := fun w' hb => fits1_any w' w.heap.size x (hin.below hb (Nat.le_refl _)) hb.size
  have hTb : ∀ w', Below w.heap.size w w' → Tabs w' := fun w' hb => hTk w w' w.heap.size hNw hT (grown_below hb _)
  have hFi : ∀ w' c ad, Below w.heap.size w w' → (∀ (j : Nat) (u : Value), x.cells[j]? = some u → w'.cell? (ad.add j) = some u) → Calls Tryd.prog 6 #[.slice (some ad) 1 c] w' (FinePost x w') :=
    fun w' c ad hb hr => fine_any hV hTk x w' w.heap.size c ad (hin.below hb (Nat.le_refl _)) hb.size (by have := hb.size; omega) hr (hTb w' hb)
  have hTo : ∀ w', Below w.heap.size w w' → x.Good → x.parts ≤ 400 → Calls Tryd.prog 7 #[x.val] w' (ToBoolPost (boolOf x.toJ) w') := fun w' hb hg hp => toBoolean_any x w' w.heap.size (hin.below hb (Nat.le_refl _)) hb.size hg hp
  obtain ⟨k, h, t, aL, cL, l, aK, cK, ks, aV, cV, vs⟩ := x
  rw [V.val_mk] at hZ hTo ⊢
  have HZ := Lib.hid hZ
  have HFI := Lib.hid hFi
  have HTO := Lib.hid hTo
  clear hZ hFi hTo hTb hin hT hTk hV
  go_enter Tryd.func3, Tryd.ntmps3
  go_wp2_with fail
  refine (HZ.out _ (below1 _ _)).mono ?_
  rintro e w1 ⟨b1, rfl, hb1⟩
  have hbx := (Box.new w (V.mk k h t aL cL l aK cK ks aV cV vs)).grown (grown_below hb1 none) (by simp)
  have hB1 : Below w.heap.size w w1 := (below1 w _).trans (hb1.mono (by simp))
  have c0 := hbx.cell 0
  have c1 := hbx.cell 1
  have c2 := hbx.cell 2
  have c3 := hbx.cell 3
  have c4 := hbx.cell 4
  have c5 := hbx.cell 5
  simp only [V.cells, List.getElem?_cons_zero, List.getElem?_cons_succ] at c0 c1 c2 c3 c4 c5
  have HBX := Lib.hid hbx
  have HB1 := Lib.hid hB1
  clear hbx hb1 hB1
  cases b1
  · go_wp2_with fail
    go_ret
    exact ⟨rfl, HB1.out⟩
  · go_wp2_with fail
    refine (HFI.out _ _ _ (HB1.out.trans ((below1 w1 _).mono HB1.out.size)) (fun j u hu => by
      have := (Box.new w1 (V.mk k h t aL cL l aK cK ks aV cV vs)).cell j
      rw [hu] at this
      rw [show (⟨w1.heap.size, 0, none⟩ : Addr).add j = ⟨w1.heap.size, j, none⟩ by unfold Addr.add; split <;> simp_all]
      exact this)).mono ?_
    rintro e w2 ⟨b2, rfl, hb2, hg⟩
    have hbx := HBX.out.grown (grown_below ((below1 w1 _).trans (hb2.mono (by simp))) none) (by simp)
    have hB2 : Below w.heap.size w w2 := HB1.out.trans (((below1 w1 _).trans (hb2.mono (by simp))).mono HB1.out.size)
    clear c0 c1 c2 c3 c4 c5
    have c0 := hbx.cell 0
    have c1 := hbx.cell 1
    have c2 := hbx.cell 2
    have c3 := hbx.cell 3
    have c4 := hbx.cell 4
    have c5 := hbx.cell 5
    simp only [V.cells, List.getElem?_cons_zero, List.getElem?_cons_succ] at c0 c1 c2 c3 c4 c5
    have HBX2 := Lib.hid hbx
    have HB2 := Lib.hid hB2
    have HG := Lib.hid hg
    clear hbx hb2 hB2 hg HBX HB1 HZ HFI
    cases b2
    · go_wp2_with fail
      go_ret
      exact ⟨rfl, HB2.out⟩
    · obtain ⟨hg1, hg2, hg3, hg4⟩ := HG.out rfl
      have hT := HTO.out w2 HB2.out hg1 hg2
      unfold V.Good at hg1
      have hk0 := hg1.1.1
      have hk6 := hg1.1.2.1
      rw [boolOf_kind hk0 hk6] at hT
      clear hg1 hg2 hg3 hg4 HG HTO
      have hc : k = 1 ∨ k = 2 ∨ (k = 4 ∧ t.toList = [116, 114, 117, 101]) ∨ (k = 4 ∧ t.toList = [102, 97, 108, 115, 101]) ∨ (k = 4 ∧ t.toList ≠ [116, 114, 117, 101] ∧ t.toList ≠ [102, 97, 108, 115, 101]) ∨ (k ≠ 1 ∧ k ≠ 2 ∧ k ≠ 4) := by
        by_cases h1 : k = 1
        · exact Or.inl h1
        · by_cases h2 : k = 2
          · exact Or.inr (Or.inl h2)
          · by_cases h4 : k = 4
            · by_cases ht : t.toList = [116, 114, 117, 101]
              · exact Or.inr (Or.inr (Or.inl ⟨h4, ht⟩))
              · by_cases hf : t.toList = [102, 97, 108, 115, 101]
                · exact Or.inr (Or.inr (Or.inr (Or.inl ⟨h4, hf⟩)))
                · exact Or.inr (Or.inr (Or.inr (Or.inr (Or.inl ⟨h4, ht, hf⟩))))
            · exact Or.inr (Or.inr (Or.inr (Or.inr (Or.inr ⟨h1, h2, h4⟩))))
      rcases hc with rfl | rfl | ⟨rfl, ht⟩ | ⟨rfl, ht⟩ | ⟨rfl, ht, hf⟩ | ⟨h1, h2, h4⟩
      · rw [if_pos rfl] at hT
        have HT := Lib.hid hT
        clear hT
        go_wp2_with fail
        refine HT.out.mono ?_
        rintro e w3 ⟨hb3, rfl⟩
        have hbx := HBX2.out.grown (grown_below hb3 none) (by simp)
        have hB3 : Below w.heap.size w w3 := HB2.out.trans (hb3.mono HB2.out.size)
        clear c0 c1 c2 c3 c4 c5
        have c0 := hbx.cell 0
        have c1 := hbx.cell 1
        have c2 := hbx.cell 2
        have c3 := hbx.cell 3
        have c4 := hbx.cell 4
        have c5 := hbx.cell 5
        simp only [V.cells, List.getElem?_cons_zero, List.getElem?_cons_succ] at c0 c1 c2 c3 c4 c5
        have hlt := hbx.lt
        have HB3 := Lib.hid hB3
        clear hbx hb3 hB3 HT HBX2 HB2
        go_wp2_with fail
        refine (says_plain _ 1 (by decide) (by decide) _ _ _ _ _).mono ?_
        rintro e w4 ⟨rfl, hb4⟩
        go_wp2_with fail
        go_ret
        exact ⟨rfl, (HB3.out.alloc (by omega) _).trans (hb4.mono (by simp; omega))⟩
      · rw [if_neg (by decide), if_pos rfl] at hT
        have HT := Lib.hid hT
        clear hT
        go_wp2_with fail
        refine HT.out.mono ?_
        rintro e w3 ⟨hb3, rfl⟩
        have hbx := HBX2.out.grown (grown_below hb3 none) (by simp)
        have hB3 : Below w.heap.size w w3 := HB2.out.trans (hb3.mono HB2.out.size)
        clear c0 c1 c2 c3 c4 c5
        have c0 := hbx.cell 0
        have c1 := hbx.cell 1
        have c2 := hbx.cell 2
        have c3 := hbx.cell 3
        have c4 := hbx.cell 4
        have c5 := hbx.cell 5
        simp only [V.cells, List.getElem?_cons_zero, List.getElem?_cons_succ] at c0 c1 c2 c3 c4 c5
        have hlt := hbx.lt
        have HB3 := Lib.hid hB3
        clear hbx hb3 hB3 HT HBX2 HB2
        go_wp2_with fail
        refine (says_plain _ 2 (by decide) (by decide) _ _ _ _ _).mono ?_
        rintro e w4 ⟨rfl, hb4⟩
        go_wp2_with fail
        go_ret
        exact ⟨rfl, (HB3.out.alloc (by omega) _).trans (hb4.mono (by simp; omega))⟩
      · rw [if_neg (by decide), if_neg (by decide), if_pos rfl, if_pos ht] at hT
        have e1 : (t.toList == [116, 114, 117, 101]) = true := by simp [ht]
        clear ht
        have HT := Lib.hid hT
        clear hT
        go_wp2_with fail
        refine HT.out.mono ?_
        rintro e w3 ⟨hb3, rfl⟩
        have hbx := HBX2.out.grown (grown_below hb3 none) (by simp)
        have hB3 : Below w.heap.size w w3 := HB2.out.trans (hb3.mono HB2.out.size)
        clear c0 c1 c2 c3 c4 c5
        have c0 := hbx.cell 0
        have c1 := hbx.cell 1
        have c2 := hbx.cell 2
        have c3 := hbx.cell 3
        have c4 := hbx.cell 4
        have c5 := hbx.cell 5
        simp only [V.cells, List.getElem?_cons_zero, List.getElem?_cons_succ] at c0 c1 c2 c3 c4 c5
        have hlt := hbx.lt
        have HB3 := Lib.hid hB3
        clear hbx hb3 hB3 HT HBX2 HB2
        go_wp2_with fail
        have hR5 := ResAt.new w3 #[.int .i64 2, .int .i64 0, .string ⟨#[]⟩, .slice none 0 0, .slice none 0 0, .slice none 0 0, .int .i64 0]
        have hB5 : Below w.heap.size w (w3.alloc (.cells #[.int .i64 2, .int .i64 0, .string ⟨#[]⟩, .slice none 0 0, .slice none 0 0, .slice none 0 0, .int .i64 0] 30)) := HB3.out.alloc (by omega) _
        have k2 : (w3.alloc (.cells #[.int .i64 2, .int .i64 0, .string ⟨#[]⟩, .slice none 0 0, .slice none 0 0, .slice none 0 0, .int .i64 0] 30)).cell? ⟨w.heap.size, 2, none⟩ = some (.string t) := (World.cell?_alloc_lt _ _ _ hlt).trans c2
        clear c0 c1 c2 c3 c4 c5 HB3
        generalize w3.alloc (.cells #[.int .i64 2, .int .i64 0, .string ⟨#[]⟩, .slice none 0 0, .slice none 0 0, .slice none 0 0, .int .i64 0] 30) = w5 at *
        generalize w3.heap.size = g at *
        have r0 := hR5.cell 0
        have r1 := hR5.cell 1
        have r2 := hR5.cell 2
        have r3 := hR5.cell 3
        have r4 := hR5.cell 4
        have r5 := hR5.cell 5
        have r6 := hR5.cell 6
        simp at r0 r1 r2 r3 r4 r5 r6
        have HR5 := Lib.hid hR5
        have HB5 := Lib.hid hB5
        clear hR5 hB5
        go_region_with (first | (go_at_call 9; refine (specBool_any _ true).mono ?_; rintro e w6 ⟨rfl, hb6⟩; have hR6 := ResAt.below (w := w5.drew) HR5.out hb6; have HB6 := Lib.hid hb6; clear hb6; have q0 := hR6.cell 0; have q1 := hR6.cell 1; have q2 := hR6.cell 2; have q3 := hR6.cell 3; have q4 := hR6.cell 4; have q5 := hR6.cell 5; have q6 := hR6.cell 6; simp at q0 q1 q2 q3 q4 q5 q6; clear hR6) | (go_at_call 8; refine (says_plain _ 2 (by decide) (by decide) _ _ _ _ _).mono ?_; rintro e w7 ⟨rfl, hb7⟩))
        all_goals
          have A1 : Below w.heap.size w w5.drew := HB5.out.drew
          have A2 := A1.trans (HB6.out.mono A1.size)
          have A3 := A2.trans (hb7.mono A2.size)
          have HA3 := Lib.hid A3
          clear A1 A2 A3
          go_wp2_with fail
          go_ret
          exact ⟨rfl, HA3.out⟩
      · rw [if_neg (by decide), if_neg (by decide), if_pos rfl, if_neg (by rw [ht]; decide), if_pos ht] at hT
        have e1 : (t.toList == [116, 114, 117, 101]) = false := by simp [ht]
        have e2 : (t.toList == [102, 97, 108, 115, 101]) = true := by simp [ht]
        clear ht
        have HT := Lib.hid hT
        clear hT
        go_wp2_with fail
        refine HT.out.mono ?_
        rintro e w3 ⟨hb3, rfl⟩
        have hbx := HBX2.out.grown (grown_below hb3 none) (by simp)
        have hB3 : Below w.heap.size w w3 := HB2.out.trans (hb3.mono HB2.out.size)
        clear c0 c1 c2 c3 c4 c5
        have c0 := hbx.cell 0
        have c1 := hbx.cell 1
        have c2 := hbx.cell 2
        have c3 := hbx.cell 3
        have c4 := hbx.cell 4
        have c5 := hbx.cell 5
        simp only [V.cells, List.getElem?_cons_zero, List.getElem?_cons_succ] at c0 c1 c2 c3 c4 c5
        have hlt := hbx.lt
        have HB3 := Lib.hid hB3
        clear hbx hb3 hB3 HT HBX2 HB2
        go_wp2_with fail
        have hR5 := ResAt.new w3 #[.int .i64 1, .int .i64 0, .string ⟨#[]⟩, .slice none 0 0, .slice none 0 0, .slice none 0 0, .int .i64 0]
        have hB5 : Below w.heap.size w (w3.alloc (.cells #[.int .i64 1, .int .i64 0, .string ⟨#[]⟩, .slice none 0 0, .slice none 0 0, .slice none 0 0, .int .i64 0] 30)) := HB3.out.alloc (by omega) _
        have k2 : (w3.alloc (.cells #[.int .i64 1, .int .i64 0, .string ⟨#[]⟩, .slice none 0 0, .slice none 0 0, .slice none 0 0, .int .i64 0] 30)).cell? ⟨w.heap.size, 2, none⟩ = some (.string t) := (World.cell?_alloc_lt _ _ _ hlt).trans c2
        clear c0 c1 c2 c3 c4 c5 HB3
        generalize w3.alloc (.cells #[.int .i64 1, .int .i64 0, .string ⟨#[]⟩, .slice none 0 0, .slice none 0 0, .slice none 0 0, .int .i64 0] 30) = w5 at *
        generalize w3.heap.size = g at *
        have r0 := hR5.cell 0
        have r1 := hR5.cell 1
        have r2 := hR5.cell 2
        have r3 := hR5.cell 3
        have r4 := hR5.cell 4
        have r5 := hR5.cell 5
        have r6 := hR5.cell 6
        simp at r0 r1 r2 r3 r4 r5 r6
        have HR5 := Lib.hid hR5
        have HB5 := Lib.hid hB5
        clear hR5 hB5
        go_region_with (first | (go_at_call 9; refine (specBool_any _ false).mono ?_; rintro e w6 ⟨rfl, hb6⟩; have hR6 := ResAt.below (w := w5.drew) HR5.out hb6; have HB6 := Lib.hid hb6; clear hb6; have q0 := hR6.cell 0; have q1 := hR6.cell 1; have q2 := hR6.cell 2; have q3 := hR6.cell 3; have q4 := hR6.cell 4; have q5 := hR6.cell 5; have q6 := hR6.cell 6; simp at q0 q1 q2 q3 q4 q5 q6; clear hR6) | (go_at_call 8; refine (says_plain _ 1 (by decide) (by decide) _ _ _ _ _).mono ?_; rintro e w7 ⟨rfl, hb7⟩))
        all_goals
          have A1 : Below w.heap.size w w5.drew := HB5.out.drew
          have A2 := A1.trans (HB6.out.mono A1.size)
          have A3 := A2.trans (hb7.mono A2.size)
          have HA3 := Lib.hid A3
          clear A1 A2 A3
          go_wp2_with fail
          go_ret
          exact ⟨rfl, HA3.out⟩
      · rw [if_neg (by decide), if_neg (by decide), if_pos rfl, if_neg ht, if_neg hf] at hT
        have e1 : (t.toList == [116, 114, 117, 101]) = false := by simp [ht]
        have e2 : (t.toList == [102, 97, 108, 115, 101]) = false := by simp [hf]
        clear ht hf
        have HT := Lib.hid hT
        clear hT
        go_wp2_with fail
        refine HT.out.mono ?_
        rintro e w3 ⟨hb3, rfl⟩
        have hbx := HBX2.out.grown (grown_below hb3 none) (by simp)
        have hB3 : Below w.heap.size w w3 := HB2.out.trans (hb3.mono HB2.out.size)
        clear c0 c1 c2 c3 c4 c5
        have c0 := hbx.cell 0
        have c1 := hbx.cell 1
        have c2 := hbx.cell 2
        have c3 := hbx.cell 3
        have c4 := hbx.cell 4
        have c5 := hbx.cell 5
        simp only [V.cells, List.getElem?_cons_zero, List.getElem?_cons_succ] at c0 c1 c2 c3 c4 c5
        have hlt := hbx.lt
        have HB3 := Lib.hid hB3
        clear hbx hb3 hB3 HT HBX2 HB2
        go_wp2_with fail
        refine (wrong_err _).mono ?_
        rintro e w4 ⟨rfl, hb4⟩
        go_wp2_with fail
        go_ret
        exact ⟨rfl, (HB3.out.alloc (by omega) _).trans (hb4.mono (by simp; omega))⟩
      · rw [if_neg h1, if_neg h2, if_neg h4] at hT
        have e1 : (k == 1) = false := by simp [h1]
        have e2 : (k == 2) = false := by simp [h2]
        have e4 : (k == 4) = false := by simp [h4]
        clear h1 h2 h4
        have HT := Lib.hid hT
        clear hT
        go_wp2_with fail
        refine HT.out.mono ?_
        rintro e w3 ⟨hb3, rfl⟩
        have hbx := HBX2.out.grown (grown_below hb3 none) (by simp)
        have hB3 : Below w.heap.size w w3 := HB2.out.trans (hb3.mono HB2.out.size)
        clear c0 c1 c2 c3 c4 c5
        have c0 := hbx.cell 0
        have c1 := hbx.cell 1
        have c2 := hbx.cell 2
        have c3 := hbx.cell 3
        have c4 := hbx.cell 4
        have c5 := hbx.cell 5
        simp only [V.cells, List.getElem?_cons_zero, List.getElem?_cons_succ] at c0 c1 c2 c3 c4 c5
        have hlt := hbx.lt
        have HB3 := Lib.hid hB3
        clear hbx hb3 hB3 HT HBX2 HB2
        go_wp2_with fail
        refine (wrong_err _).mono ?_
        rintro e w4 ⟨rfl, hb4⟩
        go_wp2_with fail
        go_ret
        exact ⟨rfl, (HB3.out.alloc (by omega) _).trans (hb4.mono (by simp; omega))⟩
end Go.Proofs.YtpigccnlembfdaaDoor
