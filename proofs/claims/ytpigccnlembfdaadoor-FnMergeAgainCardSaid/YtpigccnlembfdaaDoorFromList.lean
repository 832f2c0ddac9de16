/- The walk of impl.listFromGo: a list that is represented comes back as a right tree. Conditions: as each theorem states. -/
import Derived.Test.YtpigccnlembfdaaDoorFrom
namespace Go.Proofs.YtpigccnlembfdaaDoor
open Go.RowKit

theorem info_val : (Tryd.prog.info? 26).map (fun i => (i.zero, i.size, i.bytes)) = some (some (.agg #[.int .i64 0, .int .i64 0, .string ⟨#[]⟩, .slice none 0 0, .slice none 0 0, .slice none 0 0]), 6, 104) := by kernel_rfl

/-- The six cells of an empty tree of kind k whose slices are a, b, c. -/
def six3 (k : Int) (a b c : Value) : Array Value := #[.int .i64 k, .int .i64 0, .string ⟨#[]⟩, a, b, c]
def nils : Value := .slice none 0 0

structure LF (w wr : World) (l : List J) (k : Nat) (L : List V) (sv : Value) : Prop where
  below : Below w.heap.size w wr
  res : Cells wr w.heap.size 26 (six3 0 nils nils nils)
  out : Cells wr (w.heap.size + 1) 26 (six3 5 sv nils nils)
  own : wr.ownsRow (w.heap.size + 2) 26 6 sv k (L.flatMap V.cells)
  len : L.length = k
  toJ : toJAll L = l.take k
  good : GoodAll L
  parts : partsAll L = jpartsAll (l.take k)
  all : AllIn wr wr.heap.size L
  blocks : BlocksAll (fun b => (w.heap.size + 2 ≤ b ∧ sv.ownBlock ≠ some b) ∧ b < wr.heap.size) L

theorem cells_len (x : V) : x.cells.length = 6 := by cases x; rfl
theorem cells_one (x : V) : ∀ u ∈ x.cells, u.oneCell' = true := by
  cases x; intro u hu; simp [V.cells] at hu; rcases hu with rfl | rfl | rfl | rfl | rfl | rfl <;> rfl
theorem flat_snoc (L : List V) (x : V) : (L ++ [x]).flatMap V.cells = L.flatMap V.cells ++ x.cells := by simp
theorem allIn_snoc {w : World} {B : Nat} : ∀ {L : List V} {x : V}, AllIn w B L → x.In w B → AllIn w B (L ++ [x])
  | [], x, _, hx => by simp only [List.nil_append]; unfold AllIn; exact ⟨hx, by unfold AllIn; trivial⟩
  | y :: r, x, h, hx => by simp only [List.cons_append]; unfold AllIn at h ⊢; exact ⟨h.1, allIn_snoc h.2 hx⟩
theorem blocksAll_snoc {S : Nat → Prop} : ∀ {L : List V} {x : V}, BlocksAll S L → x.Blocks S → BlocksAll S (L ++ [x])
  | [], x, _, hx => by simp only [List.nil_append]; unfold BlocksAll; exact ⟨hx, by unfold BlocksAll; trivial⟩
  | y :: r, x, h, hx => by simp only [List.cons_append]; unfold BlocksAll at h ⊢; exact ⟨h.1, blocksAll_snoc h.2 hx⟩
theorem jpartsAll_snoc : ∀ (L : List J) (x : J), jpartsAll (L ++ [x]) = jpartsAll L + x.parts
  | [], x => by simp [jpartsAll]
  | y :: r, x => by simp only [List.cons_append, jpartsAll, jpartsAll_snoc r x]; omega
theorem take_snocJ (l : List J) (k : Nat) (y : J) (h : l[k]? = some y) : l.take (k + 1) = l.take k ++ [y] := by
  rw [List.take_add_one, h]; rfl
theorem flat_at : ∀ (L : List V) (i j : Nat) (x : V) (u : Value), L[i]? = some x → x.cells[j]? = some u → (L.flatMap V.cells)[i * 6 + j]? = some u
  | [], i, j, x, u, h, _ => by simp at h
  | y :: r, 0, j, x, u, h, hu => by
    simp at h; subst h
    have hj : j < y.cells.length := (List.getElem?_eq_some_iff.1 hu).1
    simp only [List.flatMap_cons, Nat.zero_mul, Nat.zero_add]
    rw [List.getElem?_append_left hj]; exact hu
  | y :: r, i + 1, j, x, u, h, hu => by
    have h' : r[i]? = some x := by simpa using h
    simp only [List.flatMap_cons]
    rw [List.getElem?_append_right (by rw [cells_len]; omega), cells_len, show (i + 1) * 6 + j - 6 = i * 6 + j by omega]
    exact flat_at r i j x u h' hu

/-- A row of trees that the walk owns. -/
theorem rowsV_of_own {w : World} {base k : Nat} {L : List V} {A : Option Addr} {c : Nat} (h : w.ownsRow base 26 6 (.slice A k c) k (L.flatMap V.cells)) : RowsV w w.heap.size A L := fun hn => by
  rcases h.2 with ⟨hv, hk⟩ | ⟨g, cap, cur, hv, hb, hg, r⟩
  · subst hk
    have h1 := h.1
    exfalso
    cases L with
    | nil => exact hn rfl
    | cons x r => simp [cells_len] at h1
  · cases hv
    refine ⟨⟨g, 0, none⟩, rfl, (Array.getElem?_eq_some_iff.1 hg).1, fun i x hx j u hu => ?_⟩
    exact h.cells rfl _ _ (flat_at L i j x u hx hu)

mutual
theorem V.Blocks.within {w : World} {B : Nat} {S : Nat → Prop} : ∀ {x : V}, V.In w B x → V.Blocks S x → V.Blocks (fun b => S b ∧ b < B) x
  | .mk k h t aL cL l aK cK ks aV cV vs, hx, hb => by
    unfold V.In at hx
    unfold V.Blocks at hb ⊢
    refine ⟨fun hn ad e => ⟨hb.1 hn ad e, ?_⟩, fun hn ad e => ⟨hb.2.1 hn ad e, ?_⟩, fun hn ad e => ⟨hb.2.2.1 hn ad e, ?_⟩, BlocksAll.within hx.2.2.2.2.1 hb.2.2.2.1, BlocksAll.within hx.2.2.2.2.2 hb.2.2.2.2⟩
    · obtain ⟨ad', e', h1, _⟩ := hx.2.1 hn
      rw [e] at e'; cases e'; exact h1
    · obtain ⟨ad', e', h1, _⟩ := hx.2.2.1 (by simpa using hn)
      rw [e] at e'; cases e'; exact h1
    · obtain ⟨ad', e', h1, _⟩ := hx.2.2.2.1 hn
      rw [e] at e'; cases e'; exact h1
theorem BlocksAll.within {w : World} {B : Nat} {S : Nat → Prop} : ∀ {l : List V}, AllIn w B l → BlocksAll S l → BlocksAll (fun b => S b ∧ b < B) l
  | [], _, _ => by unfold BlocksAll; trivial
  | x :: r, h, hb => by
    unfold AllIn at h
    unfold BlocksAll at hb ⊢
    exact ⟨V.Blocks.within h.1 hb.1, BlocksAll.within h.2 hb.2⟩
end

theorem Cells.set {w : World} {g : Nat} {t : TypeId} {cs : Array Value} (h : Cells w g t cs) (i : Nat) (v : Value) : Cells (w.setCell ⟨g, i, none⟩ v) g t (cs.setIfInBounds i v) := by
  unfold Cells at h ⊢
  simp [World.setCell, Array.getElem?_modify, h]
theorem set3 (k : Int) (a b c v : Value) : (six3 k a b c).setIfInBounds 3 v = six3 k v b c := rfl

/-- One more tree. -/
theorem LF.step {w wr w2 w5 : World} {l : List J} {k : Nat} {L : List V} {sv : Value} {j : J} {X : V} {o1 o2 : Obj} {g cap : Nat} (h : LF w wr l k L sv) (hj : l[k]? = some j)
    (hb2 : Below wr.heap.size wr w2) (hin : X.In w2 w2.heap.size) (hbl : X.Blocks (From wr.heap.size)) (hjx : X.toJ = j) (hgx : X.Good) (hpx : X.parts = j.parts)
    (hown : w5.ownsRow (w.heap.size + 2) 26 6 (.slice (some ⟨g, 0, none⟩) (k + 1) cap) (k + 1) (L.flatMap V.cells ++ X.cells)) (hg5 : ((w2.alloc o1).alloc o2).grownBy w5 sv.ownBlock)
    (hlies : sv.ownBlock = some g ∨ g = w2.heap.size + 2) :
    LF w (w5.setCell ⟨w.heap.size + 1, 3, none⟩ (.slice (some ⟨g, 0, none⟩) (k + 1) cap)) l (k + 1) (L ++ [X]) (.slice (some ⟨g, 0, none⟩) (k + 1) cap) := by
  have hol := h.own.lt
  have hg := hown.lt g rfl
  have hout := h.out.lt
  have hres := h.res.lt
  have hs2 := hb2.size
  have hs5 : w2.heap.size + 2 ≤ w5.heap.size := by have := hg5.size; simp at this; omega
  have hb4 : Below wr.heap.size wr ((w2.alloc o1).alloc o2) := (hb2.alloc hs2 _).alloc (by simp; omega) _
  have hgs := grown_set w5 (w.heap.size + 1) 3 (.slice (some ⟨g, 0, none⟩) (k + 1) cap)
  have hblk : ∀ b, b < w2.heap.size → sv.ownBlock ≠ some b → b ≠ w.heap.size + 1 → (w5.setCell ⟨w.heap.size + 1, 3, none⟩ (.slice (some ⟨g, 0, none⟩) (k + 1) cap)).heap[b]? = w2.heap[b]? := fun b h1 h2 h3 => by
    rw [hgs.block b (by omega) (by simpa using h3), hg5.block b (by simp; omega) (fun e => h2 e.symm)]
    have := ((Below.refl w2.heap.size w2).alloc (Nat.le_refl _) o1).alloc (by simp) o2
    exact this.block b h1
  have hB5 : Below w.heap.size w w5 := by
    have h4 := h.below.trans (hb4.mono h.below.size)
    exact h4.grown hg5 h4.size (fun b hb => by have := hol b hb; omega)
  have hO5 : Cells w5 (w.heap.size + 1) 26 (six3 5 sv nils nils) := (h.out.below hb4).keep hg5 (fun e => by have := hol _ e.symm; omega)
  have hR5 : Cells w5 w.heap.size 26 (six3 0 nils nils nils) := (h.res.below hb4).keep hg5 (fun e => by have := hol _ e.symm; omega)
  refine ⟨hB5.setCell (by simp) _, hR5.keep hgs (by simp), ?_, ?_, by simp [h.len], ?_, goodAll_snoc _ _ h.good hgx, ?_, allIn_snoc ?_ ?_, blocksAll_snoc ?_ ?_⟩
  · have := hO5.set 3 (.slice (some ⟨g, 0, none⟩) (k + 1) cap)
    rw [set3] at this; exact this
  · rw [flat_snoc]
    exact hown.kept hgs (Or.inr (by simp [Value.ownBlock]; omega))
  · rw [toJAll_snoc, h.toJ, hjx, take_snocJ l k j hj]
  · rw [partsAll_snoc, h.parts, hpx, take_snocJ l k j hj, jpartsAll_snoc]; simp
  · refine AllIn.stay (B := wr.heap.size) (by simp; omega) (fun p hp hlt => ?_) h.all h.blocks
    refine World.cell?_of_block ?_
    rw [hblk p.block (by omega) hp.1.2 (by omega)]
    exact hb2.block _ hlt
  · refine V.In.stay (B := w2.heap.size) (by simp; omega) (fun p hp hlt => World.cell?_of_block ?_) hin hbl
    simp only [From] at hp
    exact hblk p.block hlt (fun e => by have := hol _ e; omega) (by omega)
  · refine h.blocks.more fun b hb => ⟨⟨hb.1.1, fun e => ?_⟩, by simp; omega⟩
    simp [Value.ownBlock] at e
    subst e
    rcases hlies with h1 | h1
    · exact hb.1.2 h1
    · omega
  · refine (hbl.within hin).more fun b hb => ?_
    simp only [From] at hb
    refine ⟨⟨by omega, fun e => ?_⟩, by simp; omega⟩
    simp [Value.ownBlock] at e
    subst e
    rcases hlies with h1 | h1
    · have := hol _ h1; omega
    · omega

set_option maxRecDepth 100000 in
set_option maxHeartbeats 1000000 in
theorem listFrom_any (w : World) (A : Option Addr) (c : Nat) (l : List J) (us : List Value) (hus : us.length = l.length) (hcells : us ≠ [] → ∃ ad, A = some ad ∧ ad.block < w.heap.size ∧ ∀ (i : Nat) (u : Value), us[i]? = some u → w.cell? (ad.add i) = some u)
    (hlen : l.length ≤ 1000000)
    (hfrom : ∀ (i : Nat) (j : J) (u : Value), l[i]? = some j → us[i]? = some u → ∀ w', Below w.heap.size w w' → Calls Tryd.prog 25 #[u] w' (FromPost j w')) :
    Calls Tryd.prog 33 #[.slice A l.length c] w (FromPost (.list l) w) := by
  obtain ⟨n, hn⟩ : ∃ n, n = l.length := ⟨_, rfl⟩
  rw [← hn]
  rw [← hn] at hlen hus
  have HCE := Lib.hid hcells
  have HFR := Lib.hid hfrom
  have HN := Lib.hid hn
  have HUS := Lib.hid hus
  obtain ⟨i0, hi, he0⟩ := Option.map_eq_some_iff.1 info_val
  have hz0 : i0.zero = some (.agg #[.int .i64 0, .int .i64 0, .string ⟨#[]⟩, .slice none 0 0, .slice none 0 0, .slice none 0 0]) := congrArg (·.1) he0
  have hz1 : i0.size = 6 := congrArg (·.2.1) he0
  have hz2 : i0.bytes = 104 := congrArg (·.2.2) he0
  have HI := Lib.hid (And.intro hi (And.intro hz0 (And.intro hz1 hz2)))
  clear hcells hfrom hn hus hi he0 hz0 hz1 hz2
  go_enter Tryd.func33, Tryd.ntmps33
  go_wp2_with fail
  go_loopw [12] (fun i wr => ∃ (k : Nat) (L : List V) (sv : Value), k ≤ n ∧ i = .int .i64 k ∧ LF w wr l k L sv) (fun i _ => n - (intOf i).toNat)
  case atStart =>
    refine ⟨0, [], nils, Nat.zero_le _, rfl, ?_⟩
    have hA := Cells.new w 26 (six3 0 nils nils nils)
    refine ⟨below2 _ _ _, hA.below (below1 _ _), ?_, World.ownsRow_nil _ _ _ _, rfl, by simp [toJAll], by unfold GoodAll; trivial, by simp [partsAll, jpartsAll], by unfold AllIn; trivial, by unfold BlocksAll; trivial⟩
    have := Cells.new (w.alloc (.cells (six3 0 nils nils nils) 26)) 26 (six3 5 nils nils nils)
    rw [World.size_alloc] at this; exact this
  case round =>
    obtain ⟨k, L, sv, hk, rfl, hF⟩ := hrel
    by_cases hlt : k < n
    · obtain ⟨j, hj⟩ : ∃ j, l[k]? = some j := ⟨_, List.getElem?_eq_getElem (by rw [← HN.out]; exact hlt)⟩
      obtain ⟨u, hu⟩ : ∃ u, us[k]? = some u := ⟨_, List.getElem?_eq_getElem (by rw [HUS.out]; exact hlt)⟩
      obtain ⟨ad, rfl, hadb, hrow⟩ := HCE.out (by rintro rfl; simp at hu)
      have d0 : wr.cell? (ad.add k) = some u := (hF.below.cell (by rw [block_of_add]; exact hadb)).trans (hrow k u hu)
      have HC := Lib.hid (HFR.out k j u hj hu wr hF.below)
      have hbase := hF.below.size
      have HF := Lib.hid hF
      have HJ := Lib.hid hj
      obtain ⟨hi, hz0, hz1, hz2⟩ := HI.out
      clear hF hrow hj hu
      go_wp2_with fail
      refine HC.out.mono ?_
      rintro e w2 ⟨X, rfl, hb2, hin2, hbl2, hj2, hg2, hp2⟩
      have hO := HF.out.out.below hb2
      have hR := HF.out.res.below hb2
      have c3 := hO.cell 3
      have f3 := hO.frozen 3
      simp [six3] at c3
      have hOL := hO.lt
      have hown2 := HF.out.own.kept (grown_below hb2 none) (by cases sv.ownBlock <;> simp)
      have HO := Lib.hid hO
      have HR := Lib.hid hR
      have HX := Lib.hid (And.intro hin2 (And.intro hbl2 (And.intro hj2 (And.intro hg2 hp2))))
      have hone := cells_one X
      obtain ⟨xk, xh, xt, xaL, xcL, xl, xaK, xcK, xks, xaV, xcV, xvs⟩ := X
      rw [V.val_mk]
      simp only [V.cells] at hone
      have HONE := Lib.hid hone
      have HB2 := Lib.hid hb2
      have HOWN := Lib.hid hown2
      clear hin2 hbl2 hj2 hg2 hp2 hO hR hone hb2 hown2
      generalize hxl : xl.length = ml at *
      generalize hxk : xks.length = mk at *
      generalize hxv : xvs.length = mv at *
      have HXL := Lib.hid (And.intro hxl (And.intro hxk hxv))
      clear hxl hxk hxv
      go_wp2_with (at_builtin; refine wpList_append_lies _ rfl _ _ 23 rfl (w.heap.size + 2) 26 i0 (.agg #[.int .i64 0, .int .i64 0, .string ⟨#[]⟩, .slice none 0 0, .slice none 0 0, .slice none 0 0]) 6 104 Tryd.underlying23 hi hz0 hz1 hz2 rfl (by decide) sv k (L.flatMap V.cells) rfl ((HOWN.out.alloc _).alloc _) ⟨w2.heap.size + 1, 0, none⟩ 1 1 [.int .i64 xk, .int .i64 xh, .string xt, .slice xaL ml xcL, .slice xaK mk xcK, .slice xaV mv xcV] rfl rfl ?_ HONE.out (by decide) (by unfold maxLen; omega) (by omega) (by simp; omega) (w2.heap.size + 2) (by simp) ?_)
      · intro j u hu
        have hnew := heap_alloc_new (w2.alloc (.cells #[.int .i64 xk, .int .i64 xh, .string xt, .slice xaL ml xcL, .slice xaK mk xcK, .slice xaV mv xcV] 26)) (.cells #[.int .i64 xk, .int .i64 xh, .string xt, .slice xaL ml xcL, .slice xaK mk xcK, .slice xaV mv xcV] 26)
        rw [World.size_alloc] at hnew
        rw [show (⟨w2.heap.size + 1, 0, none⟩ : Addr).add j = ⟨w2.heap.size + 1, j, none⟩ by unfold Addr.add; split <;> simp_all]
        rw [cell_of_row _ (w2.heap.size + 1) j _ _ _ hnew]
        simpa using hu
      intro g cap w5 hown5 hg5 hlies hlt5
      have hol := HOWN.out.lt
      have hO5 := ((HO.out.below (below1 _ _)).below (below1 _ _)).keep hg5 (fun e => by have := hol _ e.symm; omega)
      have c3 := hO5.cell 3
      have f3 := hO5.frozen 3
      simp [six3] at c3
      have hOL5 := hO5.lt
      obtain ⟨y1, y2, y3⟩ := HXL.out
      have hS := LF.step (X := .mk xk xh xt xaL xcL xl xaK xcK xks xaV xcV xvs) HF.out HJ.out HB2.out HX.out.1 HX.out.2.1 HX.out.2.2.1 HX.out.2.2.2.1 HX.out.2.2.2.2 (by simp only [V.cells, y1, y2, y3]; exact hown5) hg5 hlies
      have HS := Lib.hid hS
      clear hS hO5 hown5 hg5 hlies y1 y2 y3
      go_wp2_with fail
      go_roundw
      case rel => exact ⟨k + 1, _, _, by omega, by go_num, HS.out⟩
      case measure => simp [intOf]; omega
    · have hkn : k = n := by omega
      have hsv : ∃ A' c', sv = .slice A' k c' ∧ k ≤ c' := by
        rcases hF.own.2 with ⟨h1, h2⟩ | ⟨g, cap, cur, h1, _, hg, h2, h3, h4, _⟩
        · exact ⟨none, 0, by rw [h1, h2], by omega⟩
        · exact ⟨_, cap, h1, h2⟩
      obtain ⟨A', c', rfl, hc1⟩ := hsv
      have c0 := hF.out.cell 0
      have c1 := hF.out.cell 1
      have c2 := hF.out.cell 2
      have c3 := hF.out.cell 3
      have c4 := hF.out.cell 4
      have c5 := hF.out.cell 5
      have r0 := hF.res.cell 0
      have r1 := hF.res.cell 1
      have r2 := hF.res.cell 2
      have r3 := hF.res.cell 3
      have r4 := hF.res.cell 4
      have r5 := hF.res.cell 5
      have f0 := hF.res.frozen 0
      have f1 := hF.res.frozen 1
      have f2 := hF.res.frozen 2
      have f3 := hF.res.frozen 3
      have f4 := hF.res.frozen 4
      have f5 := hF.res.frozen 5
      simp [six3, nils] at c0 c1 c2 c3 c4 c5 r0 r1 r2 r3 r4 r5
      have hlt1 := hF.res.lt
      have HF := Lib.hid hF
      have HKN := Lib.hid hkn
      have HC := Lib.hid hc1
      clear hF hkn hc1 HFR HCE
      go_wp2_with fail
      refine bodyPost_ret (v := .tuple #[.agg #[.int .i64 5, .int .i64 0, .string ⟨#[]⟩, .slice A' k c', .slice none 0 0, .slice none 0 0], .bool true]) (by simp [results, Tryd.results33, go_sem, r0, r1, r2, r3, r4, r5]) rfl ?_
      have hf := HF.out
      have hk := HKN.out
      have hcc := HC.out
      have hgs := grown_six wr w.heap.size (.int .i64 5) (.int .i64 0) (.string ⟨#[]⟩) (.slice A' k c') (.slice none 0 0) (.slice none 0 0)
      have hbase := hf.below.size
      have hl : l.take k = l := List.take_of_length_le (by rw [← HN.out]; omega)
      have hol := hf.own.lt
      have hbelow := below_six hf.below (Nat.le_refl _) (.int .i64 5) (.int .i64 0) (.string ⟨#[]⟩) (.slice A' k c') (.slice none 0 0) (.slice none 0 0)
      have hown := hf.own.kept hgs (by
        cases A' with
        | none => exact Or.inl rfl
        | some a => refine Or.inr (fun e => ?_); have := hol _ e; omega)
      generalize ((((((wr.setCell ⟨w.heap.size, 0, none⟩ (.int .i64 5)).setCell ⟨w.heap.size, 1, none⟩ (.int .i64 0)).setCell ⟨w.heap.size, 2, none⟩ (.string ⟨#[]⟩)).setCell ⟨w.heap.size, 3, none⟩ (.slice A' k c')).setCell ⟨w.heap.size, 4, none⟩ (.slice none 0 0)).setCell ⟨w.heap.size, 5, none⟩ (.slice none 0 0)) = wf at *
      have hlen2 := hf.len
      refine ⟨.mk 5 0 ⟨#[]⟩ A' c' L none 0 [] none 0 [], by rw [V.val_mk, hlen2]; rfl, hbelow, ?_, ?_, ?_, ?_, ?_⟩
      · unfold V.In
        refine ⟨?_, rowsV_of_own hown, reads_nil _ _ _, rowsV_nil _ _ _, ?_, by unfold AllIn; trivial⟩
        · unfold V.Own
          have : (⟨#[]⟩ : ByteArray).size = 0 := rfl
          simp [this]
          omega
        · refine AllIn.stay (B := wr.heap.size) hgs.size (fun p hp hlt => World.cell?_of_block (hgs.block p.block hlt (fun e => by injection e; omega))) hf.all hf.blocks
      · unfold V.Blocks
        refine ⟨fun hn ad e => ?_, fun h => absurd rfl h, fun h => absurd rfl h, hf.blocks.more fun b hb => by simp only [From]; omega, by unfold BlocksAll; trivial⟩
        subst e
        have := hol ad.block rfl
        simp only [From]; omega
      · simp only [V.toJ]
        simp
        rw [hf.toJ, hl]
      · unfold V.Good
        refine ⟨⟨by decide, by decide, Or.inr rfl, Or.inr empty_list, Or.inl rfl, Or.inr rfl, rfl⟩, c2_zero, valid_empty, keys_nil, hf.good, by unfold GoodAll; trivial⟩
      · simp only [V.parts, J.parts, partsAll, hf.parts, hl]
        omega
end Go.Proofs.YtpigccnlembfdaaDoor
