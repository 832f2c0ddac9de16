/- spec.JSON at any good tree. Conditions: as each theorem states. -/
import Derived.Test.YtpigccnlembfdaaGreatDoorPvH
import Derived.Test.YtpigccnlembfdaaGreatDoorPvE
import Derived.Test.YtpigccnlembfdaaGreatDoorPvC
import Derived.Deep.Cut
import Derived.Deep.AppendLies

/- How long the JSON text of a good tree is; the cells of a row of trees. Conditions: none. -/
namespace Go.Proofs.YtpigccnlembfdaaGreatDoor
open Go.RowKit

theorem figs_len (h : Int) (h0 : -18014398509481984 ≤ h) (h1 : h ≤ 18014398509481984) : (figs h).length ≤ 64 := by
  have key : ∀ n : Nat, n ≤ 18014398509481984 → (figs n).length ≤ 63 := fun n hn => by
    have hd := dec_length 19 (n / 2) (by omega)
    by_cases ho : n % 2 = 0
    · rw [figs_even n ho]; omega
    · rw [figs_odd n ho]; simp; omega
  by_cases hn : h < 0
  · obtain ⟨n, rfl⟩ : ∃ n : Nat, h = -(n : Int) := ⟨h.natAbs, by omega⟩
    rw [figs_neg n (by omega)]
    have := key n (by omega)
    simp; omega
  · obtain ⟨n, rfl⟩ : ∃ n : Nat, h = (n : Int) := ⟨h.toNat, by omega⟩
    have := key n (by omega)
    omega
theorem keyed_all_len : ∀ (ks : List ByteArray) (vs : List V), ks.length = vs.length → (total (List.zipWith keyed ks (jsonAll vs)) : Int) ≤ 6 * sizes ks + 3 * vs.length + total (jsonAll vs)
  | [], [], _ => by simp [total, sizes, jsonAll]
  | [], _ :: _, h => by simp at h
  | _ :: _, [], h => by simp at h
  | s :: ks, v :: vs, h => by
    have ih := keyed_all_len ks vs (by simpa using h)
    have h1 := jqs_len s.data.toList
    have h2 := Lib.size_eq s
    simp only [jsonAll, List.zipWith_cons_cons, total, sizes, keyed, List.length_append, List.length_cons, List.length_nil]
    omega
mutual
theorem jsonT_len : ∀ x : V, x.Good → (x.jsonT.length : Int) + 5 ≤ 6 * x.bytes + 70 * x.parts
  | .mk k h t aL cL l aK cK ks aV cV vs, hg => by
    unfold V.Good at hg
    obtain ⟨hc1, hc2, _, _, hgl, hgv⟩ := hg
    have hl := jsonAll_len l hgl
    have hv := jsonAll_len vs hgv
    have hlv : ks.length = vs.length := by obtain ⟨_, _, _, _, _, _, h⟩ := hc1; exact h
    have hk := keyed_all_len ks vs hlv
    have b1 := bytes_posAll l
    have b2 := bytes_posAll vs
    have b3 := sizes_pos ks
    have p1 := partsAll_nonneg l
    have p2 := partsAll_nonneg vs
    have hf := figs_len h hc2.1 hc2.2.1
    have hq := jqs_len t.data.toList
    have ht := Lib.size_eq t
    have c1 := commas_len (jsonAll l)
    have c2 := commas_len (List.zipWith keyed ks (jsonAll vs))
    simp only [V.jsonT, V.bytes, V.parts]
    repeat' split
    all_goals (try simp only [List.length_cons, List.length_append, List.length_nil])
    all_goals omega
theorem jsonAll_len : ∀ l : List V, GoodAll l → (total (jsonAll l) : Int) + 4 * l.length ≤ 6 * bytesAll l + 70 * partsAll l
  | [], _ => by simp [total, jsonAll, bytesAll, partsAll]
  | x :: r, hg => by
    unfold GoodAll at hg
    have h1 := jsonT_len x hg.1
    have h2 := jsonAll_len r hg.2
    simp only [jsonAll, total, bytesAll, partsAll, List.length_cons]
    omega
end
theorem jsonT_small (x : V) (hg : x.Good) (hb : x.bytes ≤ 2000) (hp : x.parts ≤ 400) : x.jsonT.length ≤ 40000 := by
  have := jsonT_len x hg; omega
/-- The cells of a row of trees. -/
def flatV (l : List V) : List Value := l.flatMap V.cells
theorem cells_length (x : V) : x.cells.length = 6 := by cases x; rfl
theorem flatV_length : ∀ l : List V, (flatV l).length = l.length * 6
  | [] => rfl
  | x :: r => by
    have := flatV_length r
    simp only [flatV, List.flatMap_cons, List.length_append, cells_length, List.length_cons] at this ⊢
    omega
theorem flatV_get : ∀ (l : List V) (k j : Nat) (x : V), l[k]? = some x → j < 6 → (flatV l)[k * 6 + j]? = x.cells[j]?
  | [], k, j, x, h, _ => by simp at h
  | y :: r, 0, j, x, h, hj => by
    simp at h; subst h
    simp only [flatV, List.flatMap_cons, Nat.zero_mul, Nat.zero_add]
    rw [List.getElem?_append_left (by rw [cells_length]; exact hj)]
  | y :: r, k + 1, j, x, h, hj => by
    have ih := flatV_get r k j x (by simpa using h) hj
    simp only [flatV, List.flatMap_cons] at ih ⊢
    rw [List.getElem?_append_right (by rw [cells_length]; omega), cells_length, show (k + 1) * 6 + j - 6 = k * 6 + j by omega]
    exact ih
theorem flatV_row {w : World} {ad : Addr} {l : List V} (h : ∀ (i : Nat) (x : V), l[i]? = some x → ∀ (j : Nat) (u : Value), x.cells[j]? = some u → w.cell? (ad.add (i * 6 + j)) = some u) : ∀ (j : Nat) (u : Value), (flatV l)[j]? = some u → w.cell? (ad.add j) = some u := fun j u hu => by
  have hj : j < l.length * 6 := by rw [← flatV_length]; exact (List.getElem?_eq_some_iff.1 hu).1
  have hi : j / 6 < l.length := by omega
  have hx : l[j / 6]? = some l[j / 6] := List.getElem?_eq_getElem hi
  have hd : j / 6 * 6 + j % 6 = j := by omega
  have := flatV_get l (j / 6) (j % 6) _ hx (by omega)
  rw [hd, hu] at this
  have h2 := h _ _ hx (j % 6) u this.symm
  rwa [hd] at h2
theorem flatV_one (l : List V) : ∀ u ∈ flatV l, u.oneCell' = true := fun u hu => by
  obtain ⟨x, _, hx⟩ := List.mem_flatMap.1 hu
  obtain ⟨k, h, t, aL, cL, l, aK, cK, ks, aV, cV, vs⟩ := x
  simp only [V.cells, List.mem_cons, List.not_mem_nil, or_false] at hx
  rcases hx with rfl | rfl | rfl | rfl | rfl | rfl <;> rfl
end Go.Proofs.YtpigccnlembfdaaGreatDoor

/- The walk of spec.JSON at any good tree. Conditions: as each theorem states. -/
namespace Go.Proofs.YtpigccnlembfdaaGreatDoor
open Go.RowKit Go.Deep

set_option maxRecDepth 100000 in
theorem json_null (w : World) (h : Int) (t : ByteArray) (a b c : Value) :
    Calls Tryz.prog 8 #[.agg #[.int .i64 0, .int .i64 h, .string t, a, b, c]] w (TextPost [110, 117, 108, 108] w) := by
  have HB := Lib.hid (below1 w (.cells #[.int .i64 0, .int .i64 h, .string t, a, b, c] 26))
  go_enter Tryz.func8, Tryz.ntmps8
  go_wp2_with fail
  go_ret2
  exact ⟨HB.out, Or.inl rfl⟩
set_option maxRecDepth 100000 in
theorem json_text (w : World) (h : Int) (t : ByteArray) (a b c : Value) (ht : t.size ≤ 1000000) :
    Calls Tryz.prog 8 #[.agg #[.int .i64 4, .int .i64 h, .string t, a, b, c]] w (TextPost (34 :: (jqs t.data.toList ++ [34])) w) := by
  have HB := Lib.hid (below1 w (.cells #[.int .i64 4, .int .i64 h, .string t, a, b, c] 26))
  have HQ := Lib.hid (fun w' => quoted_any w' t ht)
  obtain ⟨S, hS⟩ : ∃ S, S = 34 :: (jqs t.data.toList ++ [34]) := ⟨_, rfl⟩
  unfold QuoPost at HQ
  rw [← hS] at HQ ⊢
  clear hS
  go_enter Tryz.func8, Tryz.ntmps8
  go_wp2_with fail
  refine (HQ.out _).mono ?_
  rintro e w2 ⟨hb2, rfl | rfl⟩
  · have HB2 := Lib.hid (HB.out.trans (hb2.mono HB.out.size))
    clear hb2
    go_wp2_with fail
    go_ret2
    exact ⟨HB2.out, Or.inl rfl⟩
  · have HB2 := Lib.hid (HB.out.trans (hb2.mono HB.out.size))
    clear hb2
    go_wp2_with fail
    go_ret2
    exact ⟨HB2.out, Or.inr ⟨⟨#[]⟩, by decide, rfl⟩⟩
theorem info_val : (Tryz.prog.info? 26).map (fun i => (i.zero, i.size, i.bytes)) = some (some (.agg #[.int .i64 0, .int .i64 0, .string ⟨#[]⟩, .slice none 0 0, .slice none 0 0, .slice none 0 0]), 6, 104) := by kernel_rfl
theorem run_append_none (w : World) (v : Value) (g n c : Nat) (hv : v = .slice (some ⟨g, 0, none⟩) n c) (hc : n ≤ c) (A : Option Addr) (c2 : Nat) : (Builtin.append_ #[23, 23] 23 #[v, .slice A 0 c2]).run Tryz.prog w = .ok v w := by
  obtain ⟨i9, hi, he⟩ := Option.map_eq_some_iff.1 info_val
  clear he
  subst hv
  cases A <;> simp [Builtin.append_, run_underlying Tryz.underlying23, sizeOf, typeInfo, hi, Builtin.lenOf, Builtin.firstCells, storeCells, loadCells, loadCellsFrom, Nat.not_lt.2 hc]
/-- The row of trees that the loop goes through: new, or none. -/
def Rows6 (w : World) (A : Option Addr) (l : List V) : Prop := ∀ (k : Nat) (x : V), l[k]? = some x → ∃ ad, A = some ad ∧ ad.block < w.heap.size ∧ ∀ (j : Nat) (u : Value), x.cells[j]? = some u → w.cell? (ad.add (k * 6 + j)) = some u
theorem step_append_ran {P : Program} (w : World) {ops : Array Oper} {o : Oper} {a : Act} {K : Act → World → Prop} {Q : Exit → Act → World → Prop} {E : Prop} (hgd : o.guard = none) (x y : Operand) (t t' : TypeId) (ho : o.op = .call { callee := .builtin .append, args := #[x, y], argTypes := #[t, t'] })
    (v u v' : Value) (w' : World) (hx : a.eval x = v) (hy : a.eval y = u) (hr : (Builtin.append_ #[t, t'] o.type #[v, u]).run P w = .ok v' w') (h : K (a.put o.dst v') w') : if Region.wanted o (yielded ops a.tmps) = true then Oper.wp P o a w K Q else E := by
  have hw : Region.wanted o (yielded ops a.tmps) = true := by simp [Region.wanted, hgd]
  rw [if_pos hw]
  unfold Oper.wp execOp
  simp only [ho, resolve, invoke, builtin, Sem.run_bind, Sem.run_pure, Result.andThen_ok, List.map_toArray, List.map_cons, List.map_nil, hx, hy, hr]
  exact h
theorem list_join0 (a b : List UInt8) : strL a ++ strL b = strL (a ++ [] ++ b) := by rw [List.append_nil, strL_app]
theorem list_join1 (a b : List UInt8) : (strL a ++ ⟨#[44]⟩) ++ strL b = strL (a ++ [44] ++ b) := by rw [← strL_app, ← strL_app]; rfl
theorem key_join0 (a : List UInt8) (s : ByteArray) (b : List UInt8) (q : List UInt8) (hq : q = 34 :: (jqs s.data.toList ++ [34])) : (strL a ++ (strL q ++ ⟨#[58]⟩)) ++ strL b = strL (a ++ [] ++ keyed s b) := by
  subst hq
  rw [show (⟨#[58]⟩ : ByteArray) = strL [58] from rfl, strL_app, strL_app, strL_app]
  simp [keyed]
theorem key_join1 (a : List UInt8) (s : ByteArray) (b : List UInt8) (q : List UInt8) (hq : q = 34 :: (jqs s.data.toList ++ [34])) : ((strL a ++ ⟨#[44]⟩) ++ (strL q ++ ⟨#[58]⟩)) ++ strL b = strL (a ++ [44] ++ keyed s b) := by
  subst hq
  rw [show (⟨#[58]⟩ : ByteArray) = strL [58] from rfl, show (⟨#[44]⟩ : ByteArray) = strL [44] from rfl, strL_app, strL_app, strL_app, strL_app]
  simp [keyed]

set_option maxRecDepth 100000 in
set_option maxHeartbeats 16000000 in
theorem json_list (w : World) (B : Nat) (h : Int) (t : ByteArray) (aL : Option Addr) (cL n : Nat) (l : List V) (b : Value) (aV : Option Addr) (cV : Nat) (hB : B ≤ w.heap.size) (hrow : RowsV w B aL l) (hn : n = l.length) (hn4 : n ≤ 400) (hcL : n ≤ cL) (hlen : total (jsonAll l) ≤ 40000)
    (hel : ∀ y ∈ l, ∀ w', Below w.heap.size w w' → Calls Tryz.prog 8 #[y.val] w' (TextPost y.jsonT w')) :
    Calls Tryz.prog 8 #[.agg #[.int .i64 5, .int .i64 h, .string t, .slice aL n cL, b, .slice aV 0 cV]] w (TextPost (91 :: (commas (jsonAll l) ++ [93])) w) := by
  obtain ⟨i9, hi, he⟩ := Option.map_eq_some_iff.1 info_val
  have hz0 : i9.zero = some (.agg #[.int .i64 0, .int .i64 0, .string ⟨#[]⟩, .slice none 0 0, .slice none 0 0, .slice none 0 0]) := congrArg (·.1) he
  have hz1 : i9.size = 6 := congrArg (·.2.1) he
  have hz2 : i9.bytes = 104 := congrArg (·.2.2) he
  have HB := Lib.hid (below1 w (.cells #[.int .i64 5, .int .i64 h, .string t, .slice aL n cL, b, .slice aV 0 cV] 26))
  have hbx := heap_alloc_new w (.cells #[.int .i64 5, .int .i64 h, .string t, .slice aL n cL, b, .slice aV 0 cV] 26)
  have HBX := Lib.hid hbx
  have HROW := Lib.hid hrow
  have HEL := Lib.hid hel
  have HN := Lib.hid hn
  have HLEN := Lib.hid hlen
  clear hbx hrow hel hn hlen he
  go_enter Tryz.func8, Tryz.ntmps8
  go_upto_region 17 with fail
  go_cut [70, 71, 72] from 64 to 120 (fun s70 s71 s72 wx => ∃ (A : Option Addr) (c : Nat), s70 = .slice A n c ∧ s71 = .int .i64 n ∧ s72 = .int .i64 0 ∧ Hid (Rows6 wx A l ∧ Below w.heap.size w wx ∧ wx.heap[w.heap.size]? = some (.cells #[.int .i64 5, .int .i64 h, .string t, .slice aL n cL, b, .slice aV 0 cV] 26 (0, 0))))
  case first =>
    refine wp_region_S (Sf := Till 7 (fun W => W.heap[w.heap.size]? = some (.cells #[.int .i64 5, .int .i64 h, .string t, .slice aL n cL, b, .slice aV 0 cV] 26 (0, 0))) (fun _ => True)) (by kernel_rfl) ?_
    have hrd : (w.alloc (.cells #[.int .i64 5, .int .i64 h, .string t, .slice aL n cL, b, .slice aV 0 cV] 26)).drew.heap[w.heap.size]? = some (.cells #[.int .i64 5, .int .i64 h, .string t, .slice aL n cL, b, .slice aV 0 cV] 26 (0, 0)) := HBX.out
    have HD := Lib.hid (show Below w.heap.size w (w.alloc (.cells #[.int .i64 5, .int .i64 h, .string t, .slice aL n cL, b, .slice aV 0 cV] 26)).drew from HB.out.drew)
    have HWD := Lib.hid (show (w.alloc (.cells #[.int .i64 5, .int .i64 h, .string t, .slice aL n cL, b, .slice aV 0 cV] 26)).drew.heap.size = w.heap.size + 1 by simp)
    generalize (w.alloc (.cells #[.int .i64 5, .int .i64 h, .string t, .slice aL n cL, b, .slice aV 0 cV] 26)).drew = wd at *
    refine till_take_R (i := 1) 65 (.pointer (some ⟨w.heap.size, 3, none⟩)) rfl rfl (by kernel_rfl) (by kernel_rfl) (by kernel_rfl) (by decide) (fun _ _ _ h => h) (Or.inl ⟨by rfl, ?_⟩) ⟨hrd, fun _ => trivial⟩ ?_
    · intro W hW; have y := cell_of_row W _ 3 _ _ _ hW; simp only [List.getElem?_toArray, List.getElem?_cons_zero, List.getElem?_cons_succ] at y; have yl := (Array.getElem?_eq_some_iff.1 hW).1; clear hW; go_simp
    simp only [Act.put, List.setIfInBounds_toArray, List.set_cons_zero, List.set_cons_succ]
    refine till_take_R (i := 2) 66 (.slice aL n cL) rfl rfl (by kernel_rfl) (by kernel_rfl) (by kernel_rfl) (by decide) (fun _ _ _ h => h) (Or.inl ⟨by rfl, ?_⟩) ⟨hrd, fun _ => trivial⟩ ?_
    · intro W hW; have y := cell_of_row W _ 3 _ _ _ hW; simp only [List.getElem?_toArray, List.getElem?_cons_zero, List.getElem?_cons_succ] at y; have yl := (Array.getElem?_eq_some_iff.1 hW).1; clear hW; go_simp
    simp only [Act.put, List.setIfInBounds_toArray, List.set_cons_zero, List.set_cons_succ]
    refine till_take_R (i := 4) 68 (.pointer (some ⟨w.heap.size, 5, none⟩)) rfl rfl (by kernel_rfl) (by kernel_rfl) (by kernel_rfl) (by decide) (fun _ _ _ h => h) (Or.inl ⟨by rfl, ?_⟩) ⟨hrd, fun _ => trivial⟩ ?_
    · intro W hW; have y := cell_of_row W _ 5 _ _ _ hW; simp only [List.getElem?_toArray, List.getElem?_cons_zero, List.getElem?_cons_succ] at y; have yl := (Array.getElem?_eq_some_iff.1 hW).1; clear hW; go_simp
    simp only [Act.put, List.setIfInBounds_toArray, List.set_cons_zero, List.set_cons_succ]
    refine till_take_R (i := 5) 69 (.slice aV 0 cV) rfl rfl (by kernel_rfl) (by kernel_rfl) (by kernel_rfl) (by decide) (fun _ _ _ h => h) (Or.inl ⟨by rfl, ?_⟩) ⟨hrd, fun _ => trivial⟩ ?_
    · intro W hW; have y := cell_of_row W _ 5 _ _ _ hW; simp only [List.getElem?_toArray, List.getElem?_cons_zero, List.getElem?_cons_succ] at y; have yl := (Array.getElem?_eq_some_iff.1 hW).1; clear hW; go_simp
    simp only [Act.put, List.setIfInBounds_toArray, List.set_cons_zero, List.set_cons_succ]
    refine till_take_R (i := 8) 72 (.int .i64 0) rfl rfl (by kernel_rfl) (by kernel_rfl) (by kernel_rfl) (by decide) (fun _ _ _ h => h) (Or.inl ⟨by rfl, ?_⟩) ⟨hrd, fun _ => trivial⟩ ?_
    · intro W hW; go_simp
    simp only [Act.put, List.setIfInBounds_toArray, List.set_cons_zero, List.set_cons_succ]
    have hown0 : (wd.alloc (.cells #[] 26)).ownsRow wd.heap.size 26 6 (.slice (some ⟨wd.heap.size, 0, none⟩) 0 0) 0 [] := World.ownsRow_lit (base := wd.heap.size) (e := 26) (size := 6) wd #[] 0 (Nat.le_refl _) (by decide) rfl
    have hre := (Lib.alloc_old wd (.cells #[] 26) w.heap.size (Array.getElem?_eq_some_iff.1 hrd).1).trans hrd
    have hce : ∀ q : Addr, q.block < w.heap.size → (wd.alloc (.cells #[] 26)).cell? q = w.cell? q := fun q hq => (World.cell?_alloc_lt _ _ _ (by have := HWD.out; omega)).trans (HD.out.cell hq)
    have HE := Lib.hid (HD.out.alloc HD.out.size (.cells #[] 26))
    have HES := Lib.hid (show (wd.alloc (.cells #[] 26)).heap.size = wd.heap.size + 1 by simp)
    refine anyS_ready (rs := [0]) (by kernel_rfl) (by simp) ?_
    refine AllS.cons rfl (fun K hK => ?_) AllS.nil
    go_simp
    refine hK.out _ _ ⟨hre, fun _ => trivial⟩ ?_
    clear hK K hrd
    generalize wd.alloc (.cells #[] 26) = we at *
    by_cases hpos : 0 < n
    · obtain ⟨ad, rfl, had, hc0⟩ := HROW.out (by rintro rfl; have := HN.out; simp at this; omega)
      refine anyS_ready (rs := [3]) (by kernel_rfl) (by simp) ?_
      refine AllS.cons rfl (fun K hK => ?_) AllS.nil
      refine step_append_lies _ rfl (.tmp 64) (.tmp 66) 23 rfl wd.heap.size 26 i9 _ 6 104 Tryz.underlying23 hi hz0 hz1 hz2 rfl (by decide) (.slice (some ⟨wd.heap.size, 0, none⟩) 0 0) 0 [] rfl hown0 ad n cL (flatV l) rfl (by rw [flatV_length, ← HN.out]) (fun j u hj => (hce _ (by rw [block_of_add]; omega)).trans (flatV_row hc0 j u hj)) (flatV_one l) hpos (by unfold maxLen; omega) (by omega) (by have := HES.out; omega) _ rfl ?_
      intro G cap W hownW hgW hGG hGl
      rw [Nat.zero_add] at hownW ⊢
      have hcap : n ≤ cap := by
        rcases hownW.2 with ⟨h1, _⟩ | ⟨g', cap', cur, h1, _, _, h4, _⟩
        · simp at h1
        · simp only [Value.slice.injEq] at h1
          omega
      have hGW : w.heap.size < G := by
        have hwd := HWD.out
        have hes := HES.out
        rcases hGG with hq | hq
        · simp only [Value.ownBlock] at hq
          have := Option.some.inj hq
          omega
        · omega
      have hrW := (hgW.block _ (by have := HWD.out; have := HES.out; omega) (by have := HWD.out; simp [Value.ownBlock]; omega)).trans hre
      have hBW : Below w.heap.size w W := HE.out.grown hgW HE.out.size (fun q hq => by have := HWD.out; simp [Value.ownBlock] at hq; omega)
      refine hK.out _ _ ⟨hrW, fun _ => trivial⟩ ?_
      clear hK K
      simp only [Act.put]
      have hap : (Builtin.append_ #[23, 23] 23 #[.slice (some ⟨G, 0, none⟩) n cap, .slice aV 0 cV]).run Tryz.prog W = .ok (.slice (some ⟨G, 0, none⟩) n cap) W := run_append_none W _ G n cap rfl hcap aV cV
      refine anyS_ready (rs := [6]) (by kernel_rfl) (by simp) ?_
      refine AllS.cons rfl (fun K hK => ?_) AllS.nil
      refine step_append_ran W rfl (.tmp 67) (.tmp 69) 23 23 rfl _ _ _ W rfl rfl hap ?_
      refine hK.out _ _ ⟨hrW, fun _ => trivial⟩ ?_
      clear hK K hap
      simp only [Act.put]
      refine anyS_ready (rs := [7]) (by kernel_rfl) (by simp) ?_
      refine AllS.cons rfl (fun K hK => ?_) AllS.nil
      go_simp
      refine hK.out _ _ ⟨hrW, fun _ => trivial⟩ ?_
      clear hK K
      refine anyS_done (by kernel_rfl) ?_ _
      go_wp2_with fail
      go_meet
      refine ⟨_, _, rfl, rfl, rfl, Lib.hid ⟨fun k x hx => ⟨⟨G, 0, none⟩, rfl, hGl, fun j u hu => ?_⟩, hBW, hrW⟩⟩
      have hj6 : j < 6 := by rw [← cells_length x]; exact (List.getElem?_eq_some_iff.1 hu).1
      have hkl := (List.getElem?_eq_some_iff.1 hx).1
      have hjn : k * 6 + j < n * 6 := by have := HN.out; omega
      have hcc := hownW.cellAt (k * 6 + j) hjn
      rw [List.nil_append, flatV_get l k j x hx hj6, hu] at hcc
      rw [show (⟨G, 0, none⟩ : Addr).add (k * 6 + j) = ⟨G, k * 6 + j, none⟩ by unfold Addr.add; split <;> simp_all]
      exact hcc
    · obtain rfl : n = 0 := by omega
      have hap : (Builtin.append_ #[23, 23] 23 #[.slice (some ⟨wd.heap.size, 0, none⟩) 0 0, .slice aL 0 cL]).run Tryz.prog we = .ok (.slice (some ⟨wd.heap.size, 0, none⟩) 0 0) we := run_append_none we _ wd.heap.size 0 0 rfl (Nat.le_refl _) aL cL
      refine anyS_ready (rs := [3]) (by kernel_rfl) (by simp) ?_
      refine AllS.cons rfl (fun K hK => ?_) AllS.nil
      refine step_append_ran we rfl (.tmp 64) (.tmp 66) 23 23 rfl _ _ _ we rfl rfl hap ?_
      refine hK.out _ _ ⟨hre, fun _ => trivial⟩ ?_
      clear hK K hap
      simp only [Act.put]
      have hap : (Builtin.append_ #[23, 23] 23 #[.slice (some ⟨wd.heap.size, 0, none⟩) 0 0, .slice aV 0 cV]).run Tryz.prog we = .ok (.slice (some ⟨wd.heap.size, 0, none⟩) 0 0) we := run_append_none we _ wd.heap.size 0 0 rfl (Nat.le_refl _) aV cV
      refine anyS_ready (rs := [6]) (by kernel_rfl) (by simp) ?_
      refine AllS.cons rfl (fun K hK => ?_) AllS.nil
      refine step_append_ran we rfl (.tmp 67) (.tmp 69) 23 23 rfl _ _ _ we rfl rfl hap ?_
      refine hK.out _ _ ⟨hre, fun _ => trivial⟩ ?_
      clear hK K hap
      simp only [Act.put]
      refine anyS_ready (rs := [7]) (by kernel_rfl) (by simp) ?_
      refine AllS.cons rfl (fun K hK => ?_) AllS.nil
      go_simp
      refine hK.out _ _ ⟨hre, fun _ => trivial⟩ ?_
      clear hK K
      refine anyS_done (by kernel_rfl) ?_ _
      go_wp2_with fail
      go_meet
      refine ⟨_, _, rfl, rfl, rfl, Lib.hid ⟨fun k x hx => ?_, HE.out, hre⟩⟩
      have hkl := (List.getElem?_eq_some_iff.1 hx).1
      have := HN.out
      omega
  case rest =>
    obtain ⟨A, c, rfl, rfl, rfl, HCU⟩ := hcut
    go_wp2_with fail
    go_loopw [4, 72] (fun tv iv wr => ∃ k : Nat, k ≤ n ∧ iv = .int .i64 k ∧ tv = .string (strL (commas ((jsonAll l).take k))) ∧ Hid (Below wc.heap.size wc wr)) (fun _ iv _ => n - (intOf iv).toNat)
    case atStart => exact ⟨0, Nat.zero_le _, rfl, by simp [commas]; rfl, Lib.hid (Below.refl _ _)⟩
    case round =>
      obtain ⟨k, hk, rfl, rfl, HBW⟩ := hrel
      have hxc : w.heap.size < wc.heap.size := (Array.getElem?_eq_some_iff.1 HCU.out.2.2).1
      have hrr := (HBW.out.block _ hxc).trans HCU.out.2.2
      have r0 := cell_of_row wr _ 0 _ _ _ hrr
      have r4 := cell_of_row wr _ 4 _ _ _ hrr
      simp only [List.getElem?_toArray, List.getElem?_cons_zero, List.getElem?_cons_succ] at r0 r4
      have hrl := (Array.getElem?_eq_some_iff.1 hrr).1
      have HWR := Lib.hid (HCU.out.2.1.trans (HBW.out.mono HCU.out.2.1.size))
      clear hrr
      obtain ⟨TT, hTT⟩ : ∃ TT, TT = strL (commas ((jsonAll l).take k)) := ⟨_, rfl⟩
      have hTs : TT.size ≤ 40000 := by
        rw [hTT, strL_size]
        have h1 := commas_len_take (jsonAll l) k
        have h2 := commas_len (jsonAll l)
        have h3 := HLEN.out
        omega
      rw [← hTT]
      have HTT := Lib.hid hTT
      clear hTT
      by_cases hkn : k < n
      · obtain ⟨y, hy⟩ : ∃ y, l[k]? = some y := ⟨_, List.getElem?_eq_getElem (by have := HN.out; omega)⟩
        obtain ⟨ad, rfl, had, hc0⟩ := HCU.out.1 k y hy
        have hc : ∀ (j : Nat) (u : Value), y.cells[j]? = some u → wr.cell? (ad.add (k * 6 + j)) = some u := fun j u hu => (HBW.out.cell (by rw [block_of_add]; exact had)).trans (hc0 j u hu)
        have hmem := List.mem_of_getElem? hy
        have HY := Lib.hid (And.intro hmem hy)
        have HCM := Lib.hid (commas_take _ k y.jsonT (jsonAll_at hy))
        have hkl2 : y.jsonT.length ≤ 40000 := by
          have h1 := commas_len_take (jsonAll l) (k + 1)
          have h2 := commas_len (jsonAll l)
          rw [HCM.out, List.length_append, List.length_append] at h1
          have h3 := HLEN.out
          omega
        have HEY := Lib.hid (HEL.out y hmem)
        obtain ⟨SS, hSS⟩ : ∃ SS, SS = strL y.jsonT := ⟨_, rfl⟩
        have hSs : SS.size ≤ 40000 := by rw [hSS, strL_size]; omega
        unfold TextPost at HEY
        rw [← hSS] at HEY
        have HSS := Lib.hid hSS
        clear hc0 hmem hy hSS hkl2
        obtain ⟨yk, yh, yt, yaL, ycL, yl, yaK, ycK, yks, yaV, ycV, yvs⟩ := y
        obtain ⟨d0, d1, d2, d3, d4, d5⟩ := six hc
        rw [V.val_mk] at HEY
        generalize hyl : yl.length = n1 at *
        generalize hyk : yks.length = n2 at *
        generalize hyv : yvs.length = n3 at *
        clear hc hyl hyk hyv
        have HBN := Lib.hid (below1 wr (.cells #[.int .i64 yk, .int .i64 yh, .string yt, .slice yaL n1 ycL, .slice yaK n2 ycK, .slice yaV n3 ycV] 26))
        have HN1 := Lib.hid (heap_alloc_new wr (.cells #[.int .i64 yk, .int .i64 yh, .string yt, .slice yaL n1 ycL, .slice yaK n2 ycK, .slice yaV n3 ycV] 26))
        by_cases hk0 : k = 0
        · have hkz : ¬ (0 : Int) < (k : Int) := by omega
          have HK0 := Lib.hid hk0
          clear hk0
          have HE4 := Lib.hid (HEY.out _ (HWR.out.trans (HBN.out.mono HWR.out.size)))
          go_wp2_with fail
          refine HE4.out.mono ?_
          rintro e w5 ⟨hb5, rfl | ⟨bad, hbad, rfl⟩⟩
          · have HB5 := Lib.hid (HBN.out.trans (hb5.mono HBN.out.size))
            clear hb5 d0 d1 d2 d3 d4 d5
            go_wp2_with fail
            go_roundw
            case rel =>
              refine ⟨k + 1, by omega, by first | go_num | simp, ?_, Lib.hid (HBW.out.trans (HB5.out.mono HBW.out.size))⟩
              rw [HCM.out, HTT.out, HSS.out, if_pos HK0.out]
              exact congrArg Value.string (list_join0 _ _)
            case measure => simp [intOf]; omega
          · have HB5 := Lib.hid (HWR.out.trans ((HBN.out.trans (hb5.mono HBN.out.size)).mono HWR.out.size))
            clear hb5
            go_wp2_with fail
            go_ret2
            exact ⟨HB5.out, Or.inr ⟨⟨#[]⟩, by decide, rfl⟩⟩
        · have hkz : (0 : Int) < (k : Int) := by omega
          have HK0 := Lib.hid hk0
          clear hk0
          have HE4 := Lib.hid (HEY.out _ (HWR.out.trans (HBN.out.mono HWR.out.size)))
          go_wp2_with fail
          refine HE4.out.mono ?_
          rintro e w5 ⟨hb5, rfl | ⟨bad, hbad, rfl⟩⟩
          · have HB5 := Lib.hid (HBN.out.trans (hb5.mono HBN.out.size))
            clear hb5 d0 d1 d2 d3 d4 d5
            go_wp2_with fail
            go_roundw
            case rel =>
              refine ⟨k + 1, by omega, by first | go_num | simp, ?_, Lib.hid (HBW.out.trans (HB5.out.mono HBW.out.size))⟩
              rw [HCM.out, HTT.out, HSS.out, if_neg HK0.out]
              exact congrArg Value.string (list_join1 _ _)
            case measure => simp [intOf]; omega
          · have HB5 := Lib.hid (HWR.out.trans ((HBN.out.trans (hb5.mono HBN.out.size)).mono HWR.out.size))
            clear hb5
            go_wp2_with fail
            go_ret2
            exact ⟨HB5.out, Or.inr ⟨⟨#[]⟩, by decide, rfl⟩⟩
      · obtain rfl : k = n := by omega
        have HTK := Lib.hid (show (jsonAll l).take k = (jsonAll l) from List.take_of_length_le (by rw [jsonAll_length]; have := HN.out; omega))
        go_wp2_with fail
        go_ret2
        refine ⟨HWR.out, Or.inl ?_⟩
        rw [HTT.out, HTK.out]
        have e : (strL [91] ++ strL (commas (jsonAll l)) ++ strL [93]) = strL (91 :: (commas (jsonAll l) ++ [93])) := by rw [strL_app, strL_app]; rfl
        rw [← e]
        rfl

set_option maxRecDepth 100000 in
set_option maxHeartbeats 16000000 in
theorem json_map (w : World) (B : Nat) (h : Int) (t : ByteArray) (aL : Option Addr) (cL n : Nat) (aK : Option Addr) (cK : Nat) (ks : List ByteArray) (aV : Option Addr) (cV : Nat) (vs : List V) (hB : B ≤ w.heap.size) (hrow : RowsV w B aV vs) (hkey : Reads w B aK (ks.map .string)) (hn : n = vs.length) (hnk : n = ks.length) (hn4 : n ≤ 400) (hcV : n ≤ cV) (hcK : n ≤ cK) (hlen : total (List.zipWith keyed ks (jsonAll vs)) ≤ 40000)
    (hel : ∀ y ∈ vs, ∀ w', Below w.heap.size w w' → Calls Tryz.prog 8 #[y.val] w' (TextPost y.jsonT w')) :
    Calls Tryz.prog 8 #[.agg #[.int .i64 6, .int .i64 h, .string t, .slice aL 0 cL, .slice aK n cK, .slice aV n cV]] w (TextPost (123 :: (commas (List.zipWith keyed ks (jsonAll vs)) ++ [125])) w) := by
  obtain ⟨i9, hi, he⟩ := Option.map_eq_some_iff.1 info_val
  have hz0 : i9.zero = some (.agg #[.int .i64 0, .int .i64 0, .string ⟨#[]⟩, .slice none 0 0, .slice none 0 0, .slice none 0 0]) := congrArg (·.1) he
  have hz1 : i9.size = 6 := congrArg (·.2.1) he
  have hz2 : i9.bytes = 104 := congrArg (·.2.2) he
  have HB := Lib.hid (below1 w (.cells #[.int .i64 6, .int .i64 h, .string t, .slice aL 0 cL, .slice aK n cK, .slice aV n cV] 26))
  have hbx := heap_alloc_new w (.cells #[.int .i64 6, .int .i64 h, .string t, .slice aL 0 cL, .slice aK n cK, .slice aV n cV] 26)
  have HBX := Lib.hid hbx
  have HROW := Lib.hid hrow
  have HEL := Lib.hid hel
  have HN := Lib.hid hn
  have HLEN := Lib.hid hlen
  have HKEY := Lib.hid hkey
  have HNK := Lib.hid hnk
  clear hkey hnk
  clear hbx hrow hel hn hlen he
  go_enter Tryz.func8, Tryz.ntmps8
  go_upto_region 17 with fail
  go_cut [70, 71, 72] from 64 to 120 (fun s70 s71 s72 wx => ∃ (A : Option Addr) (c : Nat), s70 = .slice A n c ∧ s71 = .int .i64 n ∧ s72 = .int .i64 0 ∧ Hid (Rows6 wx A vs ∧ Below w.heap.size w wx ∧ wx.heap[w.heap.size]? = some (.cells #[.int .i64 6, .int .i64 h, .string t, .slice aL 0 cL, .slice aK n cK, .slice aV n cV] 26 (0, 0))))
  case first =>
    refine wp_region_S (Sf := Till 7 (fun W => W.heap[w.heap.size]? = some (.cells #[.int .i64 6, .int .i64 h, .string t, .slice aL 0 cL, .slice aK n cK, .slice aV n cV] 26 (0, 0))) (fun _ => True)) (by kernel_rfl) ?_
    have hrd : (w.alloc (.cells #[.int .i64 6, .int .i64 h, .string t, .slice aL 0 cL, .slice aK n cK, .slice aV n cV] 26)).drew.heap[w.heap.size]? = some (.cells #[.int .i64 6, .int .i64 h, .string t, .slice aL 0 cL, .slice aK n cK, .slice aV n cV] 26 (0, 0)) := HBX.out
    have HD := Lib.hid (show Below w.heap.size w (w.alloc (.cells #[.int .i64 6, .int .i64 h, .string t, .slice aL 0 cL, .slice aK n cK, .slice aV n cV] 26)).drew from HB.out.drew)
    have HWD := Lib.hid (show (w.alloc (.cells #[.int .i64 6, .int .i64 h, .string t, .slice aL 0 cL, .slice aK n cK, .slice aV n cV] 26)).drew.heap.size = w.heap.size + 1 by simp)
    generalize (w.alloc (.cells #[.int .i64 6, .int .i64 h, .string t, .slice aL 0 cL, .slice aK n cK, .slice aV n cV] 26)).drew = wd at *
    refine till_take_R (i := 1) 65 (.pointer (some ⟨w.heap.size, 3, none⟩)) rfl rfl (by kernel_rfl) (by kernel_rfl) (by kernel_rfl) (by decide) (fun _ _ _ h => h) (Or.inl ⟨by rfl, ?_⟩) ⟨hrd, fun _ => trivial⟩ ?_
    · intro W hW; have y := cell_of_row W _ 3 _ _ _ hW; simp only [List.getElem?_toArray, List.getElem?_cons_zero, List.getElem?_cons_succ] at y; have yl := (Array.getElem?_eq_some_iff.1 hW).1; clear hW; go_simp
    simp only [Act.put, List.setIfInBounds_toArray, List.set_cons_zero, List.set_cons_succ]
    refine till_take_R (i := 2) 66 (.slice aL 0 cL) rfl rfl (by kernel_rfl) (by kernel_rfl) (by kernel_rfl) (by decide) (fun _ _ _ h => h) (Or.inl ⟨by rfl, ?_⟩) ⟨hrd, fun _ => trivial⟩ ?_
    · intro W hW; have y := cell_of_row W _ 3 _ _ _ hW; simp only [List.getElem?_toArray, List.getElem?_cons_zero, List.getElem?_cons_succ] at y; have yl := (Array.getElem?_eq_some_iff.1 hW).1; clear hW; go_simp
    simp only [Act.put, List.setIfInBounds_toArray, List.set_cons_zero, List.set_cons_succ]
    refine till_take_R (i := 4) 68 (.pointer (some ⟨w.heap.size, 5, none⟩)) rfl rfl (by kernel_rfl) (by kernel_rfl) (by kernel_rfl) (by decide) (fun _ _ _ h => h) (Or.inl ⟨by rfl, ?_⟩) ⟨hrd, fun _ => trivial⟩ ?_
    · intro W hW; have y := cell_of_row W _ 5 _ _ _ hW; simp only [List.getElem?_toArray, List.getElem?_cons_zero, List.getElem?_cons_succ] at y; have yl := (Array.getElem?_eq_some_iff.1 hW).1; clear hW; go_simp
    simp only [Act.put, List.setIfInBounds_toArray, List.set_cons_zero, List.set_cons_succ]
    refine till_take_R (i := 5) 69 (.slice aV n cV) rfl rfl (by kernel_rfl) (by kernel_rfl) (by kernel_rfl) (by decide) (fun _ _ _ h => h) (Or.inl ⟨by rfl, ?_⟩) ⟨hrd, fun _ => trivial⟩ ?_
    · intro W hW; have y := cell_of_row W _ 5 _ _ _ hW; simp only [List.getElem?_toArray, List.getElem?_cons_zero, List.getElem?_cons_succ] at y; have yl := (Array.getElem?_eq_some_iff.1 hW).1; clear hW; go_simp
    simp only [Act.put, List.setIfInBounds_toArray, List.set_cons_zero, List.set_cons_succ]
    refine till_take_R (i := 8) 72 (.int .i64 0) rfl rfl (by kernel_rfl) (by kernel_rfl) (by kernel_rfl) (by decide) (fun _ _ _ h => h) (Or.inl ⟨by rfl, ?_⟩) ⟨hrd, fun _ => trivial⟩ ?_
    · intro W hW; go_simp
    simp only [Act.put, List.setIfInBounds_toArray, List.set_cons_zero, List.set_cons_succ]
    have hown0 : (wd.alloc (.cells #[] 26)).ownsRow wd.heap.size 26 6 (.slice (some ⟨wd.heap.size, 0, none⟩) 0 0) 0 [] := World.ownsRow_lit (base := wd.heap.size) (e := 26) (size := 6) wd #[] 0 (Nat.le_refl _) (by decide) rfl
    have hre := (Lib.alloc_old wd (.cells #[] 26) w.heap.size (Array.getElem?_eq_some_iff.1 hrd).1).trans hrd
    have hce : ∀ q : Addr, q.block < w.heap.size → (wd.alloc (.cells #[] 26)).cell? q = w.cell? q := fun q hq => (World.cell?_alloc_lt _ _ _ (by have := HWD.out; omega)).trans (HD.out.cell hq)
    have HE := Lib.hid (HD.out.alloc HD.out.size (.cells #[] 26))
    have HES := Lib.hid (show (wd.alloc (.cells #[] 26)).heap.size = wd.heap.size + 1 by simp)
    refine anyS_ready (rs := [0]) (by kernel_rfl) (by simp) ?_
    refine AllS.cons rfl (fun K hK => ?_) AllS.nil
    go_simp
    refine hK.out _ _ ⟨hre, fun _ => trivial⟩ ?_
    clear hK K hrd
    generalize wd.alloc (.cells #[] 26) = we at *
    by_cases hpos : 0 < n
    · obtain ⟨ad, rfl, had, hc0⟩ := HROW.out (by rintro rfl; have := HN.out; simp at this; omega)
      have hap : (Builtin.append_ #[23, 23] 23 #[.slice (some ⟨wd.heap.size, 0, none⟩) 0 0, .slice aL 0 cL]).run Tryz.prog we = .ok (.slice (some ⟨wd.heap.size, 0, none⟩) 0 0) we := run_append_none we _ wd.heap.size 0 0 rfl (Nat.le_refl _) aL cL
      refine anyS_ready (rs := [3]) (by kernel_rfl) (by simp) ?_
      refine AllS.cons rfl (fun K hK => ?_) AllS.nil
      refine step_append_ran we rfl (.tmp 64) (.tmp 66) 23 23 rfl _ _ _ we rfl rfl hap ?_
      refine hK.out _ _ ⟨hre, fun _ => trivial⟩ ?_
      clear hK K hap
      simp only [Act.put]
      refine anyS_ready (rs := [6]) (by kernel_rfl) (by simp) ?_
      refine AllS.cons rfl (fun K hK => ?_) AllS.nil
      refine step_append_lies _ rfl (.tmp 67) (.tmp 69) 23 rfl wd.heap.size 26 i9 _ 6 104 Tryz.underlying23 hi hz0 hz1 hz2 rfl (by decide) (.slice (some ⟨wd.heap.size, 0, none⟩) 0 0) 0 [] rfl hown0 ad n cV (flatV vs) rfl (by rw [flatV_length, ← HN.out]) (fun j u hj => (hce _ (by rw [block_of_add]; omega)).trans (flatV_row hc0 j u hj)) (flatV_one vs) hpos (by unfold maxLen; omega) (by omega) (by have := HES.out; omega) _ rfl ?_
      intro G cap W hownW hgW hGG hGl
      rw [Nat.zero_add] at hownW ⊢
      have hcap : n ≤ cap := by
        rcases hownW.2 with ⟨h1, _⟩ | ⟨g', cap', cur, h1, _, _, h4, _⟩
        · simp at h1
        · simp only [Value.slice.injEq] at h1
          omega
      have hGW : w.heap.size < G := by
        have hwd := HWD.out
        have hes := HES.out
        rcases hGG with hq | hq
        · simp only [Value.ownBlock] at hq
          have := Option.some.inj hq
          omega
        · omega
      have hrW := (hgW.block _ (by have := HWD.out; have := HES.out; omega) (by have := HWD.out; simp [Value.ownBlock]; omega)).trans hre
      have hBW : Below w.heap.size w W := HE.out.grown hgW HE.out.size (fun q hq => by have := HWD.out; simp [Value.ownBlock] at hq; omega)
      refine hK.out _ _ ⟨hrW, fun _ => trivial⟩ ?_
      clear hK K
      simp only [Act.put]
      refine anyS_ready (rs := [7]) (by kernel_rfl) (by simp) ?_
      refine AllS.cons rfl (fun K hK => ?_) AllS.nil
      go_simp
      refine hK.out _ _ ⟨hrW, fun _ => trivial⟩ ?_
      clear hK K
      refine anyS_done (by kernel_rfl) ?_ _
      go_wp2_with fail
      go_meet
      refine ⟨_, _, rfl, rfl, rfl, Lib.hid ⟨fun k x hx => ⟨⟨G, 0, none⟩, rfl, hGl, fun j u hu => ?_⟩, hBW, hrW⟩⟩
      have hj6 : j < 6 := by rw [← cells_length x]; exact (List.getElem?_eq_some_iff.1 hu).1
      have hkl := (List.getElem?_eq_some_iff.1 hx).1
      have hjn : k * 6 + j < n * 6 := by have := HN.out; omega
      have hcc := hownW.cellAt (k * 6 + j) hjn
      rw [List.nil_append, flatV_get vs k j x hx hj6, hu] at hcc
      rw [show (⟨G, 0, none⟩ : Addr).add (k * 6 + j) = ⟨G, k * 6 + j, none⟩ by unfold Addr.add; split <;> simp_all]
      exact hcc
    · obtain rfl : n = 0 := by omega
      have hap : (Builtin.append_ #[23, 23] 23 #[.slice (some ⟨wd.heap.size, 0, none⟩) 0 0, .slice aL 0 cL]).run Tryz.prog we = .ok (.slice (some ⟨wd.heap.size, 0, none⟩) 0 0) we := run_append_none we _ wd.heap.size 0 0 rfl (Nat.le_refl _) aL cL
      refine anyS_ready (rs := [3]) (by kernel_rfl) (by simp) ?_
      refine AllS.cons rfl (fun K hK => ?_) AllS.nil
      refine step_append_ran we rfl (.tmp 64) (.tmp 66) 23 23 rfl _ _ _ we rfl rfl hap ?_
      refine hK.out _ _ ⟨hre, fun _ => trivial⟩ ?_
      clear hK K hap
      simp only [Act.put]
      have hap : (Builtin.append_ #[23, 23] 23 #[.slice (some ⟨wd.heap.size, 0, none⟩) 0 0, .slice aV 0 cV]).run Tryz.prog we = .ok (.slice (some ⟨wd.heap.size, 0, none⟩) 0 0) we := run_append_none we _ wd.heap.size 0 0 rfl (Nat.le_refl _) aV cV
      refine anyS_ready (rs := [6]) (by kernel_rfl) (by simp) ?_
      refine AllS.cons rfl (fun K hK => ?_) AllS.nil
      refine step_append_ran we rfl (.tmp 67) (.tmp 69) 23 23 rfl _ _ _ we rfl rfl hap ?_
      refine hK.out _ _ ⟨hre, fun _ => trivial⟩ ?_
      clear hK K hap
      simp only [Act.put]
      refine anyS_ready (rs := [7]) (by kernel_rfl) (by simp) ?_
      refine AllS.cons rfl (fun K hK => ?_) AllS.nil
      go_simp
      refine hK.out _ _ ⟨hre, fun _ => trivial⟩ ?_
      clear hK K
      refine anyS_done (by kernel_rfl) ?_ _
      go_wp2_with fail
      go_meet
      refine ⟨_, _, rfl, rfl, rfl, Lib.hid ⟨fun k x hx => ?_, HE.out, hre⟩⟩
      have hkl := (List.getElem?_eq_some_iff.1 hx).1
      have := HN.out
      omega
  case rest =>
    obtain ⟨A, c, rfl, rfl, rfl, HCU⟩ := hcut
    go_wp2_with fail
    go_loopw [4, 72] (fun tv iv wr => ∃ k : Nat, k ≤ n ∧ iv = .int .i64 k ∧ tv = .string (strL (commas ((List.zipWith keyed ks (jsonAll vs)).take k))) ∧ Hid (Below wc.heap.size wc wr)) (fun _ iv _ => n - (intOf iv).toNat)
    case atStart => exact ⟨0, Nat.zero_le _, rfl, by simp [commas]; rfl, Lib.hid (Below.refl _ _)⟩
    case round =>
      obtain ⟨k, hk, rfl, rfl, HBW⟩ := hrel
      have hxc : w.heap.size < wc.heap.size := (Array.getElem?_eq_some_iff.1 HCU.out.2.2).1
      have hrr := (HBW.out.block _ hxc).trans HCU.out.2.2
      have r0 := cell_of_row wr _ 0 _ _ _ hrr
      have r4 := cell_of_row wr _ 4 _ _ _ hrr
      simp only [List.getElem?_toArray, List.getElem?_cons_zero, List.getElem?_cons_succ] at r0 r4
      have hrl := (Array.getElem?_eq_some_iff.1 hrr).1
      have HWR := Lib.hid (HCU.out.2.1.trans (HBW.out.mono HCU.out.2.1.size))
      clear hrr
      obtain ⟨TT, hTT⟩ : ∃ TT, TT = strL (commas ((List.zipWith keyed ks (jsonAll vs)).take k)) := ⟨_, rfl⟩
      have hTs : TT.size ≤ 40000 := by
        rw [hTT, strL_size]
        have h1 := commas_len_take (List.zipWith keyed ks (jsonAll vs)) k
        have h2 := commas_len (List.zipWith keyed ks (jsonAll vs))
        have h3 := HLEN.out
        omega
      rw [← hTT]
      have HTT := Lib.hid hTT
      clear hTT
      by_cases hkn : k < n
      · obtain ⟨y, hy⟩ : ∃ y, vs[k]? = some y := ⟨_, List.getElem?_eq_getElem (by have := HN.out; omega)⟩
        obtain ⟨ad, rfl, had, hc0⟩ := HCU.out.1 k y hy
        have hc : ∀ (j : Nat) (u : Value), y.cells[j]? = some u → wr.cell? (ad.add (k * 6 + j)) = some u := fun j u hu => (HBW.out.cell (by rw [block_of_add]; exact had)).trans (hc0 j u hu)
        have hmem := List.mem_of_getElem? hy
        have HY := Lib.hid (And.intro hmem hy)
        obtain ⟨s, hs⟩ : ∃ s, ks[k]? = some s := ⟨_, List.getElem?_eq_getElem (by have := HNK.out; omega)⟩
        obtain ⟨adk, hadk, hadkb, hck⟩ := HKEY.out (by intro e; have := congrArg List.length e; simp at this; have := HNK.out; simp_all)
        subst hadk
        have dk0 : wr.cell? (adk.add k) = some (.string s) := (HWR.out.cell (by rw [block_of_add]; omega)).trans (hck k _ (by simp [hs]))
        have dk : ∀ o, (wr.alloc o).cell? (adk.add k) = some (.string s) := fun o => (World.cell?_alloc_lt _ _ _ (by rw [block_of_add]; omega)).trans dk0
        clear dk0
        have HS := Lib.hid hs
        have HCM := Lib.hid (commas_take _ k (keyed s y.jsonT) (zip_at keyed ks (jsonAll vs) k s y.jsonT hs (jsonAll_at hy)))
        have hkl2 : (keyed s y.jsonT).length ≤ 40000 := by
          have h1 := commas_len_take (List.zipWith keyed ks (jsonAll vs)) (k + 1)
          have h2 := commas_len (List.zipWith keyed ks (jsonAll vs))
          rw [HCM.out, List.length_append, List.length_append] at h1
          have h3 := HLEN.out
          omega
        simp only [keyed, List.length_append, List.length_cons, List.length_nil] at hkl2
        have HQS := Lib.hid (fun w' => quoted_any w' s (by have h1 := jqs_ge s.data.toList; have h2 := Lib.size_eq s; omega))
        obtain ⟨QS, hQS⟩ : ∃ QS, QS = strL (34 :: (jqs s.data.toList ++ [34])) := ⟨_, rfl⟩
        have hQs : QS.size ≤ 40000 := by rw [hQS, strL_size]; simp only [List.length_append, List.length_cons, List.length_nil]; omega
        unfold QuoPost at HQS
        rw [← hQS] at HQS
        have HQQ := Lib.hid hQS
        clear hs hck hQS
        have HEY := Lib.hid (HEL.out y hmem)
        obtain ⟨SS, hSS⟩ : ∃ SS, SS = strL y.jsonT := ⟨_, rfl⟩
        have hSs : SS.size ≤ 40000 := by rw [hSS, strL_size]; omega
        unfold TextPost at HEY
        rw [← hSS] at HEY
        have HSS := Lib.hid hSS
        clear hc0 hmem hy hSS hkl2
        obtain ⟨yk, yh, yt, yaL, ycL, yl, yaK, ycK, yks, yaV, ycV, yvs⟩ := y
        obtain ⟨d0, d1, d2, d3, d4, d5⟩ := six hc
        rw [V.val_mk] at HEY
        generalize hyl : yl.length = n1 at *
        generalize hyk : yks.length = n2 at *
        generalize hyv : yvs.length = n3 at *
        clear hc hyl hyk hyv
        have HBN := Lib.hid (below1 wr (.cells #[.int .i64 yk, .int .i64 yh, .string yt, .slice yaL n1 ycL, .slice yaK n2 ycK, .slice yaV n3 ycV] 26))
        have HN1 := Lib.hid (heap_alloc_new wr (.cells #[.int .i64 yk, .int .i64 yh, .string yt, .slice yaL n1 ycL, .slice yaK n2 ycK, .slice yaV n3 ycV] 26))
        by_cases hk0 : k = 0
        · have hkz : ¬ (0 : Int) < (k : Int) := by omega
          have HK0 := Lib.hid hk0
          clear hk0
          go_wp2_with fail
          refine (HQS.out _).mono ?_
          rintro e w4 ⟨hb4, rfl | rfl⟩
          · have HB4 := Lib.hid (HBN.out.trans (hb4.mono HBN.out.size))
            have hn4w := (hb4.block wr.heap.size (by simp)).trans HN1.out
            have q0 := cell_of_row w4 _ 0 _ _ _ hn4w
            have q1 := cell_of_row w4 _ 1 _ _ _ hn4w
            have q2 := cell_of_row w4 _ 2 _ _ _ hn4w
            have q3 := cell_of_row w4 _ 3 _ _ _ hn4w
            have q4 := cell_of_row w4 _ 4 _ _ _ hn4w
            have q5 := cell_of_row w4 _ 5 _ _ _ hn4w
            simp only [List.getElem?_toArray, List.getElem?_cons_zero, List.getElem?_cons_succ] at q0 q1 q2 q3 q4 q5
            have q6 := (Array.getElem?_eq_some_iff.1 hn4w).1
            have HE4 := Lib.hid (HEY.out w4 (HWR.out.trans (HB4.out.mono HWR.out.size)))
            clear hb4 hn4w d0 d1 d2 d3 d4 d5 dk
            go_wp2_with fail
            refine HE4.out.mono ?_
            rintro e w5 ⟨hb5, rfl | ⟨bad, hbad, rfl⟩⟩
            · have HB5 := Lib.hid (HB4.out.trans (hb5.mono HB4.out.size))
              clear hb5 q0 q1 q2 q3 q4 q5 q6
              go_wp2_with fail
              go_roundw
              case rel =>
                refine ⟨k + 1, by omega, by first | go_num | simp, ?_, Lib.hid (HBW.out.trans (HB5.out.mono HBW.out.size))⟩
                rw [HCM.out, HTT.out, HSS.out, HQQ.out]
                have hsep : ((if k = 0 then [] else [44] : List UInt8)) = [] := by rw [if_pos HK0.out]
                rw [hsep]
                exact congrArg Value.string (key_join0 _ _ _ _ rfl)
              case measure => simp [intOf]; omega
            · have HB5 := Lib.hid (HWR.out.trans ((HB4.out.trans (hb5.mono HB4.out.size)).mono HWR.out.size))
              clear hb5
              go_wp2_with fail
              go_ret2
              exact ⟨HB5.out, Or.inr ⟨⟨#[]⟩, by decide, rfl⟩⟩
          · have HB4 := Lib.hid (HWR.out.trans ((HBN.out.trans (hb4.mono HBN.out.size)).mono HWR.out.size))
            clear hb4
            go_wp2_with fail
            go_ret2
            exact ⟨HB4.out, Or.inr ⟨⟨#[]⟩, by decide, rfl⟩⟩
        · have hkz : (0 : Int) < (k : Int) := by omega
          have HK0 := Lib.hid hk0
          clear hk0
          go_wp2_with fail
          refine (HQS.out _).mono ?_
          rintro e w4 ⟨hb4, rfl | rfl⟩
          · have HB4 := Lib.hid (HBN.out.trans (hb4.mono HBN.out.size))
            have hn4w := (hb4.block wr.heap.size (by simp)).trans HN1.out
            have q0 := cell_of_row w4 _ 0 _ _ _ hn4w
            have q1 := cell_of_row w4 _ 1 _ _ _ hn4w
            have q2 := cell_of_row w4 _ 2 _ _ _ hn4w
            have q3 := cell_of_row w4 _ 3 _ _ _ hn4w
            have q4 := cell_of_row w4 _ 4 _ _ _ hn4w
            have q5 := cell_of_row w4 _ 5 _ _ _ hn4w
            simp only [List.getElem?_toArray, List.getElem?_cons_zero, List.getElem?_cons_succ] at q0 q1 q2 q3 q4 q5
            have q6 := (Array.getElem?_eq_some_iff.1 hn4w).1
            have HE4 := Lib.hid (HEY.out w4 (HWR.out.trans (HB4.out.mono HWR.out.size)))
            clear hb4 hn4w d0 d1 d2 d3 d4 d5 dk
            go_wp2_with fail
            refine HE4.out.mono ?_
            rintro e w5 ⟨hb5, rfl | ⟨bad, hbad, rfl⟩⟩
            · have HB5 := Lib.hid (HB4.out.trans (hb5.mono HB4.out.size))
              clear hb5 q0 q1 q2 q3 q4 q5 q6
              go_wp2_with fail
              go_roundw
              case rel =>
                refine ⟨k + 1, by omega, by first | go_num | simp, ?_, Lib.hid (HBW.out.trans (HB5.out.mono HBW.out.size))⟩
                rw [HCM.out, HTT.out, HSS.out, HQQ.out]
                have hsep : ((if k = 0 then [] else [44] : List UInt8)) = [44] := by rw [if_neg HK0.out]
                rw [hsep]
                exact congrArg Value.string (key_join1 _ _ _ _ rfl)
              case measure => simp [intOf]; omega
            · have HB5 := Lib.hid (HWR.out.trans ((HB4.out.trans (hb5.mono HB4.out.size)).mono HWR.out.size))
              clear hb5
              go_wp2_with fail
              go_ret2
              exact ⟨HB5.out, Or.inr ⟨⟨#[]⟩, by decide, rfl⟩⟩
          · have HB4 := Lib.hid (HWR.out.trans ((HBN.out.trans (hb4.mono HBN.out.size)).mono HWR.out.size))
            clear hb4
            go_wp2_with fail
            go_ret2
            exact ⟨HB4.out, Or.inr ⟨⟨#[]⟩, by decide, rfl⟩⟩
      · obtain rfl : k = n := by omega
        have HTK := Lib.hid (show (List.zipWith keyed ks (jsonAll vs)).take k = (List.zipWith keyed ks (jsonAll vs)) from List.take_of_length_le (by rw [List.length_zipWith, jsonAll_length]; have := HN.out; omega))
        go_wp2_with fail
        go_ret2
        refine ⟨HWR.out, Or.inl ?_⟩
        rw [HTT.out, HTK.out]
        have e : (strL [123] ++ strL (commas (List.zipWith keyed ks (jsonAll vs))) ++ strL [125]) = strL (123 :: (commas (List.zipWith keyed ks (jsonAll vs)) ++ [125])) := by rw [strL_app, strL_app]; rfl
        rw [← e]
        rfl
end Go.Proofs.YtpigccnlembfdaaGreatDoor

/- spec.JSON at any good tree. Conditions: the tree lies in the world, is good and small. -/
namespace Go.Proofs.YtpigccnlembfdaaGreatDoor
open Go.RowKit Go.Deep

theorem json_any (n0 : Nat) : ∀ (x : V) (w : World) (B : Nat), x.deep ≤ n0 → x.In w B → B ≤ w.heap.size → x.Good → x.parts ≤ 400 → x.bytes ≤ 2000 →
    Calls Tryz.prog 8 #[x.val] w (TextPost x.jsonT w) := by
  induction n0 with
  | zero =>
    intro x w B hd
    obtain ⟨k, h, t, aL, cL, l, aK, cK, ks, aV, cV, vs⟩ := x
    simp [V.deep] at hd
  | succ n0 ih =>
    intro x w B hd hin hB hg hp hb
    have hts := text_small x hb
    obtain ⟨k, h, t, aL, cL, l, aK, cK, ks, aV, cV, vs⟩ := x
    unfold V.In V.Own at hin
    obtain ⟨hown, hrowL, hkeys, hrowV, hallL, hallV⟩ := hin
    unfold V.Good at hg
    obtain ⟨hc1, hc2, hval, hks, hgl, hgv⟩ := hg
    have b1 := bytes_posAll l
    have b2 := bytes_posAll vs
    have b3 := sizes_pos ks
    have p1 := partsAll_nonneg l
    have p2 := partsAll_nonneg vs
    have pl := length_parts l
    have pv := length_parts vs
    have jl := jsonAll_len l hgl
    have jv := jsonAll_len vs hgv
    simp only [V.parts] at hp
    simp only [V.bytes] at hb
    simp only [V.deep] at hd
    have hlv : ks.length = vs.length := by obtain ⟨_, _, _, _, _, _, h⟩ := hc1; exact h
    have kl := keyed_all_len ks vs hlv
    have hk0 := hc1.1
    have hk6 := hc1.2.1
    have hk : k = 0 ∨ (k = 1 ∨ k = 2 ∨ k = 3) ∨ k = 4 ∨ k = 5 ∨ k = 6 := by omega
    rcases hk with rfl | hk | rfl | rfl | rfl
    · have e : (V.mk 0 h t aL cL l aK cK ks aV cV vs).jsonT = [110, 117, 108, 108] := by simp [V.jsonT]
      rw [e, V.val_mk]
      exact json_null w h t _ _ _
    · have e : (V.mk k h t aL cL l aK cK ks aV cV vs).jsonT = (if k = 1 then [102, 97, 108, 115, 101] else if k = 2 then [116, 114, 117, 101] else figs h) := by
        rcases hk with rfl | rfl | rfl <;> simp [V.jsonT]
      rw [e, V.val_mk]
      exact json_leaf w k h t _ _ _ hk hc2.1 hc2.2.1
    · have e : (V.mk 4 h t aL cL l aK cK ks aV cV vs).jsonT = 34 :: (jqs t.data.toList ++ [34]) := by simp [V.jsonT]
      rw [e, V.val_mk]
      exact json_text w h t _ _ _ hts
    · have e : (V.mk 5 h t aL cL l aK cK ks aV cV vs).jsonT = 91 :: (commas (jsonAll l) ++ [93]) := by simp [V.jsonT]
      have hv0 : vs.length = 0 := by
        obtain ⟨_, _, _, _, _, h6, _⟩ := hc1
        rcases h6 with h6 | h6
        · omega
        · omega
      rw [e, V.val_mk, hv0]
      refine json_list w B h t aL cL l.length l _ aV cV hB hrowL rfl (by omega) hown.2.2.2.1 (by omega) fun y hy w' hbw => ?_
      have := deep_mem hy
      have := parts_mem hy
      have := bytes_mem hy
      exact ih y w' B (by omega) ((hallL.mem y hy).below hbw hB) (by have := hbw.size; omega) (goodAll_mem hgl y hy) (by omega) (by omega)
    · have e : (V.mk 6 h t aL cL l aK cK ks aV cV vs).jsonT = 123 :: (commas (List.zipWith keyed ks (jsonAll vs)) ++ [125]) := by simp [V.jsonT]
      have hl0 : l.length = 0 := by
        obtain ⟨_, _, _, _, h5, _, _⟩ := hc1
        rcases h5 with h5 | h5
        · omega
        · exact h5
      rw [e, V.val_mk, hl0, hlv]
      refine json_map w B h t aL cL vs.length aK cK ks aV cV vs hB hrowV hkeys rfl hlv.symm (by omega) hown.2.2.2.2.2.2.2.1 (by rw [← hlv]; exact hown.2.2.2.2.2.1) (by omega) fun y hy w' hbw => ?_
      have := deep_mem hy
      have := parts_mem hy
      have := bytes_mem hy
      exact ih y w' B (by omega) ((hallV.mem y hy).below hbw hB) (by have := hbw.size; omega) (goodAll_mem hgv y hy) (by omega) (by omega)
end Go.Proofs.YtpigccnlembfdaaGreatDoor
