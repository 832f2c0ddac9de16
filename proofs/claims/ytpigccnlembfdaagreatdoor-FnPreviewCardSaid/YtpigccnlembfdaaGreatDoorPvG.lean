/- spec.Fit; toGo. Conditions: as each theorem states. -/
import Derived.Test.YtpigccnlembfdaaGreatDoorPvFit
import Derived.Test.YtpigccnlembfdaaGreatDoorPvA
import Derived.Test.YtpigccnlembfdaaGreatDoorPvD
import Derived.Laws.MakeOwn
import Derived.Laws.Entries
import Derived.Laws.NewBlocks
import Derived.Deep.OwnRows

/- The walks of spec.Fit and of fine: what they let through is right. Conditions: the tree lies in the world; the tables of package utf8 lie there. -/
namespace Go.Proofs.YtpigccnlembfdaaGreatDoor
open Go.RowKit

theorem below_of_grown {w w1 w' : World} {g : Nat} (h1 : Below w.heap.size w w1) (h : w1.grownBy w' (some g)) (hg : w.heap.size ≤ g) : Below w.heap.size w w' :=
  ⟨h.os.trans h1.os, h.tape.trans h1.tape, h.output.trans h1.output, Nat.le_trans h1.size h.size, fun i hi =>
    (h.block i (Nat.lt_of_lt_of_le hi h1.size) (fun e => by injection e; omega)).trans (h1.block i hi)⟩

/-- What Fit says: if yes, the value is right and small. -/
def FitPost (x : V) (w : World) (e : Ending) (w' : World) : Prop := ∃ b, e = .returned (.bool b) ∧ Below w.heap.size w w' ∧ (b = true → x.Good ∧ x.parts ≤ 400 ∧ x.bytes ≤ 2000)

set_option maxRecDepth 100000 in
set_option maxHeartbeats 1000000 in
theorem fit_any {Tabs : World → Prop} (hV : ValidSaid Tabs) {N : Nat} (hTk : ∀ w w' : World, ∀ g, N ≤ g → Tabs w → w.grownBy w' (some g) → Tabs w') (x : V) (w : World) (B : Nat) (hin : x.In w B) (hB : B ≤ w.heap.size) (hNw : N ≤ w.heap.size) (hT : Tabs w) :
    Calls Tryz.prog 7 #[x.val] w (FitPost x w) := by
  have hC : ∀ w', Below w.heap.size w w' → Look w' (w.heap.size + 1) 0 0 false → Calls Tryz.prog 18 #[.pointer (some ⟨w.heap.size + 1, 0, none⟩), x.val, .int .i64 0] w' (ValuePost (w.heap.size + 1) 0 0 false x w') := fun w' hb hl =>
    value_any hV hTk x.deep x w' B (w.heap.size + 1) 0 0 0 false (Nat.le_refl _) (hin.below hb hB) (by omega) (by omega) (hTk w w' (w.heap.size + 1) (by omega) hT (grown_below hb _)) hl (fun _ => by omega)
  obtain ⟨k, h, t, aL, cL, l, aK, cK, ks, aV, cV, vs⟩ := x
  rw [V.val_mk] at hC ⊢
  have HC := Lib.hid hC
  clear hC hin hT hTk hV
  go_enter Tryz.func7, Tryz.ntmps7
  have hb1 : ∀ o1 o2, Below w.heap.size w ((w.alloc o1).alloc o2) := fun o1 o2 => ((Below.refl _ _).alloc (Nat.le_refl _) _).alloc (by simp) _
  have hl1 : ∀ o1, Look ((w.alloc o1).alloc (.cells #[.int .i64 0, .int .i64 0, .bool false] 44)) (w.heap.size + 1) 0 0 false := fun o1 => by
    have := heap_alloc_new (w.alloc o1) (.cells #[.int .i64 0, .int .i64 0, .bool false] 44)
    simpa [Look] using this
  have HB1 := Lib.hid hb1
  have HL1 := Lib.hid hl1
  clear hb1 hl1
  go_wp2_with (go_at_call 18; refine (HC.out _ (HB1.out _ _) (HL1.out _)).mono ?_; rintro e w2 ⟨p', b', bad', rfl, hg2, hl2, hx2⟩; have c2 := hl2.cell2)
  go_ret
  refine ⟨!bad', rfl, below_of_grown (HB1.out _ _) hg2 (by omega), fun hb => ?_⟩
  obtain ⟨_, h1, h2, h3, h4, h5⟩ := hx2 (by simpa using hb)
  exact ⟨h5, by omega, by omega⟩

/-- What fine says of one value: if yes, it is right and small, and its text is short. -/
def FinePost (x : V) (w : World) (e : Ending) (w' : World) : Prop := ∃ b, e = .returned (.bool b) ∧ Below w.heap.size w w' ∧ (b = true → x.Good ∧ x.parts ≤ 400 ∧ x.bytes ≤ 2000 ∧ x.text.size ≤ 4096)

set_option maxRecDepth 100000 in
set_option maxHeartbeats 1000000 in
theorem fine_any {Tabs : World → Prop} (hV : ValidSaid Tabs) {N : Nat} (hTk : ∀ w w' : World, ∀ g, N ≤ g → Tabs w → w.grownBy w' (some g) → Tabs w') (x : V) (w : World) (B c : Nat) (ad : Addr) (hin : x.In w B) (hB : B ≤ w.heap.size) (hNw : N ≤ w.heap.size)
    (hr : ∀ (j : Nat) (u : Value), x.cells[j]? = some u → w.cell? (ad.add j) = some u) (hT : Tabs w) :
    Calls Tryz.prog 10 #[.slice (some ad) 1 c] w (FinePost x w) := by
  have hC := fit_any hV hTk x w B hin hB hNw hT
  obtain ⟨k, h, t, aL, cL, l, aK, cK, ks, aV, cV, vs⟩ := x
  rw [V.val_mk] at hC
  have hsix := six (a := ad) (i := 0) (w := w) (by simpa using hr)
  simp only [Nat.zero_mul] at hsix
  have had0 : ad.add 0 = ad := by simp [Addr.add]
  rw [had0] at hsix
  obtain ⟨d0, d1, d2, d3, d4, d5⟩ := hsix
  have HC := Lib.hid hC
  clear hC hin hT hTk hV hr had0
  go_enter Tryz.func10, Tryz.ntmps10
  go_wp2_with fail
  go_loopw [3] (fun i wr => (i = .int .i64 0 ∧ w = wr) ∨ (i = .int .i64 1 ∧ Below w.heap.size w wr ∧ (V.mk k h t aL cL l aK cK ks aV cV vs).Good ∧ (V.mk k h t aL cL l aK cK ks aV cV vs).parts ≤ 400 ∧ (V.mk k h t aL cL l aK cK ks aV cV vs).bytes ≤ 2000 ∧ t.size ≤ 4096)) (fun i _ => 2 - (intOf i).toNat)
  case atStart => exact Or.inl ⟨rfl, rfl⟩
  case round =>
    rcases hrel with ⟨rfl, rfl⟩ | ⟨rfl, hb, hg⟩
    · by_cases ht : (4096 : Int) < (t.size : Int)
      · go_wp2_with fail
        go_ret
        exact ⟨false, rfl, Below.refl _ _, fun hf => by simp at hf⟩
      · go_wp2_with fail
        refine HC.out.mono ?_
        rintro e w1 ⟨b, rfl, hb1, hx1⟩
        have HX1 := Lib.hid hx1
        clear hx1
        cases b
        · go_wp2_with fail
          go_ret
          exact ⟨false, rfl, hb1, fun hf => by simp at hf⟩
        · go_wp2_with fail
          go_roundw
          case rel => exact Or.inr ⟨rfl, hb1, (HX1.out trivial).1, (HX1.out trivial).2.1, (HX1.out trivial).2.2, by omega⟩
          case measure => simp [intOf]
    · have HG := Lib.hid hg
      clear hg
      go_wp2_with fail
      go_ret
      exact ⟨true, rfl, hb, fun _ => HG.out⟩
end Go.Proofs.YtpigccnlembfdaaGreatDoor

/- How many bytes a tree and its parts have. Conditions: none. -/
namespace Go.Proofs.YtpigccnlembfdaaGreatDoor
open Go.RowKit

theorem sizes_pos : ∀ ks : List ByteArray, 0 ≤ sizes ks
  | [] => by simp [sizes]
  | s :: r => by have := sizes_pos r; simp only [sizes]; omega
mutual
theorem bytes_pos : ∀ x : V, 0 ≤ x.bytes
  | .mk k h t aL cL l aK cK ks aV cV vs => by
    have h1 := bytes_posAll l
    have h2 := bytes_posAll vs
    have h3 := sizes_pos ks
    simp only [V.bytes]; omega
theorem bytes_posAll : ∀ l : List V, 0 ≤ bytesAll l
  | [] => by simp [bytesAll]
  | x :: r => by
    have h1 := bytes_pos x
    have h2 := bytes_posAll r
    simp only [bytesAll]; omega
end
theorem bytes_mem : ∀ {l : List V} {y : V}, y ∈ l → y.bytes ≤ bytesAll l
  | x :: r, y, hy => by
    have h1 := bytes_pos x
    have h2 := bytes_posAll r
    simp only [bytesAll]
    rcases List.mem_cons.1 hy with rfl | hy
    · omega
    · have := bytes_mem hy; omega
theorem bytes_list (x y : V) (hy : y ∈ x.list) : y.bytes ≤ x.bytes := by
  obtain ⟨k, h, t, aL, cL, l, aK, cK, ks, aV, cV, vs⟩ := x
  have h1 := bytes_mem (l := l) hy
  have h2 := bytes_posAll vs
  have h3 := sizes_pos ks
  simp only [V.bytes]; omega
theorem text_small (x : V) (hb : x.bytes ≤ 2000) : x.text.size ≤ 1000000 := by
  obtain ⟨k, h, t, aL, cL, l, aK, cK, ks, aV, cV, vs⟩ := x
  have h1 := bytes_posAll l
  have h2 := bytes_posAll vs
  have h3 := sizes_pos ks
  simp only [V.bytes] at hb
  simp only [V.text]; omega
end Go.Proofs.YtpigccnlembfdaaGreatDoor

/- The walks of toGo, listToGo and mapToGo: what a right value is for the program. Conditions: the tree lies in the world and is right. -/
namespace Go.Proofs.YtpigccnlembfdaaGreatDoor
open Go.RowKit Go.Deep

mutual
/-- The JSON value that a tree stands for. -/
def V.toJ : V → J
  | .mk k h t _ _ l _ _ ks _ _ vs =>
    if k = 0 then .null else if k = 1 then .bool false else if k = 2 then .bool true
    else if k = 3 then (if h.tmod 2 = 0 then .int (h.tdiv 2) else .flt (hbits h))
    else if k = 4 then .str t else if k = 5 then .list (toJAll l) else .map ks (toJAll vs)
def toJAll : List V → List J
  | [] => []
  | x :: r => x.toJ :: toJAll r
end
theorem toJAll_length : ∀ l : List V, (toJAll l).length = l.length
  | [] => by simp [toJAll]
  | x :: r => by simp [toJAll, toJAll_length r]
theorem toJAll_take : ∀ (l : List V) (k : Nat), (toJAll l).take k = toJAll (l.take k)
  | [], k => by simp [toJAll]
  | x :: r, 0 => by simp [toJAll]
  | x :: r, k + 1 => by simp [toJAll, toJAll_take r k]
theorem toJAll_snoc : ∀ (l : List V) (x : V), toJAll (l ++ [x]) = toJAll l ++ [x.toJ]
  | [], x => by simp [toJAll]
  | y :: r, x => by simp [toJAll, toJAll_snoc r x]
theorem goodAll_mem : ∀ {l : List V}, GoodAll l → ∀ x ∈ l, x.Good
  | [], _, x, hx => by cases hx
  | y :: r, h, x, hx => by
    unfold GoodAll at h
    rcases List.mem_cons.1 hx with rfl | hx
    · exact h.1
    · exact goodAll_mem h.2 x hx

/-- Blocks from n on. -/
def From (n : Nat) (b : Nat) : Prop := n ≤ b

/-- make(map[K]V, n) -/
theorem run_makeMap_hint {P : Program} (t k e : TypeId) (kd : IntKind) (n : Int) (ht : P.underlying t = some (.map k e)) (w : World) :
    (Instr.makeMap t (some (.int kd n))).run P w = .ok (.map (some w.heap.size)) (w.alloc (.map #[] 0)) := by
  simp [Instr.makeMap, run_underlying ht]; rfl

/-- What toGo leaves. -/
def GoPost (j : J) (w : World) (e : Ending) (w' : World) : Prop := ∃ x, e = .returned (.tuple #[x, .bool true]) ∧ Below w.heap.size w w' ∧ Rep w' (From w.heap.size) j x

set_option maxRecDepth 100000 in
set_option maxHeartbeats 1000000 in
theorem toGo_leaf (k h : Int) (t : ByteArray) (aL : Option Addr) (cL : Nat) (l : List V) (aK : Option Addr) (cK : Nat) (ks : List ByteArray) (aV : Option Addr) (cV : Nat) (vs : List V) (w : World)
    (hk0 : 0 ≤ k) (hk : k ≤ 4) (hh : C2 h) (ht : t.size ≤ 140737488351232) :
    Calls Tryz.prog 21 #[(V.mk k h t aL cL l aK cK ks aV cV vs).val] w (GoPost (V.mk k h t aL cL l aK cK ks aV cV vs).toJ w) := by
  rw [V.val_mk]
  obtain ⟨nl, hnl⟩ : ∃ nl, nl = l.length := ⟨_, rfl⟩
  obtain ⟨nk, hnk⟩ : ∃ nk, nk = ks.length := ⟨_, rfl⟩
  obtain ⟨nv, hnv⟩ : ∃ nv, nv = vs.length := ⟨_, rfl⟩
  rw [← hnl, ← hnk, ← hnv]
  clear hnl hnk hnv
  have hbl : ∀ o, Below w.heap.size w (w.alloc o) := fun o => (Below.refl _ _).alloc (Nat.le_refl _) _
  have HB := Lib.hid hbl
  clear hbl
  have hc : k = 0 ∨ k = 1 ∨ k = 2 ∨ k = 3 ∨ k = 4 := by omega
  rcases hc with rfl | rfl | rfl | rfl | rfl
  · go_enter Tryz.func21, Tryz.ntmps21
    go_wp2_with fail
    go_ret2
    exact ⟨_, rfl, HB.out _, by simp [V.toJ, Rep]⟩
  · go_enter Tryz.func21, Tryz.ntmps21
    go_wp2_with fail
    go_ret2
    exact ⟨_, rfl, HB.out _, by simp [V.toJ, Rep]⟩
  · go_enter Tryz.func21, Tryz.ntmps21
    go_wp2_with fail
    go_ret2
    exact ⟨_, rfl, HB.out _, by simp [V.toJ, Rep]⟩
  · by_cases he : h.tmod 2 = 0
    · have h1 : -18014398509481984 ≤ h := hh.1
      have h2 : h ≤ 18014398509481984 := hh.2.1
      have HH := Lib.hid hh
      have HE := Lib.hid he
      have he2 : (h.tmod 2 == 0) = true := by simp [he]
      clear hh he
      go_enter Tryz.func21, Tryz.ntmps21
      go_wp2_with fail
      go_ret2
      refine ⟨_, rfl, HB.out _, ?_⟩
      simp [V.toJ, Rep, HE.out]
      have hq := Int.mul_tdiv_add_tmod h 2
      rw [HE.out] at hq
      omega
    · have h3 := hh.2.2.resolve_left he
      have hf := fun w => run_float_arith (P := Tryz.prog) w .quo 65 .f64 (floatOfInt .f64 h) 4611686018427387904 (hbits h) (half_bits h (by rintro rfl; simp at he) h3.1 h3.2)
      have HE := Lib.hid he
      have he2 : (h.tmod 2 == 0) = false := by simp [he]
      clear hh he h3
      go_enter Tryz.func21, Tryz.ntmps21
      go_wp2_with fail
      go_ret2
      exact ⟨_, rfl, HB.out _, by simp [V.toJ, Rep, HE.out]⟩
  · go_enter Tryz.func21, Tryz.ntmps21
    go_wp2_with fail
    go_ret2
    exact ⟨_, rfl, HB.out _, by simp [V.toJ, Rep, ht]⟩

/-- What listToGo leaves. -/
def ListPost (l : List J) (w : World) (e : Ending) (w' : World) : Prop :=
  ∃ A c, e = .returned (.tuple #[.slice A l.length c, .bool true]) ∧ Below w.heap.size w w' ∧ Rep w' (From w.heap.size) (.list l) (.iface 66 (.slice A l.length c))

/-- The block of interface values that is being filled. -/
def Out (w : World) (g : Nat) (us : List Value) (n : Nat) : Prop := w.heap[g]? = some (.cells (us ++ List.replicate n Value.nilIface).toArray 20 (0, 0))

theorem made_any (n : Nat) : madeCells #[Value.nilIface] n = (List.replicate n Value.nilIface).toArray := by
  unfold madeCells
  apply Array.ext
  · simp
  · intro i h1 h2
    simp [Nat.mod_one]
theorem Out.cell {w : World} {g n : Nat} {us : List Value} (h : Out w g us (n + 1)) : w.cell? ⟨g, us.length, none⟩ = some .nilIface := by
  rw [cell_of_row w g us.length _ _ _ h]
  simp [List.replicate_succ]
theorem Out.frozen {w : World} {g n : Nat} {us : List Value} (h : Out w g us n) (i : Nat) : w.frozen? ⟨g, i, none⟩ = false := by
  unfold Out at h; simp [World.frozen?, h]
theorem Out.lt {w : World} {g n : Nat} {us : List Value} (h : Out w g us n) : g < w.heap.size := (Array.getElem?_eq_some_iff.1 h).1
theorem Out.set {w : World} {g n : Nat} {us : List Value} (h : Out w g us (n + 1)) (u : Value) : Out (w.setCell ⟨g, us.length, none⟩ u) g (us ++ [u]) n := by
  unfold Out at h ⊢
  simp [World.setCell, Array.getElem?_modify, h, List.replicate_succ]
theorem Out.below {w w' : World} {g n : Nat} {us : List Value} (h : Out w g us n) (hb : Below w.heap.size w w') : Out w' g us n := (hb.block g h.lt).trans h

theorem info_any : (Tryz.prog.info? 20).map (fun i => (i.zero, i.size, i.bytes)) = some (some Value.nilIface, 1, 16) := by kernel_rfl

set_option maxRecDepth 100000 in
set_option maxHeartbeats 1000000 in
theorem list_any (w : World) (B : Nat) (A : Option Addr) (c : Nat) (l : List V) (hr : RowsV w B A l) (hall : AllIn w B l) (hB : B ≤ w.heap.size) (hlen : l.length ≤ 1000000)
    (hgo : ∀ y ∈ l, ∀ w', y.In w' B → B ≤ w'.heap.size → Calls Tryz.prog 21 #[y.val] w' (GoPost y.toJ w')) :
    Calls Tryz.prog 33 #[.slice A l.length c] w (ListPost (toJAll l) w) := by
  obtain ⟨n, hn⟩ : ∃ n, n = l.length := ⟨_, rfl⟩
  rw [← hn]
  rw [← hn] at hlen
  have hmk := fun W : World => run_make_row' (P := Tryz.prog) 66 20 .nilIface 16 Tryz.underlying66 info_any rfl .i64 .i64 n (by omega) (by omega) W
  have HR := Lib.hid hr
  have HALL := Lib.hid hall
  have HGO := Lib.hid hgo
  have HN := Lib.hid hn
  clear hr hall hgo hn
  go_enter Tryz.func33, Tryz.ntmps33
  go_wp2_with fail
  go_loopw [14] (fun i wr => ∃ (k : Nat) (us : List Value), k ≤ n ∧ i = .int .i64 k ∧ us.length = k ∧ Below w.heap.size w wr ∧ Out wr w.heap.size us (n - k) ∧ RepAll wr (From (w.heap.size + 1)) (toJAll (l.take k)) us) (fun i _ => n - (intOf i).toNat)
  case atStart =>
    refine ⟨0, [], Nat.zero_le _, rfl, rfl, (Below.refl _ _).alloc (Nat.le_refl _) _, ?_, by simpa [toJAll] using repAll_nil _ _⟩
    have := heap_alloc_new w (.cells (madeCells #[Value.nilIface] n) 20)
    rw [made_any] at this ⊢
    simpa [Out] using this
  case round =>
    obtain ⟨k, us, hk, rfl, hus, hbw, hout, hrep⟩ := hrel
    by_cases hlt : k < n
    · obtain ⟨y, hy⟩ : ∃ y, l[k]? = some y := ⟨_, List.getElem?_eq_getElem (by rw [← HN.out]; exact hlt)⟩
      obtain ⟨ad, rfl, hadb, hrow⟩ := HR.out (by rintro rfl; simp at hy)
      have hc : ∀ (j : Nat) (u : Value), y.cells[j]? = some u → wr.cell? (ad.add (k * 6 + j)) = some u := fun j u hu => (hbw.cell (by rw [block_of_add]; omega)).trans (hrow k y hy j u hu)
      have hmem := List.mem_of_getElem? hy
      have hyIn := (HALL.out.mem y hmem).below hbw hB
      obtain ⟨yk, yh, yt, yaL, ycL, yl, yaK, ycK, yks, yaV, ycV, yvs⟩ := y
      obtain ⟨d0, d1, d2, d3, d4, d5⟩ := six hc
      have hC : ∀ w', (V.mk yk yh yt yaL ycL yl yaK ycK yks yaV ycV yvs).In w' B → B ≤ w'.heap.size → Calls Tryz.prog 21 #[.agg #[.int .i64 yk, .int .i64 yh, .string yt, .slice yaL yl.length ycL, .slice yaK yks.length ycK, .slice yaV yvs.length ycV]] w' (GoPost (V.mk yk yh yt yaL ycL yl yaK ycK yks yaV ycV yvs).toJ w') := fun w' h1 h2 => HGO.out _ hmem w' h1 h2
      have HC := Lib.hid hC
      have HOUT := Lib.hid hout
      have HREP := Lib.hid hrep
      have HYI := Lib.hid hyIn
      have HUS := Lib.hid hus
      have HY := Lib.hid hy
      have hgw := hout.lt
      clear hC hout hrep hyIn hus hrow hc hmem hy
      go_wp2_with fail
      refine (HC.out _ ?_ ?_).mono ?_
      · exact HYI.out.below ((Below.refl _ _).alloc (Nat.le_refl _) _) (by omega)
      · simp; omega
      rintro e w2 ⟨x, rfl, hb2, hr2⟩
      have hbA : Below wr.heap.size wr w2 := ((Below.refl _ _).alloc (Nat.le_refl _) _).trans (hb2.mono (by simp))
      have hb3 : Below w.heap.size w w2 := hbw.trans (hbA.mono hbw.size)
      obtain ⟨r, hr⟩ : ∃ r, n - k = r + 1 := ⟨n - k - 1, by omega⟩
      have ho2 := HOUT.out.below hbA
      rw [hr] at ho2
      have hcell := ho2.cell
      have hfroz := ho2.frozen us.length
      rw [HUS.out] at hcell hfroz
      have hset := ho2.set x
      rw [HUS.out] at hset
      have hg3 := grown_set w2 w.heap.size k x
      have hrs : RepAll (w2.setCell ⟨w.heap.size, k, none⟩ x) (From (w.heap.size + 1)) (toJAll (l.take (k + 1))) (us ++ [x]) := by
        rw [take_snocV l k _ HY.out, toJAll_snoc]
        refine RepAll.snoc ((HREP.out.below hbA).beside hg3 (by simp [From])) ((hr2.more (S' := From (w.heap.size + 1)) ?_).beside hg3 (by simp [From]))
        intro b hb; simp only [From, World.size_alloc] at hb ⊢; omega
      have hsh := hr2.shape
      have HSET := Lib.hid hset
      have HRS := Lib.hid hrs
      have HB3 := Lib.hid hb3
      have HRR := Lib.hid hr
      clear hset hrs hr hr2 hb2 ho2 hg3 hbA hb3
      rcases hsh with rfl | ⟨u, v, rfl⟩
      all_goals
        go_wp2_with fail
        go_roundw
        case rel => exact ⟨k + 1, us ++ [_], by omega, by go_num, by have := HUS.out; simp [this], HB3.out.setCell (by simp) _, by have := HRR.out; rw [show n - (k + 1) = r by omega]; exact HSET.out, HRS.out⟩
        case measure => simp [intOf]; omega
    · have hkn : k = n := by omega
      have HOUT := Lib.hid hout
      have HREP := Lib.hid hrep
      have HUS := Lib.hid hus
      have HKN := Lib.hid hkn
      clear hout hrep hus hkn
      go_wp2_with fail
      go_ret2
      have e1 : l.take k = l := List.take_of_length_le (by have := HN.out; have := HKN.out; omega)
      have hrep := HREP.out
      rw [e1] at hrep
      have hout := HOUT.out
      rw [show n - k = 0 by have := HKN.out; omega] at hout
      have hjl : (toJAll l).length = n := by rw [toJAll_length]; exact HN.out.symm
      refine ⟨some ⟨w.heap.size, 0, none⟩, n, by rw [hjl]; rfl, hbw, ?_⟩
      unfold Rep
      refine ⟨some ⟨w.heap.size, 0, none⟩, n, us, rfl, by omega, by omega, hrep.more fun b hb => by simp only [From] at hb ⊢; omega, fun _ => ⟨_, rfl, by simp [From], hout.lt, fun i u hu => ?_⟩⟩
      rw [show (⟨w.heap.size, 0, none⟩ : Addr).add i = ⟨w.heap.size, i, none⟩ by unfold Addr.add; split <;> simp_all]
      rw [cell_of_row wr w.heap.size i _ _ _ hout]
      simpa using hu

/-- What mapToGo leaves. -/
def MapPost (ks : List ByteArray) (l : List J) (w : World) (e : Ending) (w' : World) : Prop :=
  ∃ b, e = .returned (.tuple #[.map (some b), .bool true]) ∧ Below w.heap.size w w' ∧ Rep w' (From w.heap.size) (.map ks l) (.iface 69 (.map (some b)))

/-- The state in the loop over the keys: q pairs are in the map. -/
structure MapIn (w wr : World) (x : V) (ks : List ByteArray) (vs : List V) (q : Nat) (us : List Value) (m : ByteArray → Option Value) : Prop where
  len : us.length = q
  below : Below w.heap.size w wr
  box : Box wr w.heap.size x
  map : MapIs wr (w.heap.size + 1) q m
  rep : RepAll wr (From (w.heap.size + 2)) (toJAll (vs.take q)) us
  what : ∀ (s : ByteArray) (v : Value), m s = some v ↔ ∃ i : Nat, i < q ∧ ks[i]? = some s ∧ us[i]? = some v
theorem mapIn_start {w : World} {o : Obj} {x : V} {ks : List ByteArray} {vs : List V} (hb : Box (w.alloc o) w.heap.size x) : MapIn w ((w.alloc o).alloc (.map #[] 0)) x ks vs 0 [] (fun _ => none) where
  len := rfl
  below := ((Below.refl _ _).alloc (Nat.le_refl _) _).alloc (by simp) _
  box := (Below.heap_alloc _ _ _ (by simp)).trans hb
  map := by have := MapIs.made (w.alloc o); simpa using this
  rep := by simpa [toJAll] using repAll_nil _ _
  what := fun s v => by simp

theorem grown_setBlock (w : World) (b : Nat) (o : Obj) : w.grownBy (Go.ChangeMaps.setBlock w b o) (some b) :=
  ⟨rfl, rfl, rfl, by simp [Go.ChangeMaps.setBlock], fun k _ hne => by
    have : b ≠ k := by rintro rfl; exact hne rfl
    simp [Go.ChangeMaps.setBlock, this]⟩
/-- The map holds no later key yet. -/
theorem MapIn.fresh {w wr : World} {x : V} {ks : List ByteArray} {vs : List V} {q : Nat} {us : List Value} {m : ByteArray → Option Value} (h : MapIn w wr x ks vs q us m) (hr : Rising ks) {s : ByteArray} (hs : ks[q]? = some s) : m s = none := by
  cases hm : m s with
  | none => rfl
  | some v =>
    obtain ⟨i, hi, h1, _⟩ := (h.what s v).1 hm
    have := hr.inj h1 hs
    omega
theorem MapIn.step {w wr w2 : World} {x : V} {ks : List ByteArray} {vs : List V} {q : Nat} {us : List Value} {m : ByteArray → Option Value} (h : MapIn w wr x ks vs q us m) (hr : Rising ks) {s : ByteArray} {y : V} (hs : ks[q]? = some s) (hy : vs[q]? = some y)
    {u : Value} {o : Obj} (hb2 : Below wr.heap.size wr w2) (hr2 : Rep w2 (From wr.heap.size) y.toJ u)
    (hm : MapIs (Go.ChangeMaps.setBlock w2 (w.heap.size + 1) o) (w.heap.size + 1) (if (m s).isSome then q else q + 1) (fun s' => if s' = s then some u else m s')) :
    MapIn w (Go.ChangeMaps.setBlock w2 (w.heap.size + 1) o) x ks vs (q + 1) (us ++ [u]) (fun s' => if s' = s then some u else m s') := by
  have hf := h.fresh hr hs
  have hg := grown_setBlock w2 (w.heap.size + 1) o
  have hbw := h.map.lt
  refine ⟨by simp [h.len], below_of_grown (h.below.trans (hb2.mono h.below.size)) hg (by omega), ?_, ?_, ?_, ?_⟩
  · exact (hg.block w.heap.size (by have := hb2.size; omega) (by simp)).trans ((hb2.block w.heap.size (by omega)).trans h.box)
  · rw [hf] at hm; exact hm
  · rw [take_snocV vs q y hy, toJAll_snoc]
    exact RepAll.snoc ((h.rep.below hb2).beside hg (by simp [From])) ((hr2.more (S' := From (w.heap.size + 2)) (fun b hb => by simp only [From] at hb ⊢; omega)).beside hg (by simp [From]))
  · intro s' v
    by_cases he : s' = s
    · subst he
      simp only [if_true]
      constructor
      · intro hv; cases hv
        exact ⟨q, by omega, hs, by rw [List.getElem?_append_right (by rw [h.len]; omega), h.len]; simp⟩
      · rintro ⟨i, hi, h1, h2⟩
        have hiq := hr.inj h1 hs
        subst hiq
        rw [List.getElem?_append_right (by rw [h.len]; omega), h.len] at h2
        simpa using h2
    · simp only [if_neg he]
      rw [h.what]
      constructor
      · rintro ⟨i, hi, h1, h2⟩
        exact ⟨i, by omega, h1, by rw [List.getElem?_append_left (by rw [h.len]; omega)]; exact h2⟩
      · rintro ⟨i, hi, h1, h2⟩
        have hiq : i ≠ q := by rintro rfl; rw [hs] at h1; cases h1; exact he rfl
        refine ⟨i, by omega, h1, ?_⟩
        rw [List.getElem?_append_left (by rw [h.len]; omega)] at h2
        exact h2

set_option maxRecDepth 100000 in
set_option maxHeartbeats 1000000 in
theorem map_any (w : World) (B : Nat) (k h : Int) (t : ByteArray) (aL : Option Addr) (cL : Nat) (l : List V) (aK : Option Addr) (cK : Nat) (ks : List ByteArray) (aV : Option Addr) (cV : Nat) (vs : List V)
    (hin : (V.mk k h t aL cL l aK cK ks aV cV vs).In w B) (hB : B ≤ w.heap.size) (hlen : ks.length ≤ 1000000) (hkv : ks.length = vs.length) (hris : Rising ks)
    (hgo : ∀ y ∈ vs, ∀ w', y.In w' B → B ≤ w'.heap.size → Calls Tryz.prog 21 #[y.val] w' (GoPost y.toJ w')) :
    Calls Tryz.prog 34 #[(V.mk k h t aL cL l aK cK ks aV cV vs).val] w (MapPost ks (toJAll vs) w) := by
  rw [V.val_mk]
  obtain ⟨nl, hnl⟩ : ∃ nl, nl = l.length := ⟨_, rfl⟩
  obtain ⟨nk, hnk⟩ : ∃ nk, nk = ks.length := ⟨_, rfl⟩
  obtain ⟨nv, hnv⟩ : ∃ nv, nv = vs.length := ⟨_, rfl⟩
  rw [← hnk] at hlen
  have hmk := fun (W : World) => run_makeMap_hint (P := Tryz.prog) 69 _ _ .i64 (nk : Int) Tryz.underlying69 W
  have hbx : Box (w.alloc (.cells #[.int .i64 k, .int .i64 h, .string t, .slice aL nl cL, .slice aK nk cK, .slice aV nv cV] 26)) w.heap.size (V.mk k h t aL cL l aK cK ks aV cV vs) := by
    rw [hnl, hnk, hnv]; exact Box.new w (V.mk k h t aL cL l aK cK ks aV cV vs)
  rw [← hnl, ← hnk, ← hnv]
  unfold V.In V.Own at hin
  obtain ⟨hown, _, hkeys, hrows, _, hall⟩ := hin
  have hsz : ∀ s ∈ ks, s.size ≤ 140737488351232 := hown.2.2.2.2.2.2.2.2.2
  have HKEYS := Lib.hid hkeys
  have HROWS := Lib.hid hrows
  have HALL := Lib.hid hall
  have HGO := Lib.hid hgo
  have HBX := Lib.hid hbx
  have HSZ := Lib.hid hsz
  have HRIS := Lib.hid hris
  have HN := Lib.hid (And.intro hnl (And.intro hnk hnv))
  have HNN := Lib.hid (show nk = nv by omega)
  have hne : ((nk : Int) != (nv : Int)) = false := by have := HNN.out; simp [this]
  clear hkeys hrows hall hgo hbx hsz hris hnl hnk hnv hkv hown
  go_enter Tryz.func34, Tryz.ntmps34
  go_wp2_with fail
  go_loopw [23] (fun i wr => ∃ (q : Nat) (us : List Value) (m : ByteArray → Option Value), q ≤ nk ∧ i = .int .i64 q ∧ MapIn w wr (V.mk k h t aL cL l aK cK ks aV cV vs) ks vs q us m) (fun i _ => nk - (intOf i).toNat)
  case atStart => exact ⟨0, [], _, Nat.zero_le _, rfl, mapIn_start HBX.out⟩
  case round =>
    obtain ⟨q, us, m, hq, rfl, hM⟩ := hrel
    have c4 := hM.box.cell 4
    have c5 := hM.box.cell 5
    simp only [V.cells, List.getElem?_cons_zero, List.getElem?_cons_succ, ← HN.out.2.1, ← HN.out.2.2] at c4 c5
    have HM := Lib.hid hM
    clear hM
    by_cases hlt : q < nk
    · obtain ⟨s, hs⟩ : ∃ s, ks[q]? = some s := ⟨_, List.getElem?_eq_getElem (by rw [← HN.out.2.1]; exact hlt)⟩
      obtain ⟨y, hy⟩ : ∃ y, vs[q]? = some y := ⟨_, List.getElem?_eq_getElem (by rw [← HN.out.2.2]; have := HNN.out; omega)⟩
      obtain ⟨adk, rfl, hadkb, hrowk⟩ := HKEYS.out (by rintro e; have := congrArg List.length e; simp [← HN.out.2.1] at this; omega)
      obtain ⟨adv, rfl, hadvb, hrowv⟩ := HROWS.out (by rintro rfl; simp at hy)
      have hbw := HM.out.below
      have hck : wr.cell? (adk.add q) = some (.string s) := (hbw.cell (by rw [block_of_add]; omega)).trans (hrowk q (.string s) (by simp [hs]))
      have hc : ∀ (j : Nat) (u : Value), y.cells[j]? = some u → wr.cell? (adv.add (q * 6 + j)) = some u := fun j u hu => (hbw.cell (by rw [block_of_add]; omega)).trans (hrowv q y hy j u hu)
      have hmem := List.mem_of_getElem? hy
      have hyIn := (HALL.out.mem y hmem).below hbw hB
      have hssz := HSZ.out s (List.mem_of_getElem? hs)
      have hcp : ∀ i s0, q = i + 1 → ks[i]? = some s0 → wr.cell? (adk.add i) = some (.string s0) := fun i s0 _ h0 => (hbw.cell (by rw [block_of_add]; omega)).trans (hrowk i (.string s0) (by simp [h0]))
      obtain ⟨yk, yh, yt, yaL, ycL, yl, yaK, ycK, yks, yaV, ycV, yvs⟩ := y
      obtain ⟨d0, d1, d2, d3, d4, d5⟩ := six hc
      have hC : Calls Tryz.prog 21 #[.agg #[.int .i64 yk, .int .i64 yh, .string yt, .slice yaL yl.length ycL, .slice yaK yks.length ycK, .slice yaV yvs.length ycV]] wr (GoPost (V.mk yk yh yt yaL ycL yl yaK ycK yks yaV ycV yvs).toJ wr) := HGO.out _ hmem wr hyIn (by have := hbw.size; omega)
      have HC := Lib.hid hC
      have HS := Lib.hid hs
      have HY := Lib.hid hy
      have HCP := Lib.hid hcp
      have hqv : q < nv := by have := HNN.out; omega
      clear hC hs hy hcp hc hmem hyIn hrowk hrowv hbw
      by_cases hq0 : 0 < q
      · obtain ⟨i, hi⟩ : ∃ i, q = i + 1 := ⟨q - 1, by omega⟩
        obtain ⟨s0, hs0⟩ : ∃ s0, ks[i]? = some s0 := ⟨_, List.getElem?_eq_getElem (by rw [← HN.out.2.1]; omega)⟩
        have m1 := HCP.out i s0 hi hs0
        have e1 : ((q : Int) - 1).toNat = i := by omega
        have m2 : wr.cell? (adk.add ((q : Int) - 1).toNat) = some (.string s0) := by rw [e1]; exact m1
        have m3 : wr.cell? (adk.add (q - 1)) = some (.string s0) := by rw [show q - 1 = i by omega]; exact m1
        have hbl : Op.bytesLess s0.toList s.toList = true := HRIS.out i s0 s hs0 (by rw [← hi]; exact HS.out)
        have hq1 : 1 ≤ (q : Int) := by omega
        have hq2 : (q : Int) - 1 < (nk : Int) := by omega
        clear hi hs0 e1 m1
        go_wp2_with fail
        refine HC.out.mono ?_
        rintro e w2 ⟨x, rfl, hb2, hr2⟩
        obtain ⟨o, hput, hm2⟩ := (HM.out.map.of_block (hb2.block _ HM.out.map.lt)).put Tryz.underlying69 Tryz.underlying9 (s := s) (by unfold maxLen; omega) x
        have HST := Lib.hid (HM.out.step HRIS.out HS.out HY.out hb2 hr2 hm2)
        clear hm2 hb2 hr2 m2 m3 hbl hq1 hq2
        go_wp2_with fail
        go_roundw
        case rel => exact ⟨q + 1, _, _, by omega, by go_num, HST.out⟩
        case measure => simp [intOf]; omega
      · go_wp2_with fail
        refine HC.out.mono ?_
        rintro e w2 ⟨x, rfl, hb2, hr2⟩
        obtain ⟨o, hput, hm2⟩ := (HM.out.map.of_block (hb2.block _ HM.out.map.lt)).put Tryz.underlying69 Tryz.underlying9 (s := s) (by unfold maxLen; omega) x
        have HST := Lib.hid (HM.out.step HRIS.out HS.out HY.out hb2 hr2 hm2)
        clear hm2 hb2 hr2
        go_wp2_with fail
        go_roundw
        case rel => exact ⟨q + 1, _, _, by omega, by go_num, HST.out⟩
        case measure => simp [intOf]; omega
    · have hkn : q = nk := by omega
      have HKN := Lib.hid hkn
      clear hkn
      go_wp2_with fail
      go_ret2
      refine ⟨w.heap.size + 1, rfl, HM.out.below, ?_⟩
      have hM := HM.out
      have hN := HN.out
      have hkv := HNN.out
      have e1 : vs.take q = vs := List.take_of_length_le (by have := HKN.out; omega)
      have hrep := hM.rep
      rw [e1] at hrep
      have hmap := hM.map
      rw [HKN.out, hN.2.1] at hmap
      unfold Rep
      refine ⟨w.heap.size + 1, m, us, rfl, by simp [From], hmap, hrep.more fun b hb => by simp only [From] at hb ⊢; omega, by rw [toJAll_length]; omega, HRIS.out, HSZ.out, fun s v => ?_⟩
      rw [hM.what]
      constructor
      · rintro ⟨i, _, h1, h2⟩; exact ⟨i, h1, h2⟩
      · rintro ⟨i, h1, h2⟩; exact ⟨i, by have := (List.getElem?_eq_some_iff.1 h1).1; have := HKN.out; omega, h1, h2⟩

theorem Keys.rising {ks : List ByteArray} (h : Keys ks) : Rising ks := h.2
theorem parts_pos (x : V) : 1 ≤ x.parts := by
  obtain ⟨k, h, t, aL, cL, l, aK, cK, ks, aV, cV, vs⟩ := x
  have := partsAll_nonneg l; have := partsAll_nonneg vs
  simp only [V.parts]; omega
theorem length_parts : ∀ l : List V, (l.length : Int) ≤ partsAll l
  | [] => by simp [partsAll]
  | x :: r => by have := parts_pos x; have := length_parts r; simp only [partsAll, List.length_cons]; omega
theorem parts_mem : ∀ {l : List V} {x : V}, x ∈ l → x.parts ≤ partsAll l
  | y :: r, x, hx => by
    have := partsAll_nonneg r; have := parts_pos y
    rcases List.mem_cons.1 hx with rfl | hx
    · simp only [partsAll]; omega
    · have := parts_mem hx; simp only [partsAll]; omega

set_option maxRecDepth 100000 in
set_option maxHeartbeats 1000000 in
/-- toGo makes of a right value the JSON value that it stands for. -/
theorem toGo_any (n : Nat) : ∀ (x : V) (w : World) (B : Nat), x.deep ≤ n → x.In w B → B ≤ w.heap.size → x.Good → x.parts ≤ 1000000 →
    Calls Tryz.prog 21 #[x.val] w (GoPost x.toJ w) := by
  induction n with
  | zero =>
    intro x _ _ hd
    cases x; simp [V.deep] at hd
  | succ n ih =>
    intro x w B hd hin hB hgood hparts
    obtain ⟨k, h, t, aL, cL, l, aK, cK, ks, aV, cV, vs⟩ := x
    have hin0 := hin
    unfold V.In V.Own at hin
    obtain ⟨hown, hrows, hkeys, hrowsv, hall, hallv⟩ := hin
    unfold V.Good at hgood
    obtain ⟨hc1, hc2, hval, hks, hgl, hgv⟩ := hgood
    have hpl := length_parts l
    have hpv := length_parts vs
    have hp0 := partsAll_nonneg l
    have hp1 := partsAll_nonneg vs
    simp only [V.parts] at hparts
    have hk0 := hc1.1
    have hk6 := hc1.2.1
    by_cases h4 : k ≤ 4
    · exact toGo_leaf k h t aL cL l aK cK ks aV cV vs w hk0 h4 hc2 hown.2.2.1
    · have hL : Calls Tryz.prog 33 #[.slice aL l.length cL] (w.alloc (.cells #[.int .i64 k, .int .i64 h, .string t, .slice aL l.length cL, .slice aK ks.length cK, .slice aV vs.length cV] 26)) (ListPost (toJAll l) (w.alloc (.cells #[.int .i64 k, .int .i64 h, .string t, .slice aL l.length cL, .slice aK ks.length cK, .slice aV vs.length cV] 26))) := by
        refine list_any _ B aL cL l (hrows.keep fun p hp => World.cell?_alloc_lt w _ p (by omega)) (AllIn.keep (fun p hp => World.cell?_alloc_lt w _ p (by omega)) hall) (by simp; omega) (by omega) fun y hy w' hyI hB' => ?_
        exact ih y w' B (by have := deep_list (k := k) (h := h) (t := t) (aL := aL) (cL := cL) (aK := aK) (cK := cK) (ks := ks) (aV := aV) (cV := cV) (vs := vs) hy; omega) hyI hB' (goodAll_mem hgl y hy) (by have := parts_mem hy; omega)
      have hM : k = 6 → Calls Tryz.prog 34 #[.agg #[.int .i64 k, .int .i64 h, .string t, .slice aL l.length cL, .slice aK ks.length cK, .slice aV vs.length cV]] (w.alloc (.cells #[.int .i64 k, .int .i64 h, .string t, .slice aL l.length cL, .slice aK ks.length cK, .slice aV vs.length cV] 26)) (MapPost ks (toJAll vs) (w.alloc (.cells #[.int .i64 k, .int .i64 h, .string t, .slice aL l.length cL, .slice aK ks.length cK, .slice aV vs.length cV] 26))) := fun _ => by
        refine map_any _ B k h t aL cL l aK cK ks aV cV vs (hin0.keep fun p hp => World.cell?_alloc_lt w _ p (by omega)) (by simp; omega) (by have := hc1.2.2.2.2.2.2; omega) hc1.2.2.2.2.2.2 hks.rising fun y hy w' hyI hB' => ?_
        exact ih y w' B (by have := deep_vals (k := k) (h := h) (t := t) (aL := aL) (cL := cL) (l := l) (aK := aK) (cK := cK) (ks := ks) (aV := aV) (cV := cV) hy; omega) hyI hB' (goodAll_mem hgv y hy) (by have := parts_mem hy; omega)
      have hlen : (toJAll l).length = l.length := toJAll_length l
      have HL := Lib.hid hL
      have HM := Lib.hid hM
      have HLEN := Lib.hid hlen
      clear hL hM hin0 hown hrows hkeys hrowsv hall hallv hc1 hc2 hval hks hgl hgv hpl hpv hp0 hp1 hparts ih hd hlen
      have hk : k = 5 ∨ k = 6 := by omega
      rw [V.val_mk]
      have hbl : ∀ o, Below w.heap.size w (w.alloc o) := fun o => (Below.refl _ _).alloc (Nat.le_refl _) _
      have HB := Lib.hid hbl
      clear hbl
      rcases hk with rfl | rfl
      · go_enter Tryz.func21, Tryz.ntmps21
        go_wp2_with fail
        refine HL.out.mono ?_
        rintro e w2 ⟨A', c', rfl, hb2, hr2⟩
        rw [HLEN.out] at hr2 ⊢
        go_wp2_with fail
        go_ret2
        refine ⟨_, rfl, (HB.out _).trans (hb2.mono (by simp)), ?_⟩
        have ej : (V.mk 5 h t aL cL l aK cK ks aV cV vs).toJ = .list (toJAll l) := by simp [V.toJ]
        rw [ej]
        exact hr2.more fun b hb => by simp only [From, World.size_alloc] at hb ⊢; omega
      · go_enter Tryz.func21, Tryz.ntmps21
        go_wp2_with fail
        refine (HM.out trivial).mono ?_
        rintro e w2 ⟨b', rfl, hb2, hr2⟩
        go_wp2_with fail
        go_ret2
        refine ⟨_, rfl, (HB.out _).trans (hb2.mono (by simp)), ?_⟩
        have ej : (V.mk 6 h t aL cL l aK cK ks aV cV vs).toJ = .map ks (toJAll vs) := by simp [V.toJ]
        rw [ej]
        exact hr2.more fun b hb => by simp only [From, World.size_alloc] at hb ⊢; omega
end Go.Proofs.YtpigccnlembfdaaGreatDoor
