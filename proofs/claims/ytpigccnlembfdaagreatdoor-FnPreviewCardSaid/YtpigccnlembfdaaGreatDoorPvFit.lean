/- The walks of zzFits1 and of spec.Fit: what it means that a value is right. Conditions: the tree lies in the world; the tables of package utf8 lie there. -/
import Derived.Test.YtpigccnlembfdaaGreatDoorPvA
import Derived.Deep.DeepCutAuto
import Derived.Deep.CutBlock
import Derived.BigQuiet
import Derived.Deep.QuietTactic
import Derived.Deep.RegionWith
import Derived.Deep.Light
import Derived.StillTailTactics
import Derived.IntWalk
namespace Go.Proofs.YtpigccnlembfdaaGreatDoor
open Go.RowKit

/-- It says something, and has turned nothing that was there. -/
def SaysBelow (w : World) (e : Ending) (w' : World) : Prop := ∃ b, e = .returned (.bool b) ∧ Below w.heap.size w w'

set_option maxHeartbeats 1000000 in
theorem fits1_any (w : World) (B : Nat) (x : V) (h : x.In w B) (hB : B ≤ w.heap.size) :
    Calls Tryz.prog 6 #[x.val] w (SaysBelow w) := by
  obtain ⟨k, hf, t, aL, cL, l, aK, cK, ks, aV, cV, vs⟩ := x
  unfold V.In at h
  obtain ⟨hown, _, hK, _, _, _⟩ := h
  unfold V.Own at hown
  have hk3 : ks.length ≤ 140737488351232 := by omega
  have HKH := Lib.hid (fun o => hK.keep fun p hp => World.cell?_alloc_lt w o p (by omega) : ∀ o, Reads (w.alloc o) B aK (ks.map .string))
  clear hK hown
  rw [V.val_mk]
  generalize hkl : ks.length = n at *
  have HKL := Lib.hid hkl
  clear hkl
  generalize l.length = nl
  generalize vs.length = nv
  go_enter Tryz.func6, Tryz.ntmps6
  go_wp2_with (go_at_call 13; refine (fits2_any _ B _ _ _ ks (HKH.out _) HKL.out.symm hk3).mono ?_; rintro e w1 ⟨b, rfl, rfl⟩)
  all_goals go_ret
  all_goals exact ⟨_, rfl, (Below.refl _ _).alloc (Nat.le_refl _) _⟩

/-! ### what a right value is -/
/-- The first row of conditions of one node. -/
def C1 (k h : Int) (t : ByteArray) (nl nk nv : Nat) : Prop :=
  0 ≤ k ∧ k ≤ 6 ∧ (k = 3 ∨ h = 0) ∧ (k = 4 ∨ t.toList = []) ∧ (k = 5 ∨ nl = 0) ∧ (k = 6 ∨ nk = 0) ∧ nk = nv
theorem c1_iff (k h : Int) (t : ByteArray) (nl nk nv : Nat) : C1 k h t nl nk nv ↔
    (decide (0 ≤ k) && decide (k ≤ 6) && (k == 3 || h == 0) && (k == 4 || t.toList.isEmpty) && (k == 5 || (nl : Int) == 0) && (k == 6 || (nk : Int) == 0) && (nk : Int) == (nv : Int)) = true := by
  unfold C1
  simp only [Bool.and_eq_true, Bool.or_eq_true, decide_eq_true_eq, beq_iff_eq, List.isEmpty_iff]
  have e1 : ((nl : Int) = 0) = (nl = 0) := propext (by omega)
  have e2 : ((nk : Int) = 0) = (nk = 0) := propext (by omega)
  have e3 : ((nk : Int) = (nv : Int)) = (nk = nv) := propext (by omega)
  rw [e1, e2, e3]
  simp only [and_assoc]
theorem kind_one (k : Int) : ((k == 3) = true ∧ (k == 4) = false ∧ (k == 5) = false ∧ (k == 6) = false) ∨ ((k == 3) = false ∧ (k == 4) = true ∧ (k == 5) = false ∧ (k == 6) = false) ∨ ((k == 3) = false ∧ (k == 4) = false ∧ (k == 5) = true ∧ (k == 6) = false) ∨
    ((k == 3) = false ∧ (k == 4) = false ∧ (k == 5) = false ∧ (k == 6) = true) ∨ ((k == 3) = false ∧ (k == 4) = false ∧ (k == 5) = false ∧ (k == 6) = false) := by
  simp only [beq_iff_eq, beq_eq_false_iff_ne]
  omega
/-- The second: the number is small. -/
def C2 (h : Int) : Prop := -18014398509481984 ≤ h ∧ h ≤ 18014398509481984 ∧ (h.tmod 2 = 0 ∨ (-9007199254740992 < h ∧ h < 9007199254740992))
/-- The keys are texts that rise. -/
def Keys (ks : List ByteArray) : Prop := (∀ s ∈ ks, Lib.validD s.data.toList = true) ∧ ∀ (i : Nat) (s s' : ByteArray), ks[i]? = some s → ks[i + 1]? = some s' → Op.bytesLess s.toList s'.toList = true
def sizes : List ByteArray → Int
  | [] => 0
  | s :: r => s.size + sizes r
mutual
def V.parts : V → Int
  | .mk _ _ _ _ _ l _ _ _ _ _ vs => 1 + partsAll l + partsAll vs
def partsAll : List V → Int
  | [] => 0
  | x :: r => x.parts + partsAll r
end
mutual
def V.bytes : V → Int
  | .mk _ _ t _ _ l _ _ ks _ _ vs => t.size + bytesAll l + sizes ks + bytesAll vs
def bytesAll : List V → Int
  | [] => 0
  | x :: r => x.bytes + bytesAll r
end
mutual
def V.Good : V → Prop
  | .mk k h t _ _ l _ _ ks _ _ vs => C1 k h t l.length ks.length vs.length ∧ C2 h ∧ Lib.validD t.data.toList = true ∧ Keys ks ∧ GoodAll l ∧ GoodAll vs
def GoodAll : List V → Prop
  | [] => True
  | x :: r => x.Good ∧ GoodAll r
end

/-- The box of a value: a block of its six cells. -/
def Box (w : World) (g : Nat) (x : V) : Prop := w.heap[g]? = some (.cells x.cells.toArray 26 (0, 0))
theorem Box.cell {w : World} {g : Nat} {x : V} (h : Box w g x) (i : Nat) : w.cell? ⟨g, i, none⟩ = x.cells[i]? := by
  have := cell_of_row w g i _ _ _ h
  rw [this]; simp
theorem Box.new (w : World) (x : V) : Box (w.alloc (.cells x.cells.toArray 26)) w.heap.size x := heap_alloc_new w _
theorem Box.grown {w w' : World} {g : Nat} {x : V} {row : Option Nat} (h : Box w g x) (hb : w.grownBy w' row) (hg : some g ≠ row) : Box w' g x :=
  (hb.block g (Array.getElem?_eq_some_iff.1 h).1 hg).trans h
theorem Box.lt {w : World} {g : Nat} {x : V} (h : Box w g x) : g < w.heap.size := (Array.getElem?_eq_some_iff.1 h).1
theorem Look.lt {w : World} {g : Nat} {p b : Int} {bad : Bool} (h : Look w g p b bad) : g < w.heap.size := (Array.getElem?_eq_some_iff.1 h).1
theorem Look.alloc {w : World} {g : Nat} {p b : Int} {bad : Bool} (h : Look w g p b bad) (o : Obj) : Look (w.alloc o) g p b bad := (Below.heap_alloc w o g h.lt).trans h

/-- A cell below B is as it was, while block g alone is written. -/
theorem cell_keep {w w' : World} {B g : Nat} (hg : w.grownBy w' (some g)) (hB : B ≤ g) (hlt : g < w.heap.size) {p : Addr} (hp : p.block < B) : w'.cell? p = w.cell? p :=
  World.cell?_of_block (hg.block p.block (by omega) (fun e => by injection e; omega))

theorem drew_grown (w : World) (row : Option Nat) : w.grownBy { w with drawn := w.drawn + 1 } row := ⟨rfl, rfl, rfl, Nat.le_refl _, fun _ _ _ => rfl⟩
/-- One step of a region whose operations but the last only read. -/
theorem still_at {P : Program} {ops : Array Oper} {w : World} {Q : Act → Prop} {a a' : Act} {o : Oper} {rest : List Oper}
    (h : ∀ K : Act → Prop, K a' → if Region.wanted o (yielded ops a.tmps) then o.still P a w K else K (a.put o.dst undef)) (h2 : wpStill P ops w Q rest a') : wpStill P ops w Q (o :: rest) a :=
  wpStill_step fun K hK => h K (hK _ h2)

attribute [local irreducible] wpStill

/-- What value leaves. -/
def ValuePost (g : Nat) (p b : Int) (bad : Bool) (x : V) (w : World) (e : Ending) (w' : World) : Prop :=
  ∃ p' b' bad', e = .returned (.tuple #[]) ∧ w.grownBy w' (some g) ∧ Look w' g p' b' bad' ∧ (bad' = false → bad = false ∧ p' = p + x.parts ∧ p' ≤ 400 ∧ b' = b + x.bytes ∧ b' ≤ 2000 ∧ x.Good)

theorem partsAll_nonneg : ∀ l : List V, 0 ≤ partsAll l := by
  have hv : ∀ n, ∀ x : V, x.deep ≤ n → 0 ≤ x.parts := by
    intro n
    induction n with
    | zero => intro x hx; cases x; simp [V.deep] at hx
    | succ n ih =>
      intro x hx
      obtain ⟨k, h, t, aL, cL, l, aK, cK, ks, aV, cV, vs⟩ := x
      have hl : ∀ l : List V, deepAll l ≤ n → 0 ≤ partsAll l := by
        intro l
        induction l with
        | nil => intro _; simp [partsAll]
        | cons y r ihr => intro hy; simp only [deepAll] at hy; have h1 := ih y (by omega); have h2 := ihr (by omega); simp only [partsAll]; omega
      simp only [V.deep] at hx
      have h1 := hl l (by omega)
      have h2 := hl vs (by omega)
      simp only [V.parts]; omega
  intro l
  induction l with
  | nil => simp [partsAll]
  | cons y r ih => have := hv _ y (Nat.le_refl _); simp only [partsAll]; omega
theorem sizes_nonneg : ∀ l : List ByteArray, 0 ≤ sizes l
  | [] => by simp [sizes]
  | s :: r => by have := sizes_nonneg r; simp only [sizes]; omega
theorem bytesAll_nonneg : ∀ l : List V, 0 ≤ bytesAll l := by
  have hv : ∀ n, ∀ x : V, x.deep ≤ n → 0 ≤ x.bytes := by
    intro n
    induction n with
    | zero => intro x hx; cases x; simp [V.deep] at hx
    | succ n ih =>
      intro x hx
      obtain ⟨k, h, t, aL, cL, l, aK, cK, ks, aV, cV, vs⟩ := x
      have hl : ∀ l : List V, deepAll l ≤ n → 0 ≤ bytesAll l := by
        intro l
        induction l with
        | nil => intro _; simp [bytesAll]
        | cons y r ihr => intro hy; simp only [deepAll] at hy; have h1 := ih y (by omega); have h2 := ihr (by omega); simp only [bytesAll]; omega
      simp only [V.deep] at hx
      have h1 := hl l (by omega)
      have h2 := hl vs (by omega)
      have h3 := sizes_nonneg ks
      simp only [V.bytes]; omega
  intro l
  induction l with
  | nil => simp [bytesAll]
  | cons y r ih => have := hv _ y (Nat.le_refl _); simp only [bytesAll]; omega
theorem partsAll_snoc : ∀ (l : List V) (x : V), partsAll (l ++ [x]) = partsAll l + x.parts
  | [], x => by simp [partsAll]
  | y :: r, x => by simp only [List.cons_append, partsAll, partsAll_snoc r x]; omega
theorem bytesAll_snoc : ∀ (l : List V) (x : V), bytesAll (l ++ [x]) = bytesAll l + x.bytes
  | [], x => by simp [bytesAll]
  | y :: r, x => by simp only [List.cons_append, bytesAll, bytesAll_snoc r x]; omega
theorem goodAll_snoc : ∀ (l : List V) (x : V), GoodAll l → x.Good → GoodAll (l ++ [x])
  | [], x, _, h => by simp only [List.nil_append, GoodAll]; exact ⟨h, trivial⟩
  | y :: r, x, hl, h => by simp only [List.cons_append, GoodAll] at hl ⊢; exact ⟨hl.1, goodAll_snoc r x hl.2 h⟩
theorem take_snocV {α : Type} (l : List α) (k : Nat) (x : α) (h : l[k]? = some x) : l.take (k + 1) = l.take k ++ [x] := by
  rw [List.take_add_one, h]; rfl

/-- The state in the loop over the list: k values have been looked at. -/
def L1 (w : World) (g : Nat) (l : List V) (P0 B0 : Int) (bad0 : Bool) (k : Nat) (pr br : Int) (badr : Bool) (wr : World) : Prop :=
  w.grownBy wr (some g) ∧ Look wr g pr br badr ∧ (badr = false → bad0 = false ∧ pr = P0 + partsAll (l.take k) ∧ pr ≤ 400 ∧ br = B0 + bytesAll (l.take k) ∧ br ≤ 2000 ∧ GoodAll (l.take k))
def State (bad : Bool) (p b : Int) : Prop := bad = false → 0 ≤ p ∧ p ≤ 400 ∧ 0 ≤ b ∧ b ≤ 2000

theorem L1.start {w wr : World} {g : Nat} {l : List V} {P0 B0 : Int} {bad0 : Bool} (hg : w.grownBy wr (some g)) (hl : Look wr g P0 B0 bad0) (hs : bad0 = false → P0 ≤ 400 ∧ B0 ≤ 2000) : L1 w g l P0 B0 bad0 0 P0 B0 bad0 wr :=
  ⟨hg, hl, fun hb => ⟨hb, by simp [partsAll], (hs hb).1, by simp [bytesAll], (hs hb).2, by simp [GoodAll]⟩⟩
theorem L1.state {w wr : World} {g : Nat} {l : List V} {P0 B0 : Int} {bad0 : Bool} {k : Nat} {pr br : Int} {badr : Bool} (h : L1 w g l P0 B0 bad0 k pr br badr wr) (hs : bad0 = false → 0 ≤ P0 ∧ 0 ≤ B0) : State badr pr br := fun hb => by
  obtain ⟨h0, h1, h2, h3, h4, _⟩ := h.2.2 hb
  have := partsAll_nonneg (l.take k)
  have := bytesAll_nonneg (l.take k)
  have := hs h0
  omega
theorem L1.step {w wr w' : World} {g : Nat} {l : List V} {P0 B0 : Int} {bad0 : Bool} {k : Nat} {pr br pr' br' : Int} {badr badr' : Bool} {x : V} (h : L1 w g l P0 B0 bad0 k pr br badr wr) (hk : l[k]? = some x)
    (hg : wr.grownBy w' (some g)) (hl : Look w' g pr' br' badr') (hb : badr' = false → badr = false ∧ pr' = pr + x.parts ∧ pr' ≤ 400 ∧ br' = br + x.bytes ∧ br' ≤ 2000 ∧ x.Good) : L1 w g l P0 B0 bad0 (k + 1) pr' br' badr' w' := by
  refine ⟨h.1.trans hg, hl, fun hb' => ?_⟩
  obtain ⟨b1, b2, b3, b4, b5, b6⟩ := hb hb'
  obtain ⟨a1, a2, a3, a4, a5, a6⟩ := h.2.2 b1
  rw [take_snocV l k x hk, partsAll_snoc, bytesAll_snoc]
  exact ⟨a1, by omega, b3, by omega, b5, goodAll_snoc _ _ a6 b6⟩

/-- The first k keys are texts that rise. -/
def KeysTo (ks : List ByteArray) (k : Nat) : Prop :=
  (∀ (i : Nat) (s : ByteArray), i < k → ks[i]? = some s → Lib.validD s.data.toList = true) ∧ ∀ (i : Nat) (s s' : ByteArray), i + 1 < k → ks[i]? = some s → ks[i + 1]? = some s' → Op.bytesLess s.toList s'.toList = true
theorem KeysTo.all {ks : List ByteArray} (h : KeysTo ks ks.length) : Keys ks :=
  ⟨fun s hs => by
    obtain ⟨i, hi, he⟩ := List.getElem_of_mem hs
    exact h.1 i s hi (by rw [List.getElem?_eq_getElem hi, he]), fun i s s' h1 h2 => h.2 i s s' (List.getElem?_eq_some_iff.1 h2).1 h1 h2⟩
theorem sizes_snoc : ∀ (l : List ByteArray) (x : ByteArray), sizes (l ++ [x]) = sizes l + x.size
  | [], x => by simp [sizes]
  | y :: r, x => by simp only [List.cons_append, sizes, sizes_snoc r x]; omega

/-- The state in the loop over the keys: k pairs have been looked at. -/
def L2 (w : World) (g : Nat) (ks : List ByteArray) (vs : List V) (P0 B0 : Int) (bad0 : Bool) (k : Nat) (pr br : Int) (badr : Bool) (wr : World) : Prop :=
  w.grownBy wr (some g) ∧ Look wr g pr br badr ∧ (badr = false → bad0 = false ∧ pr = P0 + partsAll (vs.take k) ∧ pr ≤ 400 ∧ br = B0 + sizes (ks.take k) + bytesAll (vs.take k) ∧ br ≤ 2000 ∧ KeysTo ks k ∧ GoodAll (vs.take k))
theorem L2.start {w wr : World} {g : Nat} {ks : List ByteArray} {vs : List V} {P0 B0 : Int} {bad0 : Bool} (hg : w.grownBy wr (some g)) (hl : Look wr g P0 B0 bad0) (hs : bad0 = false → P0 ≤ 400 ∧ B0 ≤ 2000) : L2 w g ks vs P0 B0 bad0 0 P0 B0 bad0 wr :=
  ⟨hg, hl, fun hb => ⟨hb, by simp [partsAll], (hs hb).1, by simp [bytesAll, sizes], (hs hb).2, ⟨fun _ _ h => by omega, fun _ _ _ h => by omega⟩, by simp [GoodAll]⟩⟩
theorem L2.state {w wr : World} {g : Nat} {ks : List ByteArray} {vs : List V} {P0 B0 : Int} {bad0 : Bool} {k : Nat} {pr br : Int} {badr : Bool} (h : L2 w g ks vs P0 B0 bad0 k pr br badr wr) (hs : bad0 = false → 0 ≤ P0 ∧ 0 ≤ B0) : State badr pr br := fun hb => by
  obtain ⟨h0, h1, h2, h3, h4, _⟩ := h.2.2 hb
  have := partsAll_nonneg (vs.take k)
  have := bytesAll_nonneg (vs.take k)
  have := sizes_nonneg (ks.take k)
  have := hs h0
  omega
/-- One round: the key's text, that it rises, the value. -/
theorem L2.step {w wr wa wb w' : World} {g : Nat} {ks : List ByteArray} {vs : List V} {P0 B0 : Int} {bad0 : Bool} {k : Nat} {pr br pr' br' : Int} {badr bada badb bad' : Bool} {s : ByteArray} {x : V} (h : L2 w g ks vs P0 B0 bad0 k pr br badr wr)
    (hks : ks[k]? = some s) (hvs : vs[k]? = some x) (h0 : bad0 = false → 0 ≤ P0 ∧ 0 ≤ B0) (hsz : s.size ≤ 140737488351232)
    (hga : wr.grownBy wa (some g)) (ha : bada = false → badr = false ∧ wrap64 (br + s.size) ≤ 2000 ∧ Lib.validD s.data.toList = true)
    (hgb : wa.grownBy wb (some g)) (hb : badb = false → bada = false ∧ (∀ i s0, k = i + 1 → ks[i]? = some s0 → Op.bytesLess s0.toList s.toList = true))
    (hg : wb.grownBy w' (some g)) (hl : Look w' g pr' br' bad') (hv : bad' = false → badb = false ∧ pr' = pr + x.parts ∧ pr' ≤ 400 ∧ br' = wrap64 (br + s.size) + x.bytes ∧ br' ≤ 2000 ∧ x.Good) : L2 w g ks vs P0 B0 bad0 (k + 1) pr' br' bad' w' := by
  refine ⟨((h.1.trans hga).trans hgb).trans hg, hl, fun hx => ?_⟩
  obtain ⟨b1, b2, b3, b4, b5, b6⟩ := hv hx
  obtain ⟨c1, c2⟩ := hb b1
  obtain ⟨d1, d2, d3⟩ := ha c1
  obtain ⟨a1, a2, a3, a4, a5, a6, a7⟩ := h.2.2 d1
  have hst := h.state h0 d1
  have hw : wrap64 (br + s.size) = br + s.size := by unfold wrap64; omega
  rw [hw] at b4 d2
  rw [take_snocV vs k x hvs, take_snocV ks k s hks, partsAll_snoc, bytesAll_snoc, sizes_snoc]
  refine ⟨a1, by omega, b3, by omega, b5, ⟨fun i s' hi hs' => ?_, fun i s1 s2 hi h1 h2 => ?_⟩, goodAll_snoc _ _ a7 b6⟩
  · by_cases hik : i = k
    · subst hik; rw [hks] at hs'; cases hs'; exact d3
    · exact a6.1 i s' (by omega) hs'
  · by_cases hik : i + 1 = k
    · rw [hik, hks] at h2; cases h2; exact c2 i s1 hik.symm h1
    · exact a6.2 i s1 s2 (by omega) h1 h2

/-- The last step: what the loops have summed up is what the tree has. -/
theorem value_end {w5 wr w8 wq : World} {g : Nat} {p b p1 b5 k h : Int} {bad bad5 badr bad2 : Bool} {t : ByteArray} {aL : Option Addr} {cL : Nat} {l : List V} {aK : Option Addr} {cK : Nat} {ks : List ByteArray} {aV : Option Addr} {cV : Nat} {vs : List V} {nl nk nv j q : Nat} {pr br p2 b2 : Int}
    (hnl : nl = l.length) (hnk : nk = ks.length) (hnv : nv = vs.length) (hp : p1 = wrap64 (p + 1) ∧ p1 = p + 1) (hbad : bad = false) (hs : 0 ≤ p ∧ p ≤ 400 ∧ 0 ≤ b ∧ b ≤ 2000) (hb5 : b5 = wrap64 (b + t.size)) (ht : t.size ≤ 140737488351232)
    (hL : L1 w5 g l p1 b5 bad5 j pr br badr wr) (hJ : badr = false → j = nl) (hM : L2 w8 g ks vs pr br badr q p2 b2 bad2 wq) (hq : q = nk)
    (hC : badr = false → C1 k h t nl nk nv ∧ C2 h ∧ Lib.validD t.data.toList = true) (hf : bad2 = false) :
    bad = false ∧ p2 = p + (V.mk k h t aL cL l aK cK ks aV cV vs).parts ∧ p2 ≤ 400 ∧ b2 = b + (V.mk k h t aL cL l aK cK ks aV cV vs).bytes ∧ b2 ≤ 2000 ∧ (V.mk k h t aL cL l aK cK ks aV cV vs).Good := by
  obtain ⟨m1, m2, m3, m4, m5, m6, m7⟩ := hM.2.2 hf
  obtain ⟨l1, l2, l3, l4, l5, l6⟩ := hL.2.2 m1
  obtain ⟨c1, c2, c3⟩ := hC m1
  have hkv : nk = nv := c1.2.2.2.2.2.2
  have hj := hJ m1
  have e1 : l.take j = l := List.take_of_length_le (by omega)
  have e2 : vs.take q = vs := List.take_of_length_le (by omega)
  have e3 : ks.take q = ks := List.take_of_length_le (by omega)
  rw [e1] at l2 l4 l6
  rw [e2] at m2 m4 m7
  rw [e3] at m4
  have e5 : b5 = b + t.size := by rw [hb5]; unfold wrap64; omega
  rw [hq, hnk] at m6
  rw [hnl, hnk, hnv] at c1
  have hp2 := hp.2
  refine ⟨hbad, ?_, m3, ?_, m5, ?_⟩
  · simp only [V.parts]; omega
  · simp only [V.bytes]; omega
  · unfold V.Good
    exact ⟨c1, c2, c3, m6.all, l6, m7⟩

set_option maxRecDepth 100000 in
set_option maxHeartbeats 4000000 in
theorem value_any {Tabs : World → Prop} (hV : ValidSaid Tabs) {N : Nat} (hTk : ∀ w w' : World, ∀ g, N ≤ g → Tabs w → w.grownBy w' (some g) → Tabs w') (n : Nat) :
    ∀ (x : V) (w : World) (B g : Nat) (p b deep : Int) (bad : Bool), x.deep ≤ n → x.In w B → B ≤ g → N ≤ g → Tabs w → Look w g p b bad → State bad p b →
    Calls Tryz.prog 18 #[.pointer (some ⟨g, 0, none⟩), x.val, .int .i64 deep] w (ValuePost g p b bad x w) := by
  induction n with
  | zero =>
    intro x
    intro _ _ _ _ _ _ _ hd
    cases x; simp [V.deep] at hd
  | succ n ih =>
    intro x w B g p b deep bad hd hin hB hNg hT hl hst
    obtain ⟨k, h, t, aL, cL, l, aK, cK, ks, aV, cV, vs⟩ := x
    have hgw := hl.lt
    rw [V.val_mk]
    obtain ⟨nl, hnl⟩ : ∃ nl, nl = l.length := ⟨_, rfl⟩
    obtain ⟨nk, hnk⟩ : ∃ nk, nk = ks.length := ⟨_, rfl⟩
    obtain ⟨nv, hnv⟩ : ∃ nv, nv = vs.length := ⟨_, rfl⟩
    have hl1 := hl.alloc (.cells #[.int .i64 k, .int .i64 h, .string t, .slice aL nl cL, .slice aK nk cK, .slice aV nv cV] 26)
    have hb1 : Box (w.alloc (.cells #[.int .i64 k, .int .i64 h, .string t, .slice aL nl cL, .slice aK nk cK, .slice aV nv cV] 26)) w.heap.size (V.mk k h t aL cL l aK cK ks aV cV vs) := by
      rw [hnl, hnk, hnv]; exact Box.new w (V.mk k h t aL cL l aK cK ks aV cV vs)
    have hg1 := World.grownBy_alloc w (.cells #[.int .i64 k, .int .i64 h, .string t, .slice aL nl cL, .slice aK nk cK, .slice aV nv cV] 26) (some g)
    rw [← hnl, ← hnk, ← hnv]
    have H1 := Lib.hid hg1
    have HI := Lib.hid ih
    have HIN := Lib.hid hin
    have HT := Lib.hid hT
    have HV := Lib.hid hV
    have HTk := Lib.hid hTk
    have HS := Lib.hid hst
    have HD := Lib.hid hd
    have HN := Lib.hid (And.intro hnl (And.intro hnk hnv))
    clear ih hin hT hV hTk hst hd hg1 hl hnl hnk hnv
    go_enter Tryz.func18, Tryz.ntmps18
    go_upto_region 2 with (go_at_call 29; refine (part_any _ g _ _ _ _ hl1).mono ?_; rintro e w2 ⟨bad2, rfl, hg2, hl2, hx2⟩)
    · refine bodyPost_ret (results_none rfl _ _ _) rfl ?_
      exact ⟨_, _, _, rfl, H1.out.trans hg2, hl2, fun hb => by simp_all⟩
    · have hb2 : bad2 = false := by assumption
      subst hb2
      obtain ⟨hbad, hp1, hb0⟩ := hx2 rfl
      have hs := HS.out hbad
      have hp1' : wrap64 (p + 1) = p + 1 := by unfold wrap64; omega
      obtain ⟨p1, hpe⟩ : ∃ p1, p1 = wrap64 (p + 1) := ⟨_, rfl⟩
      rw [← hpe] at hl2 hp1 hp1'
      have HP := Lib.hid (And.intro hpe hp1')
      have HBAD := Lib.hid hbad
      have G2 := Lib.hid (H1.out.trans hg2)
      have hx := hb1.grown hg2 (by simp; omega)
      clear hx2 hpe hp1' hbad hs hg2 hb1 hl1 H1
      have c0 := hx.cell 0
      have c1 := hx.cell 1
      have c2 := hx.cell 2
      have c3 := hx.cell 3
      have c4 := hx.cell 4
      have c5 := hx.cell 5
      simp only [V.cells, List.getElem?_cons_zero, List.getElem?_cons_succ, ← HN.out.1, ← HN.out.2.1, ← HN.out.2.2] at c0 c1 c2 c3 c4 c5
      have HX := Lib.hid hx
      clear hx
      go_cut [] (fun wx => ∃ bad', w2.grownBy wx (some g) ∧ Look wx g p1 b bad' ∧ (bad' = false → C1 k h t nl nk nv))
      case first =>
        obtain ⟨a1, e1⟩ : ∃ a, decide (0 ≤ k) = a := ⟨_, rfl⟩
        obtain ⟨a2, e2⟩ : ∃ a, decide (k ≤ 6) = a := ⟨_, rfl⟩
        obtain ⟨a3, e3⟩ : ∃ a, (k == 3) = a := ⟨_, rfl⟩
        obtain ⟨a4, e4⟩ : ∃ a, (h == 0) = a := ⟨_, rfl⟩
        obtain ⟨a5, e5⟩ : ∃ a, (k == 4) = a := ⟨_, rfl⟩
        obtain ⟨a6, e6⟩ : ∃ a, t.toList.isEmpty = a := ⟨_, rfl⟩
        obtain ⟨a7, e7⟩ : ∃ a, (k == 5) = a := ⟨_, rfl⟩
        obtain ⟨a8, e8⟩ : ∃ a, ((nl : Int) == 0) = a := ⟨_, rfl⟩
        obtain ⟨a9, e9⟩ : ∃ a, (k == 6) = a := ⟨_, rfl⟩
        obtain ⟨a10, e10⟩ : ∃ a, ((nk : Int) == 0) = a := ⟨_, rfl⟩
        obtain ⟨a11, e11⟩ : ∃ a, ((nk : Int) == (nv : Int)) = a := ⟨_, rfl⟩
        have E : Hid (C1 k h t nl nk nv ↔ (a1 && a2 && (a3 || a4) && (a5 || a6) && (a7 || a8) && (a9 || a10) && a11) = true) := by
          subst e1 e2 e3 e4 e5 e6 e7 e8 e9 e10 e11
          exact c1_iff k h t nl nk nv
        have X : (a3 = true ∧ a5 = false ∧ a7 = false ∧ a9 = false) ∨ (a3 = false ∧ a5 = true ∧ a7 = false ∧ a9 = false) ∨ (a3 = false ∧ a5 = false ∧ a7 = true ∧ a9 = false) ∨ (a3 = false ∧ a5 = false ∧ a7 = false ∧ a9 = true) ∨ (a3 = false ∧ a5 = false ∧ a7 = false ∧ a9 = false) := by
          subst e3 e5 e7 e9
          exact kind_one k
        -- [[
        rcases X with ⟨rfl, rfl, rfl, rfl⟩ | ⟨rfl, rfl, rfl, rfl⟩ | ⟨rfl, rfl, rfl, rfl⟩ | ⟨rfl, rfl, rfl, rfl⟩ | ⟨rfl, rfl, rfl, rfl⟩
        all_goals
          as_aux_lemma =>
            go_wp2_with (go_at_call 30; refine (want_any _ g _ _ _ _ hl2).mono ?_; rintro e w3 ⟨rfl, hg3, hl3⟩)
            all_goals
              go_meet
              refine ⟨_, hg3, hl3, fun hb => E.mpr ?_⟩
              clear hg3 hl3 e1 e2 e3 e4 e5 e6 e7 e8 e9 e10 e11
              go_light
              simp_all
        -- ]]
      case rest =>
        obtain ⟨bad3, hg3, hl3, hC1⟩ := hcut
        have hx := HX.out.grown hg3 (by simp; omega)
        clear c0 c1 c2 c3 c4 c5 hl2
        have G3 := Lib.hid (G2.out.trans hg3)
        have HC1 := Lib.hid hC1
        clear hg3 hC1
        have c0 := hx.cell 0
        have c1 := hx.cell 1
        have c2 := hx.cell 2
        have c3 := hx.cell 3
        have c4 := hx.cell 4
        have c5 := hx.cell 5
        simp only [V.cells, List.getElem?_cons_zero, List.getElem?_cons_succ, ← HN.out.1, ← HN.out.2.1, ← HN.out.2.2] at c0 c1 c2 c3 c4 c5
        have HX3 := Lib.hid hx
        clear hx
        go_upto_region 3 with fail
        go_cut [] (fun wy => ∃ bad', wc.grownBy wy (some g) ∧ Look wy g p1 b bad' ∧ (bad' = false → bad3 = false ∧ C2 h))
        case first =>
          as_aux_lemma =>
            -- [[
            go_wp2_with (go_at_call 30; refine (want_any _ g _ _ _ _ hl3).mono ?_; rintro e w4 ⟨rfl, hg4, hl4⟩)
            all_goals
              go_meet
              refine ⟨_, hg4, hl4, fun hb => ?_⟩
              clear hg4 hl4
              go_light
              first | (simp at hb; done) | (simp at hb; refine ⟨by first | exact hb.1 | exact hb, ?_⟩; unfold C2; omega)
            -- ]]
        case rest =>
          obtain ⟨bad4, hg4, hl4, hC2⟩ := hcut
          rename_i wd
          have hx := HX3.out.grown hg4 (by simp; omega)
          clear c0 c1 c2 c3 c4 c5 hl3
          have G4 := Lib.hid (G3.out.trans hg4)
          have HC2 := Lib.hid hC2
          clear hg4 hC2
          have c0 := hx.cell 0
          have c1 := hx.cell 1
          have c2 := hx.cell 2
          have c3 := hx.cell 3
          have c4 := hx.cell 4
          have c5 := hx.cell 5
          simp only [V.cells, List.getElem?_cons_zero, List.getElem?_cons_succ, ← HN.out.1, ← HN.out.2.1, ← HN.out.2.2] at c0 c1 c2 c3 c4 c5
          have HX4 := Lib.hid hx
          clear hx
          have HT4 := Lib.hid (HTk.out _ _ _ hNg HT.out G4.out)
          have ht : t.size ≤ 140737488351232 := by
            have h0 := HIN.out
            unfold V.In V.Own at h0
            omega
          go_upto_block 0 with (go_at_call 31; refine (str_any HV.out HTk.out _ g hNg _ _ _ _ HT4.out (by omega) hl4).mono ?_; rintro e w5 ⟨bad5, rfl, hg5, hl5, hx5⟩; have HX5 := Lib.hid (HX4.out.grown hg5 (by simp; omega)); have G5 := Lib.hid (G4.out.trans hg5); have HS5 := Lib.hid hx5; clear hg5 hx5)
          have hE : bad5 = false → p1 ≤ 400 ∧ wrap64 (b + t.size) ≤ 2000 := fun hb => ⟨hp1, (HS5.out hb).2.1⟩
          obtain ⟨b5, hb5⟩ : ∃ b5, b5 = wrap64 (b + t.size) := ⟨_, rfl⟩
          rw [← hb5] at hl5 hE
          have L := L1.start (l := l) (World.grownBy.refl w5 (some g)) hl5 hE
          have HB5 := Lib.hid hb5
          have HE := Lib.hid hE
          clear hb5 hE hl5 c0 c1 c2 c3 c4 c5 hl4
          have hnl : nl ≤ 140737488351232 := by
            have h0 := HIN.out
            unfold V.In V.Own at h0
            have := HN.out.1
            omega
          have hP0 : bad5 = false → 0 ≤ p1 ∧ 0 ≤ b5 := by
            intro _
            have h1 := HP.out
            have h2 := HS.out HBAD.out
            have h3 := HB5.out
            clear L
            unfold wrap64 at h3
            omega
          have HP0 := Lib.hid hP0
          clear hP0
          go_cut [] (fun wx => ∃ (j : Nat) (pr br : Int) (badr : Bool), (badr = false → j = nl) ∧ L1 w5 g l p1 b5 bad5 j pr br badr wx)
          case first =>
            as_aux_lemma =>
              go_wp2_with fail
              go_loopw [6] (fun i wr => ∃ (k : Nat) (pr br : Int) (badr : Bool), k ≤ nl ∧ i = .int .i64 k ∧ L1 w5 g l p1 b5 bad5 k pr br badr wr) (fun i _ => nl - (intOf i).toNat)
              case atStart => exact ⟨0, _, _, _, Nat.zero_le _, rfl, L⟩
              case round =>
                obtain ⟨j, pr, br, badr, hj, rfl, hL⟩ := hrel
                have hx := HX5.out.grown hL.1 (by simp; omega)
                have c3 := hx.cell 3
                simp only [V.cells, List.getElem?_cons_zero, List.getElem?_cons_succ, ← HN.out.1] at c3
                have l2 := hL.2.1.cell2
                have hI := HIN.out.grown (G5.out.trans hL.1) (by omega) (fun _ e => by cases e; exact hB)
                have HXR := Lib.hid hx
                have HLR := Lib.hid hL
                have HIR := Lib.hid hI
                clear hL hI hx L
                by_cases hlt : j < nl
                · cases badr
                  · obtain ⟨y, hy⟩ : ∃ y, l[j]? = some y := ⟨_, List.getElem?_eq_getElem (by rw [← HN.out.1]; exact hlt)⟩
                    have h0 := HIR.out
                    unfold V.In at h0
                    obtain ⟨_, hrows, _, _, hall, _⟩ := h0
                    obtain ⟨ad, rfl, _, hrow⟩ := hrows (by rintro rfl; simp at hy)
                    have hc := hrow j y hy
                    have hyIn := hall.mem y (List.mem_of_getElem? hy)
                    have hyd : y.deep ≤ n := by have := deep_list (k := k) (h := h) (t := t) (aL := some ad) (cL := cL) (aK := aK) (cK := cK) (ks := ks) (aV := aV) (cV := cV) (vs := vs) (List.mem_of_getElem? hy); have := HD.out; omega
                    have hyT := HTk.out _ _ _ hNg HT.out (G5.out.trans HLR.out.1)
                    have hst := HLR.out.state HP0.out
                    have hC := HI.out y wr B g pr br (wrap64 (deep + 1)) false hyd hyIn hB hNg hyT HLR.out.2.1 hst
                    obtain ⟨yk, yh, yt, yaL, ycL, yl, yaK, ycK, yks, yaV, ycV, yvs⟩ := y
                    obtain ⟨d0, d1, d2, d3, d4, d5⟩ := six hc
                    rw [V.val_mk] at hC
                    have HC := Lib.hid hC
                    have HY := Lib.hid hy
                    clear hrows hall hrow hc hyIn hyd hyT hst hy hC
                    -- [[
                    go_wp2_with (go_at_call 18; refine HC.out.mono ?_; rintro e w7 ⟨pr', br', bad', rfl, hg7, hl7, hx7⟩; have HC7 := Lib.hid (HLR.out.step HY.out hg7 hl7 hx7); clear hg7 hl7 hx7)
                    go_roundw
                    case rel => exact ⟨j + 1, _, _, _, by omega, by go_num, HC7.out⟩
                    case measure => simp [intOf]; omega
                    -- ]]
                  · go_wp2_with fail
                    go_meet
                    exact ⟨j, _, _, true, ⟨(fun hf => by simp at hf), HLR.out⟩⟩
                · go_wp2_with fail
                  go_meet
                  exact ⟨j, _, _, _, fun _ => by omega, HLR.out⟩
          case rest =>
            obtain ⟨j, pr, br, badr, hj, hL⟩ := hcut
            go_upto_block 2 with fail
            obtain ⟨w8, rfl⟩ : ∃ w8 : World, w8 = wc := ⟨_, rfl⟩
            have hst8 := hL.state HP0.out
            have M := L2.start (ks := ks) (vs := vs) (World.grownBy.refl w8 (some g)) hL.2.1 (fun hb => ⟨(hst8 hb).2.1, (hst8 hb).2.2.2⟩)
            have HM0 := Lib.hid (fun hb => ⟨(hst8 hb).1, (hst8 hb).2.2.1⟩ : badr = false → 0 ≤ pr ∧ 0 ≤ br)
            have HL := Lib.hid hL
            have HJ := Lib.hid hj
            have G8 := Lib.hid (G5.out.trans hL.1)
            have HX8 := Lib.hid (HX5.out.grown hL.1 (by simp; omega))
            clear hst8 hL hj L
            have hCC : badr = false → C1 k h t nl nk nv ∧ C2 h ∧ Lib.validD t.data.toList = true := fun hb =>
              have h5 := (HL.out.2.2 hb).1
              have h4 := (HS5.out h5)
              have h3 := HC2.out h4.1
              ⟨HC1.out h3.1, h3.2, h4.2.2⟩
            have HCC := Lib.hid hCC
            clear hCC
            go_wp2_with fail
            go_loopw [7] (fun i wr => ∃ (k : Nat) (p2 b2 : Int) (bad2 : Bool), k ≤ nk ∧ i = .int .i64 k ∧ L2 w8 g ks vs pr br badr k p2 b2 bad2 wr) (fun i _ => nk - (intOf i).toNat)
            case atStart => exact ⟨0, _, _, _, Nat.zero_le _, rfl, M⟩
            case round =>
              as_aux_lemma =>
                obtain ⟨q, p2, b2, bad2, hq, rfl, hM⟩ := hrel
                have hx := HX8.out.grown hM.1 (by simp; omega)
                have c4 := hx.cell 4
                have c5 := hx.cell 5
                simp only [V.cells, List.getElem?_cons_zero, List.getElem?_cons_succ, ← HN.out.2.1, ← HN.out.2.2] at c4 c5
                have l2 := hM.2.1.cell2
                have hI := HIN.out.grown (G8.out.trans hM.1) (by omega) (fun _ e => by cases e; exact hB)
                have HXR := Lib.hid hx
                have HMR := Lib.hid hM
                have HIR := Lib.hid hI
                clear hM hI hx M
                have hnk : nk ≤ 140737488351232 := by
                  have h0 := HIN.out
                  unfold V.In V.Own at h0
                  have := HN.out.2.1
                  omega
                by_cases hlt : q < nk
                · cases bad2
                  · obtain ⟨s, hs⟩ : ∃ s, ks[q]? = some s := ⟨_, List.getElem?_eq_getElem (by rw [← HN.out.2.1]; exact hlt)⟩
                    have hb0 := (HMR.out.2.2 rfl).1
                    have hkv : nk = nv := (HCC.out hb0).1.2.2.2.2.2.2
                    obtain ⟨y, hy⟩ : ∃ y, vs[q]? = some y := ⟨_, List.getElem?_eq_getElem (by rw [← HN.out.2.2]; omega)⟩
                    have h0 := HIR.out
                    unfold V.In V.Own at h0
                    obtain ⟨hown, _, hkeys, hrows, _, hall⟩ := h0
                    have hssz := hown.2.2.2.2.2.2.2.2.2 s (List.mem_of_getElem? hs)
                    obtain ⟨adk, rfl, hadkb, hrowk⟩ := hkeys (by rintro e; have := congrArg List.length e; simp [← HN.out.2.1] at this; omega)
                    have hck := hrowk q (.string s) (by simp [hs])
                    obtain ⟨adv, rfl, hadvb, hrowv⟩ := hrows (by rintro rfl; simp at hy)
                    have HRV := Lib.hid (hrowv q y hy)
                    have HRK := Lib.hid hrowk
                    have HYI := Lib.hid (hall.mem y (List.mem_of_getElem? hy))
                    have HSS := Lib.hid hs
                    have HYY := Lib.hid hy
                    have HKV := Lib.hid hkv
                    have hT9 := Lib.hid (HTk.out _ _ _ hNg HT.out (G8.out.trans HMR.out.1))
                    clear hb0 hkv hkeys hrows hall hrowk hrowv hs hy
                    go_upto_region 13 with (go_at_call 31; refine (str_any HV.out HTk.out _ g hNg _ _ _ _ hT9.out (by omega) HMR.out.2.1).mono ?_; rintro e wa ⟨bada, rfl, hga, hla, hxa⟩)
                    have hgr := HMR.out.2.1.lt
                    have hxa9 := HXR.out.grown hga (by simp; omega)
                    have k4 := hxa9.cell 4
                    simp only [V.cells, List.getElem?_cons_zero, List.getElem?_cons_succ, ← HN.out.2.1] at k4
                    have hgA := hla.lt
                    have m0 : wa.cell? (adk.add q) = some (.string s) := (cell_keep hga hB hgr (by rw [block_of_add]; exact hadkb)).trans hck
                    have hm1 : ∀ i s0, q = i + 1 → ks[i]? = some s0 → wa.cell? (adk.add i) = some (.string s0) := fun i s0 _ hs0 =>
                      (cell_keep hga hB hgr (by rw [block_of_add]; exact hadkb)).trans (HRK.out i (.string s0) (by simp [hs0]))
                    have HM1 := Lib.hid hm1
                    have HGA := Lib.hid hga
                    have HXA := Lib.hid hxa
                    have HXA9 := Lib.hid hxa9
                    clear hm1 hga hxa hxa9 c4 c5 l2 hck
                    go_cut [] (fun wx => ∃ badb, wa.grownBy wx (some g) ∧ Look wx g p2 (wrap64 (b2 + s.size)) badb ∧ (badb = false → bada = false ∧ ∀ i s0, q = i + 1 → ks[i]? = some s0 → Op.bytesLess s0.toList s.toList = true))
                    case first =>
                      by_cases hq0 : q = 0
                      · as_aux_lemma =>
                          have hd : ((q : Int) == 0) = true := by simp [hq0]
                          have HQ0 := Lib.hid hq0
                          clear hq0
                          refine wp_region_still_tail 17 (by kernel_rfl) (by kernel_rfl) ?_
                          simp only [List.take_succ_cons, List.take_zero, List.drop_succ_cons, List.drop_zero]
                          -- [[
                          iterate 17 (refine still_at (a' := ?_) ?_ ?_; rotate_left; (intro K hK; have HK := Lib.hid hK; clear hK; go_simp; exact HK.out))
                          refine wpStill_nil ?_
                          go_wp2_with (go_at_call 30; refine (want_any _ g p2 (wrap64 (b2 + s.size)) bada _ ?_).mono ?_; exact hla; rintro e wb ⟨rfl, hgb, hlb⟩)
                          go_meet
                          exact ⟨_, (drew_grown wa _).trans hgb, hlb, fun hb => ⟨by simpa using hb, fun i _ hi _ => by have := HQ0.out; omega⟩⟩
                          -- ]]
                      · as_aux_lemma =>
                          obtain ⟨i, hi⟩ : ∃ i, q = i + 1 := ⟨q - 1, by omega⟩
                          obtain ⟨s0, hs0⟩ : ∃ s0, ks[i]? = some s0 := ⟨_, List.getElem?_eq_getElem (by rw [← HN.out.2.1]; omega)⟩
                          have m1 := HM1.out i s0 hi hs0
                          have e1 : ((q : Int) - 1).toNat = i := by omega
                          have m2 : wa.cell? (adk.add ((q : Int) - 1).toNat) = some (.string s0) := by rw [e1]; exact m1
                          have m3 : wa.cell? (adk.add (q - 1)) = some (.string s0) := by rw [show q - 1 = i by omega]; exact m1
                          have hd : ((q : Int) == 0) = false := by simp [hq0]
                          have hq1 : 1 ≤ (q : Int) := by omega
                          have hq2 : (q : Int) - 1 < (nk : Int) := by omega
                          have hqw : IntKind.i64.wrap ((q : Int) - 1) = (q : Int) - 1 := IntWalk.i64_in _ (by omega)
                          have HI1 := Lib.hid hi
                          have HS0 := Lib.hid hs0
                          clear hi hs0 e1 m1 hq0
                          refine wp_region_still_tail 17 (by kernel_rfl) (by kernel_rfl) ?_
                          simp only [List.take_succ_cons, List.take_zero, List.drop_succ_cons, List.drop_zero]
                          iterate 17 (refine still_at (a' := ?_) ?_ ?_; rotate_left; (intro K hK; have HK := Lib.hid hK; clear hK; go_simp; exact HK.out))
                          refine wpStill_nil ?_
                          go_wp2_with (go_at_call 30; refine (want_any _ g p2 (wrap64 (b2 + s.size)) bada _ ?_).mono ?_; exact hla; rintro e wb ⟨rfl, hgb, hlb⟩)
                          go_meet
                          refine ⟨_, (drew_grown wa _).trans hgb, hlb, fun hb => ?_⟩
                          simp only [Bool.or_eq_false_iff, Bool.not_eq_false'] at hb
                          exact ⟨hb.1, fun j s1 hj h1 => by have hji : j = i := by { have := HI1.out; omega }
                                                            subst hji; have h2 := HS0.out; rw [h1] at h2; cases h2; exact hb.2⟩
                    case rest =>
                      obtain ⟨badb, hgb, hlb, hxb⟩ := hcut
                      obtain ⟨wb, rfl⟩ : ∃ wb : World, wb = wc := ⟨_, rfl⟩
                      have hx := HXA9.out.grown hgb (by simp; omega)
                      have c5 := hx.cell 5
                      simp only [V.cells, List.getElem?_cons_zero, List.getElem?_cons_succ, ← HN.out.2.2] at c5
                      have hgwb := (HGA.out.trans hgb)
                      have HRW : ∀ (j : Nat) (u : Value), y.cells[j]? = some u → wb.cell? (adv.add (q * 6 + j)) = some u := fun j u hu =>
                        (cell_keep hgwb hB hgr (by rw [block_of_add]; exact hadvb)).trans (HRV.out j u hu)
                      have hyb := HYI.out.grown hgwb (by omega) (fun _ e => by cases e; exact hB)
                      have hyd : y.deep ≤ n := by have := deep_vals (k := k) (h := h) (t := t) (aL := aL) (cL := cL) (l := l) (aK := some adk) (cK := cK) (ks := ks) (aV := some adv) (cV := cV) (List.mem_of_getElem? HYY.out); have := HD.out; omega
                      have hyT := HTk.out _ _ _ hNg hT9.out hgwb
                      have hst : State badb p2 (wrap64 (b2 + s.size)) := fun hb => by
                        obtain ⟨b1, _⟩ := hxb hb
                        obtain ⟨_, d2, d3⟩ := HXA.out b1
                        have h1 := HMR.out.state HM0.out rfl
                        have h3 : wrap64 (b2 + s.size) = b2 + s.size := by unfold wrap64; omega
                        omega
                      have hC := HI.out y wb B g p2 (wrap64 (b2 + s.size)) (wrap64 (deep + 1)) badb hyd hyb hB hNg hyT hlb hst
                      obtain ⟨yk, yh, yt, yaL, ycL, yl, yaK, ycK, yks, yaV, ycV, yvs⟩ := y
                      obtain ⟨d0, d1, d2, d3, d4, d5⟩ := six HRW
                      rw [V.val_mk] at hC
                      have HC := Lib.hid hC
                      have HGB := Lib.hid hgb
                      have HXB := Lib.hid hxb
                      have hqv : q < nv := by have := HKV.out; omega
                      clear HRW hyb hyd hyT hst hC hgb hxb hx hgwb k4 m0 hla
                      go_wp2_with (go_at_call 18; refine HC.out.mono ?_; rintro e w7 ⟨pr', br', bad', rfl, hg7, hl7, hx7⟩; have HC7 := Lib.hid (HMR.out.step HSS.out HYY.out HM0.out hssz HGA.out (fun hb => ⟨rfl, (HXA.out hb).2⟩) HGB.out HXB.out hg7 hl7 hx7); clear hg7 hl7 hx7)
                      go_roundw
                      case rel => exact ⟨q + 1, _, _, _, by omega, by go_num, HC7.out⟩
                      case measure => simp [intOf]; omega
                  · go_wp2_with fail
                    go_end0
                    exact ⟨_, _, true, rfl, G8.out.trans HMR.out.1, HMR.out.2.1, fun hf => by simp at hf⟩
                · go_wp2_with fail
                  go_end0
                  refine ⟨_, _, bad2, rfl, G8.out.trans HMR.out.1, HMR.out.2.1, fun hf => ?_⟩
                  exact value_end HN.out.1 HN.out.2.1 HN.out.2.2 HP.out HBAD.out (HS.out HBAD.out) HB5.out ht HL.out HJ.out HMR.out (by omega) HCC.out hf
end Go.Proofs.YtpigccnlembfdaaGreatDoor
