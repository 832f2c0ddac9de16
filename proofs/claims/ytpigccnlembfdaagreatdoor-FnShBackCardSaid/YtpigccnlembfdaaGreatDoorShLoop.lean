/- What the first loop of FnShBack has made so far, and its step; trees of strings. Conditions: as each theorem states. -/
import Derived.Test.YtpigccnlembfdaaGreatDoorNul
namespace Go.Proofs.YtpigccnlembfdaaGreatDoor
open Go.RowKit

/-- A block of cells of a variable of the type impl.Value. -/
def BoxAt (w : World) (g : Nat) (cs : Array Value) : Prop := w.heap[g]? = some (.cells cs 26 (0, 0))
theorem BoxAt.new (w : World) (cs : Array Value) : BoxAt (w.alloc (.cells cs 26)) w.heap.size cs := heap_alloc_new w _
theorem BoxAt.lt {w : World} {g : Nat} {cs : Array Value} (h : BoxAt w g cs) : g < w.heap.size := (Array.getElem?_eq_some_iff.1 h).1
theorem BoxAt.below {w w1 : World} {g : Nat} {cs : Array Value} (h : BoxAt w g cs) (hb : Below w.heap.size w w1) : BoxAt w1 g cs := (hb.block g h.lt).trans h
theorem BoxAt.keep {w w1 : World} {g : Nat} {cs : Array Value} (h : BoxAt w g cs) {row : Option Nat} (hb : w.grownBy w1 row) (hr : some g ≠ row) : BoxAt w1 g cs := (hb.block g h.lt hr).trans h
theorem BoxAt.cell {w : World} {g : Nat} {cs : Array Value} (h : BoxAt w g cs) (i : Nat) : w.cell? ⟨g, i, none⟩ = cs[i]? := cell_of_row w g i _ _ _ h
theorem BoxAt.frozen {w : World} {g : Nat} {cs : Array Value} (h : BoxAt w g cs) (i : Nat) : w.frozen? ⟨g, i, none⟩ = false := by
  unfold BoxAt at h; simp [World.frozen?, h]
theorem BoxAt.set {w : World} {g : Nat} {cs : Array Value} (h : BoxAt w g cs) (i : Nat) (v : Value) : BoxAt (w.setCell ⟨g, i, none⟩ v) g (cs.setIfInBounds i v) := by
  unfold BoxAt at h ⊢
  simp [World.setCell, Array.getElem?_modify, h]

/-- The cells of the list that is being made. -/
def box5 (sv : Value) : Array Value := #[.int .i64 5, .int .i64 0, .string ⟨#[]⟩, sv, .slice none 0 0, .slice none 0 0]
theorem box5_set (a b : Value) : (box5 a).setIfInBounds 3 b = box5 b := rfl
def flatS (l : List ByteArray) : List Value := l.flatMap fun s => (strV s).cells
theorem flatS_snoc (l : List ByteArray) (s : ByteArray) : flatS (l ++ [s]) = flatS l ++ (strV s).cells := by simp [flatS]
/-- What is asked of a word. -/
def Word (s : ByteArray) : Prop := s.size ≤ 4096 ∧ Lib.validD s.data.toList = true ∧ ∀ c ∈ s.data.toList, c ≠ 0

structure SL (w wr : World) (ss : List ByteArray) (k : Nat) (sv : Value) : Prop where
  below : Below w.heap.size w wr
  out : BoxAt wr w.heap.size (box5 sv)
  own : wr.ownsRow (w.heap.size + 1) 26 6 sv k (flatS (ss.take k))
  ok : ∀ s ∈ ss.take k, Word s

theorem take_snocS (l : List ByteArray) (k : Nat) (y : ByteArray) (h : l[k]? = some y) : l.take (k + 1) = l.take k ++ [y] := by
  obtain ⟨hlt, rfl⟩ := List.getElem?_eq_some_iff.1 h
  rw [List.take_add_one, List.getElem?_eq_getElem hlt]; rfl

theorem SL.step {w wr W w5 : World} {ss : List ByteArray} {k : Nat} {sv : Value} {s : ByteArray} {g cap : Nat} (h : SL w wr ss k sv) (hs : ss[k]? = some s) (hok : Word s) (hbW : Below wr.heap.size wr W)
    (hg5 : W.grownBy w5 sv.ownBlock) (hown : w5.ownsRow (w.heap.size + 1) 26 6 (.slice (some ⟨g, 0, none⟩) (k + 1) cap) (k + 1) (flatS (ss.take k) ++ (strV s).cells)) :
    SL w (w5.setCell ⟨w.heap.size, 3, none⟩ (.slice (some ⟨g, 0, none⟩) (k + 1) cap)) ss (k + 1) (.slice (some ⟨g, 0, none⟩) (k + 1) cap) := by
  have hol := h.own.lt
  have hg := hown.lt g rfl
  have hlt := h.out.lt
  have hsW := hbW.size
  have hB : Below w.heap.size w w5 := (h.below.trans (hbW.mono h.below.size)).grown hg5 (by have := h.below.size; omega) (fun b hb => by have := hol b hb; omega)
  have hO : BoxAt w5 w.heap.size (box5 sv) := (h.out.below hbW).keep hg5 (fun e => by have := hol _ e.symm; omega)
  refine ⟨hB.setCell (by simp) _, ?_, ?_, ?_⟩
  · have := hO.set 3 (.slice (some ⟨g, 0, none⟩) (k + 1) cap)
    rw [box5_set] at this; exact this
  · rw [take_snocS ss k s hs, flatS_snoc]
    exact hown.kept (grown_set w5 w.heap.size 3 _) (Or.inr (by simp [Value.ownBlock]; omega))
  · rw [take_snocS ss k s hs]
    intro t ht
    rcases List.mem_append.1 ht with ht | ht
    · exact h.ok t ht
    · rw [List.mem_singleton.1 ht]; exact hok

theorem valid_nil : Lib.validD (⟨#[]⟩ : ByteArray).data.toList = true := by decide
theorem nil_list : (⟨#[]⟩ : ByteArray).toList = [] := by simp [ByteArray.toList_eq]
theorem keys_none : Keys [] := ⟨fun s hs => (by cases hs), fun i s s' h => (by simp at h)⟩
theorem c2_none : C2 0 := ⟨by decide, by decide, Or.inl rfl⟩
theorem rows_none (w : World) (B : Nat) (A : Option Addr) : RowsV w B A [] := fun h => absurd rfl h
theorem reads_none (w : World) (B : Nat) (A : Option Addr) : Reads w B A [] := fun h => absurd rfl h
theorem goodAll_none : GoodAll [] := by unfold GoodAll; trivial
theorem allIn_none (w : World) (B : Nat) : AllIn w B [] := by unfold AllIn; trivial
theorem strV_good {s : ByteArray} (h : Word s) : (strV s).Good := by
  unfold strV V.Good
  exact ⟨⟨by decide, by decide, Or.inr rfl, Or.inl rfl, Or.inr rfl, Or.inr rfl, rfl⟩, c2_none, h.2.1, keys_none, goodAll_none, goodAll_none⟩
theorem strV_in {s : ByteArray} (h : Word s) (w : World) (B : Nat) : (strV s).In w B := by
  unfold strV V.In
  refine ⟨?_, rows_none _ _ _, reads_none _ _ _, rows_none _ _ _, allIn_none _ _, allIn_none _ _⟩
  unfold V.Own
  have := h.1
  refine ⟨by decide, by decide, by omega, ?_⟩
  simp
theorem goodAll_str : ∀ l : List ByteArray, (∀ s ∈ l, Word s) → GoodAll (l.map strV)
  | [], _ => by unfold GoodAll; trivial
  | s :: r, h => by
    simp only [List.map_cons]
    unfold GoodAll
    exact ⟨strV_good (h s (List.mem_cons_self ..)), goodAll_str r (fun t ht => h t (List.mem_cons_of_mem _ ht))⟩
theorem allIn_str (w : World) (B : Nat) : ∀ l : List ByteArray, (∀ s ∈ l, Word s) → AllIn w B (l.map strV)
  | [], _ => by unfold AllIn; trivial
  | s :: r, h => by
    simp only [List.map_cons]
    unfold AllIn
    exact ⟨strV_in (h s (List.mem_cons_self ..)) w B, allIn_str w B r (fun t ht => h t (List.mem_cons_of_mem _ ht))⟩

theorem flat_strs : ∀ (L : List ByteArray) (i j : Nat) (s : ByteArray) (u : Value), L[i]? = some s → (strV s).cells[j]? = some u → (flatS L)[i * 6 + j]? = some u
  | t :: L, 0, j, s, u, hi, hj => by
    simp at hi; subst hi
    have hl : j < (strV t).cells.length := (List.getElem?_eq_some_iff.1 hj).1
    simp only [flatS, List.flatMap_cons, Nat.zero_mul, Nat.zero_add]
    rw [List.getElem?_append_left hl]; exact hj
  | t :: L, i + 1, j, s, u, hi, hj => by
    have ih := flat_strs L i j s u (by simpa using hi) hj
    have hl : (strV t).cells.length = 6 := rfl
    simp only [flatS, List.flatMap_cons] at ih ⊢
    rw [List.getElem?_append_right (by rw [hl]; omega), hl, show (i + 1) * 6 + j - 6 = i * 6 + j by omega]
    exact ih

/-- The list, whole: a right tree in memory. -/
theorem SL.tree {w wr : World} {ss : List ByteArray} {sv : Value} (h : SL w wr ss ss.length sv) (hn : ss.length ≤ 1000) : ∃ A c, sv = .slice A ss.length c ∧
    (V.mk 5 0 ⟨#[]⟩ A c (ss.map strV) none 0 [] none 0 []).In wr wr.heap.size ∧ (V.mk 5 0 ⟨#[]⟩ A c (ss.map strV) none 0 [] none 0 []).Good := by
  have hown := h.own
  have hok := h.ok
  rw [List.take_length] at hown hok
  have hrest : ∀ (A : Option Addr) (c : Nat), ss.length ≤ c → RowsV wr wr.heap.size A (ss.map strV) → (V.mk 5 0 ⟨#[]⟩ A c (ss.map strV) none 0 [] none 0 []).In wr wr.heap.size ∧ (V.mk 5 0 ⟨#[]⟩ A c (ss.map strV) none 0 [] none 0 []).Good := fun A c hc hr => by
    constructor
    · unfold V.In
      refine ⟨?_, hr, reads_none _ _ _, rows_none _ _ _, allIn_str _ _ _ hok, allIn_none _ _⟩
      unfold V.Own
      have e : (⟨#[]⟩ : ByteArray).size = 0 := rfl
      refine ⟨by decide, by decide, by rw [e]; decide, by rw [List.length_map]; exact hc, by rw [List.length_map]; omega, ?_⟩
      simp
    · unfold V.Good
      exact ⟨⟨by decide, by decide, Or.inr rfl, Or.inr nil_list, Or.inl rfl, Or.inr rfl, rfl⟩, c2_none, valid_nil, keys_none, goodAll_str _ hok, goodAll_none⟩
  rcases hown.2 with ⟨rfl, h0⟩ | ⟨g, cap, cur, rfl, hbg, hg, h1, _⟩
  · have e : ss = [] := List.length_eq_zero_iff.1 h0
    refine ⟨none, 0, by rw [h0], hrest none 0 (by omega) ?_⟩
    rw [e]; exact rows_none _ _ _
  · refine ⟨_, cap, rfl, hrest _ _ h1 fun _ => ⟨⟨g, 0, none⟩, rfl, (Array.getElem?_eq_some_iff.1 hg).1, fun i x hx j u hu => ?_⟩⟩
    rw [List.getElem?_map] at hx
    cases hs : ss[i]? with
    | none => rw [hs] at hx; cases hx
    | some s =>
      rw [hs] at hx
      cases hx
      exact hown.cells rfl _ _ (flat_strs ss i j s u hs hu)
end Go.Proofs.YtpigccnlembfdaaGreatDoor
