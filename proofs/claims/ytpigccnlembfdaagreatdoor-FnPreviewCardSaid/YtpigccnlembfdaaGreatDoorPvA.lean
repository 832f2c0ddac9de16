/- The trees, maps and represented values; the looker's small walks. Conditions: as each theorem states. -/
import Derived.Test.YtpigccnlembfdaaGreatDoorRows
import Derived.WalkKit
import Derived.WalkSpells
import Derived.WalkLawsBesides
import Derived.Lib.Hide
import Derived.Deep.Slices
import Derived.Deep.Draws
import Derived.Laws.OwnMore
import Derived.Deep.AppendLies
import Derived.Maps.AppendAt
import Derived.Maps.OwnOps
import Derived.Maps.OwnSet
import Derived.Lib.ValidLaws

/- The plain trees that a Go value of the type impl.Value reads as, and what it means that one lies in memory. Conditions: none. -/
namespace Go.Proofs.YtpigccnlembfdaaGreatDoor
open Go.RowKit

theorem block_of_add (a : Addr) (n : Nat) : (a.add n).block = a.block := by unfold Addr.add; split <;> rfl
theorem add_of_add (a : Addr) (i j : Nat) : (a.add i).add j = a.add (i + j) := by
  unfold Addr.add
  by_cases hi : i = 0 <;> by_cases hj : j = 0 <;> simp [hi, hj, Nat.add_assoc]

/-- A slice value that holds the cells xs, below block B (nil let in). -/
def Reads (w : World) (B : Nat) (A : Option Addr) (xs : List Value) : Prop :=
  xs ≠ [] → ∃ ad, A = some ad ∧ ad.block < B ∧ ∀ j u, xs[j]? = some u → w.cell? (ad.add j) = some u

/-- A tree: what a value of the type impl.Value is, with the addresses of its three slices. -/
inductive V where
  | mk (kind half : Int) (text : ByteArray) (aL : Option Addr) (cL : Nat) (list : List V) (aK : Option Addr) (cK : Nat) (keys : List ByteArray) (aV : Option Addr) (cV : Nat) (vals : List V)

namespace V
def kind : V → Int | mk k _ _ _ _ _ _ _ _ _ _ _ => k
def half : V → Int | mk _ h _ _ _ _ _ _ _ _ _ _ => h
def text : V → ByteArray | mk _ _ t _ _ _ _ _ _ _ _ _ => t
def list : V → List V | mk _ _ _ _ _ l _ _ _ _ _ _ => l
def keys : V → List ByteArray | mk _ _ _ _ _ _ _ _ k _ _ _ => k
def vals : V → List V | mk _ _ _ _ _ _ _ _ _ _ _ v => v
def cells : V → List Value
  | mk k h t aL cL l aK cK ks aV cV vs => [.int .i64 k, .int .i64 h, .string t, .slice aL l.length cL, .slice aK ks.length cK, .slice aV vs.length cV]
def val (x : V) : Value := .agg x.cells.toArray
theorem val_mk {k h t aL cL l aK cK ks aV cV vs} : (V.mk k h t aL cL l aK cK ks aV cV vs).val = .agg #[.int .i64 k, .int .i64 h, .string t, .slice aL l.length cL, .slice aK ks.length cK, .slice aV vs.length cV] := rfl
end V

/-- A slice value that holds trees, six cells each. -/
def RowsV (w : World) (B : Nat) (A : Option Addr) (l : List V) : Prop :=
  l ≠ [] → ∃ ad, A = some ad ∧ ad.block < B ∧ ∀ (i : Nat) (x : V), l[i]? = some x → ∀ (j : Nat) (u : Value), x.cells[j]? = some u → w.cell? (ad.add (i * 6 + j)) = some u

/-- What Go's own kinds and the reach bound of one node. -/
def V.Own : V → Prop
  | .mk k h t _ cL l _ cK ks _ cV vs => (-9223372036854775808 ≤ k ∧ k ≤ 9223372036854775807) ∧ (-9223372036854775808 ≤ h ∧ h ≤ 9223372036854775807) ∧ t.size ≤ 140737488351232 ∧
      l.length ≤ cL ∧ l.length ≤ 140737488351232 ∧ ks.length ≤ cK ∧ ks.length ≤ 140737488351232 ∧ vs.length ≤ cV ∧ vs.length ≤ 140737488351232 ∧ ∀ s ∈ ks, s.size ≤ 140737488351232

mutual
/-- The tree lies in the world, below block B. -/
def V.In (w : World) (B : Nat) : V → Prop
  | .mk k h t aL cL l aK cK ks aV cV vs => V.Own (.mk k h t aL cL l aK cK ks aV cV vs) ∧ RowsV w B aL l ∧ Reads w B aK (ks.map .string) ∧ RowsV w B aV vs ∧ AllIn w B l ∧ AllIn w B vs
def AllIn (w : World) (B : Nat) : List V → Prop
  | [] => True
  | x :: r => V.In w B x ∧ AllIn w B r
end

theorem AllIn.mem {w : World} {B : Nat} : ∀ {l : List V}, AllIn w B l → ∀ x ∈ l, V.In w B x
  | [], _, x, hx => by cases hx
  | y :: r, h, x, hx => by
    unfold AllIn at h
    rcases List.mem_cons.1 hx with rfl | hx
    · exact h.1
    · exact AllIn.mem h.2 x hx
theorem allIn_of {w : World} {B : Nat} : ∀ {l : List V}, (∀ x ∈ l, V.In w B x) → AllIn w B l
  | [], _ => by unfold AllIn; trivial
  | y :: r, h => by
    unfold AllIn
    exact ⟨h y (List.mem_cons_self ..), allIn_of fun x hx => h x (List.mem_cons_of_mem _ hx)⟩

theorem Reads.keep {w w' : World} {B : Nat} {A : Option Addr} {xs : List Value} (h : Reads w B A xs) (hk : ∀ p : Addr, p.block < B → w'.cell? p = w.cell? p) : Reads w' B A xs := fun hn => by
  obtain ⟨ad, e, hb, hc⟩ := h hn
  exact ⟨ad, e, hb, fun j u hu => (hk _ (by rw [block_of_add]; exact hb)).trans (hc j u hu)⟩
theorem Reads.more {w : World} {B B' : Nat} {A : Option Addr} {xs : List Value} (h : Reads w B A xs) (hB : B ≤ B') : Reads w B' A xs := fun hn => by
  obtain ⟨ad, e, hb, hc⟩ := h hn
  exact ⟨ad, e, by omega, hc⟩
theorem Reads.at_ {w : World} {B : Nat} {A : Option Addr} {xs : List Value} (h : Reads w B A xs) {k : Nat} (hk : k < xs.length) : ∃ ad, A = some ad ∧ w.cell? (ad.add k) = some xs[k] := by
  obtain ⟨ad, e, _, hc⟩ := h (by intro e; subst e; simp at hk)
  exact ⟨ad, e, hc k _ (List.getElem?_eq_getElem hk)⟩
theorem RowsV.keep {w w' : World} {B : Nat} {A : Option Addr} {l : List V} (h : RowsV w B A l) (hk : ∀ p : Addr, p.block < B → w'.cell? p = w.cell? p) : RowsV w' B A l := fun hn => by
  obtain ⟨ad, e, hb, hc⟩ := h hn
  exact ⟨ad, e, hb, fun i x hx j u hu => (hk _ (by rw [block_of_add]; exact hb)).trans (hc i x hx j u hu)⟩
theorem RowsV.more {w : World} {B B' : Nat} {A : Option Addr} {l : List V} (h : RowsV w B A l) (hB : B ≤ B') : RowsV w B' A l := fun hn => by
  obtain ⟨ad, e, hb, hc⟩ := h hn
  exact ⟨ad, e, by omega, hc⟩
theorem RowsV.at_ {w : World} {B : Nat} {A : Option Addr} {l : List V} (h : RowsV w B A l) {k : Nat} (hk : k < l.length) :
    ∃ ad, A = some ad ∧ ∀ (j : Nat) (u : Value), l[k].cells[j]? = some u → w.cell? (ad.add (k * 6 + j)) = some u := by
  obtain ⟨ad, e, _, hc⟩ := h (by intro e; subst e; simp at hk)
  exact ⟨ad, e, hc k _ (List.getElem?_eq_getElem hk)⟩

/-- The six cells of one tree of a row, as a walk that loads it asks for them. -/
theorem six {w : World} {a : Addr} {i : Nat} {k h t aL cL l aK cK ks aV cV vs}
    (hc : ∀ (j : Nat) (u : Value), (V.mk k h t aL cL l aK cK ks aV cV vs).cells[j]? = some u → w.cell? (a.add (i * 6 + j)) = some u) :
    w.cell? (a.add (i * 6)) = some (.int .i64 k) ∧ w.cell? ⟨(a.add (i * 6)).block, (a.add (i * 6)).off + 1, none⟩ = some (.int .i64 h) ∧ w.cell? ⟨(a.add (i * 6)).block, (a.add (i * 6)).off + 2, none⟩ = some (.string t) ∧
    w.cell? ⟨(a.add (i * 6)).block, (a.add (i * 6)).off + 3, none⟩ = some (.slice aL l.length cL) ∧ w.cell? ⟨(a.add (i * 6)).block, (a.add (i * 6)).off + 4, none⟩ = some (.slice aK ks.length cK) ∧
    w.cell? ⟨(a.add (i * 6)).block, (a.add (i * 6)).off + 5, none⟩ = some (.slice aV vs.length cV) := by
  have e : ∀ j, j ≠ 0 → a.add (i * 6 + j) = ⟨(a.add (i * 6)).block, (a.add (i * 6)).off + j, none⟩ := fun j hj => by
    rw [← add_of_add]; generalize a.add (i * 6) = b; simp [Addr.add, hj]
  have h1 := hc 1 _ rfl
  have h2 := hc 2 _ rfl
  have h3 := hc 3 _ rfl
  have h4 := hc 4 _ rfl
  have h5 := hc 5 _ rfl
  rw [e _ (by decide)] at h1 h2 h3 h4 h5
  exact ⟨hc 0 _ rfl, h1, h2, h3, h4, h5⟩

mutual
theorem V.In.keep {w w' : World} {B : Nat} (hk : ∀ p : Addr, p.block < B → w'.cell? p = w.cell? p) : ∀ {x : V}, V.In w B x → V.In w' B x
  | .mk k h t aL cL l aK cK ks aV cV vs, hx => by
    unfold V.In at hx ⊢
    exact ⟨hx.1, hx.2.1.keep hk, hx.2.2.1.keep hk, hx.2.2.2.1.keep hk, AllIn.keep hk hx.2.2.2.2.1, AllIn.keep hk hx.2.2.2.2.2⟩
theorem AllIn.keep {w w' : World} {B : Nat} (hk : ∀ p : Addr, p.block < B → w'.cell? p = w.cell? p) : ∀ {l : List V}, AllIn w B l → AllIn w' B l
  | [], _ => by unfold AllIn; trivial
  | x :: r, h => by
    unfold AllIn at h ⊢
    exact ⟨V.In.keep hk h.1, AllIn.keep hk h.2⟩
end
mutual
theorem V.In.more {w : World} {B B' : Nat} (hB : B ≤ B') : ∀ {x : V}, V.In w B x → V.In w B' x
  | .mk k h t aL cL l aK cK ks aV cV vs, hx => by
    unfold V.In at hx ⊢
    exact ⟨hx.1, hx.2.1.more hB, hx.2.2.1.more hB, hx.2.2.2.1.more hB, AllIn.more hB hx.2.2.2.2.1, AllIn.more hB hx.2.2.2.2.2⟩
theorem AllIn.more {w : World} {B B' : Nat} (hB : B ≤ B') : ∀ {l : List V}, AllIn w B l → AllIn w B' l
  | [], _ => by unfold AllIn; trivial
  | x :: r, h => by
    unfold AllIn at h ⊢
    exact ⟨V.In.more hB h.1, AllIn.more hB h.2⟩
end
theorem V.In.grown {w w' : World} {B : Nat} {row : Option Nat} {x : V} (h : V.In w B x) (hg : w.grownBy w' row) (hB : B ≤ w.heap.size) (hr : ∀ g, row = some g → B ≤ g) : V.In w' B x :=
  h.keep fun p hp => World.cell?_of_block (hg.block p.block (by omega) (fun e => by have := hr _ e.symm; omega))
theorem V.In.below {w w' : World} {B B' : Nat} {x : V} (h : V.In w B x) (hb : Below B' w w') (hB : B ≤ B') : V.In w' B x := h.keep fun _ hp => hb.cell (by omega)

mutual
/-- The depth of a tree, and of a list of them. -/
def V.deep : V → Nat
  | .mk _ _ _ _ _ l _ _ _ _ _ vs => max (deepAll l) (deepAll vs) + 1
def deepAll : List V → Nat
  | [] => 0
  | x :: r => max x.deep (deepAll r)
end
theorem deep_mem : ∀ {l : List V} {x : V}, x ∈ l → x.deep ≤ deepAll l
  | y :: r, x, hx => by
    unfold deepAll
    rcases List.mem_cons.1 hx with rfl | hx
    · omega
    · have := deep_mem hx; omega
theorem deep_list {k h t aL cL l aK cK ks aV cV vs} {x : V} (hx : x ∈ l) : x.deep < (V.mk k h t aL cL l aK cK ks aV cV vs).deep := by
  have := deep_mem hx; show x.deep < max (deepAll l) (deepAll vs) + 1; omega
theorem deep_vals {k h t aL cL l aK cK ks aV cV vs} {x : V} (hx : x ∈ vs) : x.deep < (V.mk k h t aL cL l aK cK ks aV cV vs).deep := by
  have := deep_mem hx; show x.deep < max (deepAll l) (deepAll vs) + 1; omega
end Go.Proofs.YtpigccnlembfdaaGreatDoor

/- Maps with string keys, as functions from keys to values: what a lookup gives, what a store leaves. Conditions: none. -/
namespace Go.Proofs.YtpigccnlembfdaaGreatDoor
open Go.RowKit Go.MapKept Go.ChangeMaps
open Go.Maps (Keyed string_keyed)
open Go.WideMaps

/-- Block b of w is a map with string keys: under the key s it holds m s; n entries. -/
def MapIs (w : World) (b n : Nat) (m : ByteArray → Option Value) : Prop :=
  ∃ es clock, w.heap[b]? = some (.map es clock) ∧ Stamped es clock ∧ es.size = n ∧ (∀ x ∈ es.toList, ∃ s : ByteArray, x.key = .string s ∧ s.size ≤ maxLen) ∧
    ∀ (s : ByteArray) (v : Value), m s = some v ↔ ∃ x ∈ es.toList, x.key = .string s ∧ x.val = v

section
variable {P : Program} {t k e : TypeId} {w : World} {b n : Nat} {m : ByteArray → Option Value}

theorem MapIs.lt (h : MapIs w b n m) : b < w.heap.size := by
  obtain ⟨es, clock, hb, _⟩ := h
  exact (Array.getElem?_eq_some_iff.1 hb).1
theorem MapIs.of_block {w' : World} (h : MapIs w b n m) (hb : w'.heap[b]? = w.heap[b]?) : MapIs w' b n m := by
  obtain ⟨es, clock, h1, h2⟩ := h
  exact ⟨es, clock, hb.trans h1, h2⟩
theorem MapIs.made (w : World) : MapIs (w.alloc (.map #[] 0)) w.heap.size 0 (fun _ => none) :=
  ⟨#[], 0, (MapKept.heap_alloc w _).1, stamped_empty 0, rfl, by simp, by simp⟩

theorem keyOf_str (hk : P.underlying k = some .string) {s : ByteArray} (hs : s.size ≤ maxLen) : keyOf P k (.string s) = some (.string s.data.toList) := keyOf_string_mk hk hs

theorem MapIs.keys (hk : P.underlying k = some .string) {es : Array MapEntry} (h : ∀ x ∈ es.toList, ∃ s : ByteArray, x.key = .string s ∧ s.size ≤ maxLen) : ∀ x ∈ es.toList, ∃ l, keyOf P k x.key = some l := fun x hx => by
  obtain ⟨s, e1, e2⟩ := h x hx
  exact ⟨_, by rw [e1]; exact keyOf_str hk e2⟩

theorem nodup_idx {α : Type} {l : List α} (h : l.Nodup) {i j : Nat} (hi : i < l.length) (hj : j < l.length) (e : l[i] = l[j]) : i = j := by
  have hp := List.pairwise_iff_getElem.1 h
  rcases Nat.lt_trichotomy i j with h1 | h1 | h1
  · exact absurd e (hp i j hi hj h1)
  · exact h1
  · exact absurd e.symm (hp j i hj hi h1)
/-- Two entries of one key are one. -/
theorem one_key {es : Array MapEntry} {clock : Nat} (hst : Stamped es clock) {x y : MapEntry} (hx : x ∈ es.toList) (hy : y ∈ es.toList) (h : x.key = y.key) : x = y := by
  obtain ⟨_, _, hn⟩ := hst
  obtain ⟨i, hi, rfl⟩ := List.getElem_of_mem hx
  obtain ⟨j, hj, rfl⟩ := List.getElem_of_mem hy
  have hij : i = j := nodup_idx hn (by simpa using hi) (by simpa using hj) (by simpa using h)
  subst hij; rfl

/-- v, ok := m[s] -/
theorem MapIs.look (h : MapIs w b n m) (ht : P.underlying t = some (.map k e)) (hk : P.underlying k = some .string) {z : Value} (hz : (zeroValue e).run P w = .ok z w) (c : Bool) {s : ByteArray} (hs : s.size ≤ maxLen) :
    (Instr.lookup t (.map (some b)) (.string s) c).run P w = .ok (if c then .tuple #[(m s).getD z, .bool (m s).isSome] else (m s).getD z) w := by
  obtain ⟨es, clock, hb, hst, _, hkeys, hm⟩ := h
  have K := string_keyed hk
  have hkey := keyOf_str hk hs
  rcases K.find w hkey es.toList (MapIs.keys hk hkeys) with ⟨h1, h2⟩ | ⟨j, e0, h1, h2, h3⟩
  · have hn : m s = none := by
      cases hms : m s with
      | none => rfl
      | some v => obtain ⟨x, hx, hxk, _⟩ := (hm s v).1 hms; exact absurd hxk (h2 x hx)
    simp [Instr.lookup, run_underlying ht, MapKept.run_getObj_map hb, K.check w _ hkey, h1, hz, Result.andThen, hn]
  · have hn : m s = some e0.val := (hm s e0.val).2 ⟨e0, List.mem_of_getElem? h2, h3, rfl⟩
    simp [Instr.lookup, run_underlying ht, MapKept.run_getObj_map hb, K.check w _ hkey, h1, Result.andThen, hn]

/-- m[s] = v -/
theorem MapIs.put (h : MapIs w b n m) (ht : P.underlying t = some (.map k e)) (hk : P.underlying k = some .string) {s : ByteArray} (hs : s.size ≤ maxLen) (v : Value) :
    ∃ o, (Instr.mapUpdate t (.map (some b)) (.string s) v).run P w = .ok () (setBlock w b o) ∧ MapIs (setBlock w b o) b (if (m s).isSome then n else n + 1) (fun s' => if s' = s then some v else m s') := by
  have hlt := h.lt
  obtain ⟨es, clock, hb, hst, hsz, hkeys, hm⟩ := h
  have K := string_keyed hk
  have hkey := keyOf_str hk hs
  have hblk : ∀ o, (setBlock w b o).heap[b]? = some o := fun o => by simp [setBlock, hlt]
  rcases K.find w hkey es.toList (MapIs.keys hk hkeys) with ⟨h1, h2⟩ | ⟨j, e0, h1, h2, h3⟩
  · have hn : m s = none := by
      cases hms : m s with
      | none => rfl
      | some v => obtain ⟨x, hx, hxk, _⟩ := (hm s v).1 hms; exact absurd hxk (h2 x hx)
    refine ⟨.map (es.push ⟨.string s, v, clock⟩) (clock + 1), ?_, es.push ⟨.string s, v, clock⟩, clock + 1, hblk _, stamped_push hst h2, ?_, ?_, ?_⟩
    · simp [Instr.mapUpdate, run_underlying ht, MapKept.run_getObj_map hb, K.check w false hkey, h1, MapKept.run_setObj_map _ hb, Result.andThen, setBlock]
    · simp [hn, hsz]
    · intro x hx
      simp only [Array.toList_push, List.mem_append, List.mem_singleton] at hx
      rcases hx with hx | rfl
      · exact hkeys x hx
      · exact ⟨s, rfl, hs⟩
    · intro s' v'
      by_cases he : s' = s
      · subst he
        simp only [if_true, Array.toList_push, List.mem_append, List.mem_singleton]
        constructor
        · intro hv; cases hv; exact ⟨_, Or.inr rfl, rfl, rfl⟩
        · rintro ⟨x, hx | rfl, hxk, hxv⟩
          · exact absurd hxk (h2 x hx)
          · rw [← hxv]
      · simp only [if_neg he, Array.toList_push, List.mem_append, List.mem_singleton]
        rw [hm]
        constructor
        · rintro ⟨x, hx, h⟩; exact ⟨x, Or.inl hx, h⟩
        · rintro ⟨x, hx | rfl, hxk, hxv⟩
          · exact ⟨x, hx, hxk, hxv⟩
          · injection hxk with hxk; exact absurd hxk.symm he
  · have hmem := List.mem_of_getElem? h2
    have hn : m s = some e0.val := (hm s e0.val).2 ⟨e0, hmem, h3, rfl⟩
    have hj : es[j]? = some e0 := by simpa using h2
    have hkeyf : ∀ e', es[j]? = some e' → ({ e' with key := .string s, val := v } : MapEntry).key = e'.key := fun e' he' => by rw [hj] at he'; cases he'; exact h3.symm
    have hlist : (es.modify j (fun e' => { e' with key := .string s, val := v })).toList = es.toList.set j { e0 with key := .string s, val := v } := by rw [Array.toList_modify, modify_eq_set _ _ _ _ h2]
    have hjl : j < es.toList.length := (List.getElem?_eq_some_iff.1 h2).1
    have who : ∀ x, x ∈ es.toList.set j { e0 with key := .string s, val := v } ↔ (x = { e0 with key := .string s, val := v } ∨ (x ∈ es.toList ∧ x.key ≠ .string s)) := by
      intro x
      constructor
      · intro hx
        obtain ⟨i, hi, ex⟩ := List.getElem_of_mem hx
        rw [List.getElem_set] at ex
        split at ex
        · exact Or.inl ex.symm
        · rename_i hne
          have hi' : i < es.toList.length := by simpa using hi
          refine Or.inr ⟨ex ▸ List.getElem_mem hi', fun hxs => hne ?_⟩
          have hx0 : x = e0 := one_key hst (ex ▸ List.getElem_mem hi') hmem (hxs.trans h3.symm)
          have hnd := hst.2.1
          have e2 : es.toList[j] = e0 := (List.getElem?_eq_some_iff.1 h2).2
          exact (nodup_idx hnd (by simpa using hi') (by simpa using hjl) (by simp only [List.getElem_map, ex, e2, hx0])).symm
      · rintro (rfl | ⟨hx, hne⟩)
        · exact List.mem_of_getElem? (List.getElem?_set_self hjl)
        · obtain ⟨i, hi, ex⟩ := List.getElem_of_mem hx
          have hij : j ≠ i := by
            rintro rfl
            have e2 : es.toList[j] = e0 := (List.getElem?_eq_some_iff.1 h2).2
            exact hne (by rw [← ex, e2]; exact h3)
          exact List.mem_of_getElem? (i := i) (by rw [List.getElem?_set_ne hij, List.getElem?_eq_getElem hi, ex])
    refine ⟨.map (es.modify j (fun e' => { e' with key := .string s, val := v })) clock, ?_, es.modify j (fun e' => { e' with key := .string s, val := v }), clock, hblk _, stamped_modify hst _ _ (fun _ _ => rfl) (fun e' _ he' => hkeyf e' he'), ?_, ?_, ?_⟩
    · simp [Instr.mapUpdate, run_underlying ht, MapKept.run_getObj_map hb, K.check w false hkey, h1, hj, h3, K.stays w hkey, MapKept.run_setObj_map _ hb, Result.andThen, setBlock]
    · simp [hn, hsz]
    · intro x hx
      rw [hlist, who] at hx
      rcases hx with rfl | ⟨hx, _⟩
      · exact ⟨s, rfl, hs⟩
      · exact hkeys x hx
    · intro s' v'
      rw [hlist]
      by_cases he : s' = s
      · subst he
        simp only [if_true]
        constructor
        · intro hv; cases hv; exact ⟨_, (who _).2 (Or.inl rfl), rfl, rfl⟩
        · rintro ⟨x, hx, hxk, hxv⟩
          rcases (who x).1 hx with rfl | ⟨_, hne⟩
          · rw [← hxv]
          · exact absurd hxk hne
      · simp only [if_neg he]
        rw [hm]
        constructor
        · rintro ⟨x, hx, hxk, hxv⟩
          exact ⟨x, (who x).2 (Or.inr ⟨hx, by rw [hxk]; intro h; injection h with h; exact he h⟩), hxk, hxv⟩
        · rintro ⟨x, hx, hxk, hxv⟩
          rcases (who x).1 hx with rfl | ⟨hx, _⟩
          · injection hxk with hxk; exact absurd hxk.symm he
          · exact ⟨x, hx, hxk, hxv⟩
end
end Go.Proofs.YtpigccnlembfdaaGreatDoor

/- The JSON values that the program's own values represent, and what it means that one lies in memory. Conditions: none. -/
namespace Go.Proofs.YtpigccnlembfdaaGreatDoor
open Go.RowKit

/-- A JSON value: numbers are integers, or floats by their bits; maps by their keys, rising, and their values. -/
inductive J where
  | null
  | bool (b : Bool)
  | int (n : Int)
  | flt (bits : Nat)
  | str (s : ByteArray)
  | list (l : List J)
  | map (ks : List ByteArray) (vs : List J)

/-- The keys rise. -/
def Rising (ks : List ByteArray) : Prop := ∀ (i : Nat) (s s' : ByteArray), ks[i]? = some s → ks[i + 1]? = some s' → Op.bytesLess s.toList s'.toList = true

theorem bl_irrefl : ∀ x : List UInt8, Op.bytesLess x x = false
  | [] => rfl
  | a :: x => by simp [Op.bytesLess, bl_irrefl x]
theorem bl_trans : ∀ x y z : List UInt8, Op.bytesLess x y = true → Op.bytesLess y z = true → Op.bytesLess x z = true
  | _, _, [], _, h => by simp [Op.bytesLess] at h
  | [], _, _ :: _, _, _ => rfl
  | _ :: _, [], _ :: _, h, _ => by simp [Op.bytesLess] at h
  | a :: x, b :: y, c :: z, h1, h2 => by
    simp only [Op.bytesLess, Bool.or_eq_true, decide_eq_true_eq, Bool.and_eq_true, beq_iff_eq, UInt8.lt_iff_toNat_lt] at h1 h2 ⊢
    rcases h1 with h1 | ⟨rfl, h1⟩
    · rcases h2 with h2 | ⟨rfl, h2⟩
      · left; omega
      · left; exact h1
    · rcases h2 with h2 | ⟨rfl, h2⟩
      · left; exact h2
      · right; exact ⟨rfl, bl_trans x y z h1 h2⟩
/-- A key that stands behind another is greater. -/
theorem Rising.lt {ks : List ByteArray} (h : Rising ks) : ∀ (d i : Nat) (s s' : ByteArray), ks[i]? = some s → ks[i + d + 1]? = some s' → Op.bytesLess s.toList s'.toList = true
  | 0, i, s, s', h1, h2 => h i s s' h1 h2
  | d + 1, i, s, s', h1, h2 => by
    have hl : i + d + 1 < ks.length := by have := (List.getElem?_eq_some_iff.1 h2).1; omega
    have hm : ks[i + d + 1]? = some ks[i + d + 1] := List.getElem?_eq_getElem hl
    exact bl_trans _ _ _ (h.lt d i s _ h1 hm) (h (i + d + 1) _ s' hm h2)
theorem Rising.inj {ks : List ByteArray} (h : Rising ks) {i j : Nat} {s : ByteArray} (hi : ks[i]? = some s) (hj : ks[j]? = some s) : i = j := by
  rcases Nat.lt_trichotomy i j with h1 | h1 | h1
  · have := h.lt (j - i - 1) i s s hi (by rw [show i + (j - i - 1) + 1 = j by omega]; exact hj)
    rw [bl_irrefl] at this; cases this
  · exact h1
  · have := h.lt (i - j - 1) j s s hj (by rw [show j + (i - j - 1) + 1 = i by omega]; exact hi)
    rw [bl_irrefl] at this; cases this

mutual
/-- The Go value x represents the JSON value in the world w; it goes through blocks of S alone. -/
def Rep (w : World) (S : Nat → Prop) : J → Value → Prop
  | .null, x => x = .nilIface
  | .bool b, x => x = .iface 4 (.bool b)
  | .int n, x => x = .iface 3 (.int .i64 n) ∧ -9223372036854775808 ≤ n ∧ n ≤ 9223372036854775807
  | .flt bits, x => x = .iface 65 (.float .f64 bits)
  | .str s, x => x = .iface 9 (.string s) ∧ s.size ≤ 140737488351232
  | .list l, x => ∃ A c us, x = .iface 66 (.slice A l.length c) ∧ l.length ≤ c ∧ c ≤ 140737488351232 ∧ RepAll w S l us ∧
      (us ≠ [] → ∃ ad, A = some ad ∧ S ad.block ∧ ad.block < w.heap.size ∧ ∀ (i : Nat) (u : Value), us[i]? = some u → w.cell? (ad.add i) = some u)
  | .map ks vs, x => ∃ b m us, x = .iface 69 (.map (some b)) ∧ S b ∧ MapIs w b ks.length m ∧ RepAll w S vs us ∧ ks.length = vs.length ∧ Rising ks ∧ (∀ s ∈ ks, s.size ≤ 140737488351232) ∧
      ∀ (s : ByteArray) (v : Value), m s = some v ↔ ∃ i : Nat, ks[i]? = some s ∧ us[i]? = some v
def RepAll (w : World) (S : Nat → Prop) : List J → List Value → Prop
  | [], us => us = []
  | j :: r, us => ∃ u us', us = u :: us' ∧ Rep w S j u ∧ RepAll w S r us'
end

theorem RepAll.length {w : World} {S : Nat → Prop} : ∀ {l : List J} {us : List Value}, RepAll w S l us → us.length = l.length
  | [], us, h => by unfold RepAll at h; subst h; rfl
  | j :: r, us, h => by unfold RepAll at h; obtain ⟨u, us', rfl, _, h⟩ := h; simp [RepAll.length h]
theorem RepAll.at_ {w : World} {S : Nat → Prop} : ∀ {l : List J} {us : List Value}, RepAll w S l us → ∀ {i : Nat} {j : J} {u : Value}, l[i]? = some j → us[i]? = some u → Rep w S j u
  | [], us, _, i, j, u, h, _ => by simp at h
  | j :: r, us, h, i, j', u', hj, hu => by
    unfold RepAll at h
    obtain ⟨u, us', rfl, h1, h2⟩ := h
    cases i with
    | zero => simp at hj hu; subst hj; subst hu; exact h1
    | succ i => exact RepAll.at_ h2 (by simpa using hj) (by simpa using hu)
theorem RepAll.snoc {w : World} {S : Nat → Prop} : ∀ {l : List J} {us : List Value} {j : J} {u : Value}, RepAll w S l us → Rep w S j u → RepAll w S (l ++ [j]) (us ++ [u])
  | [], us, j, u, h, h1 => by unfold RepAll at h; subst h; simp only [List.nil_append]; unfold RepAll; exact ⟨u, [], rfl, h1, by unfold RepAll; rfl⟩
  | j0 :: r, us, j, u, h, h1 => by
    unfold RepAll at h
    obtain ⟨u0, us', rfl, h2, h3⟩ := h
    simp only [List.cons_append]
    unfold RepAll
    exact ⟨u0, _, rfl, h2, RepAll.snoc h3 h1⟩
theorem repAll_nil (w : World) (S : Nat → Prop) : RepAll w S [] [] := by unfold RepAll; rfl

theorem cell_lt {w : World} {a : Addr} {v : Value} (h : w.cell? a = some v) : a.block < w.heap.size := World.block_lt_of_cell? w a h

/-- A value that represents something is an interface value. -/
theorem Rep.shape {w : World} {S : Nat → Prop} : ∀ {j : J} {x : Value}, Rep w S j x → x = .nilIface ∨ ∃ u v, x = .iface u v
  | .null, x, h => by unfold Rep at h; exact Or.inl h
  | .bool b, x, h => by unfold Rep at h; exact Or.inr ⟨_, _, h⟩
  | .int n, x, h => by unfold Rep at h; exact Or.inr ⟨_, _, h.1⟩
  | .flt n, x, h => by unfold Rep at h; exact Or.inr ⟨_, _, h⟩
  | .str n, x, h => by unfold Rep at h; exact Or.inr ⟨_, _, h.1⟩
  | .list l, x, h => by unfold Rep at h; obtain ⟨A, c, us, hx, _⟩ := h; exact Or.inr ⟨_, _, hx⟩
  | .map ks vs, x, h => by unfold Rep at h; obtain ⟨b, m, us, hx, _⟩ := h; exact Or.inr ⟨_, _, hx⟩

mutual
/-- What is represented lasts while the blocks of S are as they were. -/
theorem Rep.keep {w w' : World} {S S' : Nat → Prop} (hS : ∀ b, S b → S' b) (hk : ∀ b, S b → b < w.heap.size → w'.heap[b]? = w.heap[b]?) (hsz : w.heap.size ≤ w'.heap.size) : ∀ {j : J} {x : Value}, Rep w S j x → Rep w' S' j x
  | .null, x, h => by unfold Rep at h ⊢; exact h
  | .bool b, x, h => by unfold Rep at h ⊢; exact h
  | .int n, x, h => by unfold Rep at h ⊢; exact h
  | .flt n, x, h => by unfold Rep at h ⊢; exact h
  | .str n, x, h => by unfold Rep at h ⊢; exact h
  | .list l, x, h => by
    unfold Rep at h ⊢
    obtain ⟨A, c, us, hx, h1, h2, h3, h4⟩ := h
    refine ⟨A, c, us, hx, h1, h2, RepAll.keep hS hk hsz h3, fun hn => ?_⟩
    obtain ⟨ad, e, hs, hlt, hc⟩ := h4 hn
    exact ⟨ad, e, hS _ hs, by omega, fun i u hu => (World.cell?_of_block (by rw [block_of_add]; exact hk _ hs hlt)).trans (hc i u hu)⟩
  | .map ks vs, x, h => by
    unfold Rep at h ⊢
    obtain ⟨b, m, us, hx, h1, h2, h3, h4, h5, h6, h7⟩ := h
    exact ⟨b, m, us, hx, hS _ h1, h2.of_block (hk _ h1 h2.lt), RepAll.keep hS hk hsz h3, h4, h5, h6, h7⟩
theorem RepAll.keep {w w' : World} {S S' : Nat → Prop} (hS : ∀ b, S b → S' b) (hk : ∀ b, S b → b < w.heap.size → w'.heap[b]? = w.heap[b]?) (hsz : w.heap.size ≤ w'.heap.size) : ∀ {l : List J} {us : List Value}, RepAll w S l us → RepAll w' S' l us
  | [], us, h => by unfold RepAll at h ⊢; exact h
  | j :: r, us, h => by
    unfold RepAll at h ⊢
    obtain ⟨u, us', e, h1, h2⟩ := h
    exact ⟨u, us', e, Rep.keep hS hk hsz h1, RepAll.keep hS hk hsz h2⟩
end
theorem Rep.below {w w' : World} {S : Nat → Prop} {j : J} {x : Value} (h : Rep w S j x) (hb : Below w.heap.size w w') : Rep w' S j x := h.keep (fun _ h => h) (fun b _ hlt => hb.block b hlt) hb.size
theorem RepAll.below {w w' : World} {S : Nat → Prop} {j : List J} {x : List Value} (h : RepAll w S j x) (hb : Below w.heap.size w w') : RepAll w' S j x := h.keep (fun _ h => h) (fun b _ hlt => hb.block b hlt) hb.size
/-- .. and while a block that is none of S is written. -/
theorem Rep.beside {w w' : World} {S : Nat → Prop} {j : J} {x : Value} {g : Nat} (h : Rep w S j x) (hb : w.grownBy w' (some g)) (hg : ¬ S g) : Rep w' S j x :=
  h.keep (fun _ h => h) (fun b hs hlt => hb.block b hlt (fun e => by injection e with e; exact hg (e ▸ hs))) hb.size
theorem RepAll.beside {w w' : World} {S : Nat → Prop} {j : List J} {x : List Value} {g : Nat} (h : RepAll w S j x) (hb : w.grownBy w' (some g)) (hg : ¬ S g) : RepAll w' S j x :=
  h.keep (fun _ h => h) (fun b hs hlt => hb.block b hlt (fun e => by injection e with e; exact hg (e ▸ hs))) hb.size
theorem Rep.more {w : World} {S S' : Nat → Prop} {j : J} {x : Value} (h : Rep w S j x) (hS : ∀ b, S b → S' b) : Rep w S' j x := h.keep hS (fun _ _ _ => rfl) (Nat.le_refl _)
theorem RepAll.more {w : World} {S S' : Nat → Prop} {j : List J} {x : List Value} (h : RepAll w S j x) (hS : ∀ b, S b → S' b) : RepAll w S' j x := h.keep hS (fun _ _ _ => rfl) (Nat.le_refl _)
end Go.Proofs.YtpigccnlembfdaaGreatDoor

/- The walks of the small functions that look at a value: zzFits2, zzFits1, want, part, str. Conditions: as each theorem states. -/
namespace Go.Proofs.YtpigccnlembfdaaGreatDoor
open Go.RowKit

/-- The looker's block: its three cells. -/
def Look (w : World) (g : Nat) (p b : Int) (bad : Bool) : Prop := w.heap[g]? = some (.cells #[.int .i64 p, .int .i64 b, .bool bad] 44 (0, 0))

theorem Look.cell0 {w : World} {g : Nat} {p b : Int} {bad : Bool} (h : Look w g p b bad) : w.cell? ⟨g, 0, none⟩ = some (.int .i64 p) := cell_of_row w g 0 _ _ _ h
theorem Look.cell1 {w : World} {g : Nat} {p b : Int} {bad : Bool} (h : Look w g p b bad) : w.cell? ⟨g, 1, none⟩ = some (.int .i64 b) := cell_of_row w g 1 _ _ _ h
theorem Look.cell2 {w : World} {g : Nat} {p b : Int} {bad : Bool} (h : Look w g p b bad) : w.cell? ⟨g, 2, none⟩ = some (.bool bad) := cell_of_row w g 2 _ _ _ h
theorem Look.frozen {w : World} {g : Nat} {p b : Int} {bad : Bool} (h : Look w g p b bad) (i : Nat) : w.frozen? ⟨g, i, none⟩ = false := by
  unfold Look at h; simp [World.frozen?, h]


theorem Look.set {w : World} {g : Nat} {p b : Int} {bad : Bool} (h : Look w g p b bad) (bad' : Bool) : Look (w.setCell ⟨g, 2, none⟩ (.bool bad')) g p b bad' := by
  unfold Look at h ⊢
  simp [World.setCell, Array.getElem?_modify, h]
theorem Look.set0 {w : World} {g : Nat} {p b : Int} {bad : Bool} (h : Look w g p b bad) (p' : Int) : Look (w.setCell ⟨g, 0, none⟩ (.int .i64 p')) g p' b bad := by
  unfold Look at h ⊢
  simp [World.setCell, Array.getElem?_modify, h]
theorem Look.set1 {w : World} {g : Nat} {p b : Int} {bad : Bool} (h : Look w g p b bad) (b' : Int) : Look (w.setCell ⟨g, 1, none⟩ (.int .i64 b')) g p b' bad := by
  unfold Look at h ⊢
  simp [World.setCell, Array.getElem?_modify, h]
theorem Look.below {w w' : World} {g : Nat} {p b : Int} {bad : Bool} (h : Look w g p b bad) (hb : Below w.heap.size w w') : Look w' g p b bad := by
  have hlt : g < w.heap.size := (Array.getElem?_eq_some_iff.1 h).1
  unfold Look at h ⊢
  rw [hb.block g hlt]; exact h
/-- Nothing has turned but block g, and what is new. -/
theorem grown_set (w : World) (g i : Nat) (v : Value) : w.grownBy (w.setCell ⟨g, i, none⟩ v) (some g) :=
  ⟨rfl, rfl, rfl, by simp [World.setCell], fun k _ hne => Below.heap_setCell w ⟨g, i, none⟩ v k (by rintro rfl; exact hne rfl)⟩
theorem grown_below {w w' : World} (h : Below w.heap.size w w') (row : Option Nat) : w.grownBy w' row := ⟨h.os, h.tape, h.output, h.size, fun i hi _ => h.block i hi⟩

set_option maxHeartbeats 400000 in
theorem want_any (w : World) (g : Nat) (p b : Int) (bad ok : Bool) (h : Look w g p b bad) :
    Calls Tryz.prog 30 #[.pointer (some ⟨g, 0, none⟩), .bool ok] w fun e w' => e = .returned (.tuple #[]) ∧ w.grownBy w' (some g) ∧ Look w' g p b (bad || !ok) := by
  have hs := h.set (bad || !ok)
  have h2 := h.cell2
  have f2 := h.frozen 2
  have HS := Lib.hid hs
  clear h hs
  cases bad
  · go_enter Tryz.func30, Tryz.ntmps30
    go_wp2
    go_end0
    exact ⟨rfl, grown_set _ _ _ _, by simpa using HS.out⟩
  · go_enter Tryz.func30, Tryz.ntmps30
    go_wp2
    go_end0
    exact ⟨rfl, grown_set _ _ _ _, by simpa using HS.out⟩

/-- What part leaves: the looker's block, and what it says if nothing is bad. -/
def PartPost (g : Nat) (p b : Int) (bad : Bool) (w : World) (e : Ending) (w' : World) : Prop :=
  ∃ bad', e = .returned (.bool !bad') ∧ w.grownBy w' (some g) ∧ Look w' g (wrap64 (p + 1)) b bad' ∧ (bad' = false → bad = false ∧ wrap64 (p + 1) ≤ 400 ∧ b ≤ 2000)

set_option maxHeartbeats 400000 in
theorem part_any (w : World) (g : Nat) (p b deep : Int) (bad : Bool) (h : Look w g p b bad) :
    Calls Tryz.prog 29 #[.pointer (some ⟨g, 0, none⟩), .int .i64 deep] w (PartPost g p b bad w) := by
  have hl0 := h.set0 (wrap64 (p + 1))
  have h0 := h.cell0
  have h1 := h.cell1
  have h2 := h.cell2
  have f0 := h.frozen 0
  clear h
  by_cases c1 : wrap64 (p + 1) ≤ 400
  · by_cases h2000 : b ≤ 2000
    · by_cases c3 : deep ≤ 60
      · go_enter Tryz.func29, Tryz.ntmps29
        go_wp2_with (go_at_call 30; refine (want_any _ g _ _ _ _ hl0).mono ?_; rintro e w1 ⟨rfl, hg1, hl1⟩; have c2 := hl1.cell2)
        go_ret
        exact ⟨bad, by simp, (grown_set _ _ _ _).trans hg1, by simpa using hl1, fun hb => ⟨hb, c1, h2000⟩⟩
      · go_enter Tryz.func29, Tryz.ntmps29
        go_wp2_with (go_at_call 30; refine (want_any _ g _ _ _ _ hl0).mono ?_; rintro e w1 ⟨rfl, hg1, hl1⟩; have c2 := hl1.cell2)
        go_ret
        exact ⟨true, by simp, (grown_set _ _ _ _).trans hg1, by simpa using hl1, fun hb => absurd hb (by simp)⟩
    · go_enter Tryz.func29, Tryz.ntmps29
      go_wp2_with (go_at_call 30; refine (want_any _ g _ _ _ _ hl0).mono ?_; rintro e w1 ⟨rfl, hg1, hl1⟩; have c2 := hl1.cell2)
      go_ret
      exact ⟨true, by simp, (grown_set _ _ _ _).trans hg1, by simpa using hl1, fun hb => absurd hb (by simp)⟩
  · go_enter Tryz.func29, Tryz.ntmps29
    go_wp2_with (go_at_call 30; refine (want_any _ g _ _ _ _ hl0).mono ?_; rintro e w1 ⟨rfl, hg1, hl1⟩; have c2 := hl1.cell2)
    go_ret
    exact ⟨true, by simp, (grown_set _ _ _ _).trans hg1, by simpa using hl1, fun hb => absurd hb (by simp)⟩

/-- What is asked of utf8.ValidString; Tabs: what is asked of the world (the tables of package utf8). -/
def ValidSaid (Tabs : World → Prop) : Prop := ∀ (s : ByteArray) (w : World), s.size ≤ 9223372036854775807 → Tabs w →
  Calls Tryz.prog 14 #[.string s] w fun e w' => e = .returned (.bool (Lib.validD s.data.toList)) ∧ Below w.heap.size w w'

/-- What str leaves. -/
def StrPost (g : Nat) (p b : Int) (bad : Bool) (s : ByteArray) (w : World) (e : Ending) (w' : World) : Prop :=
  ∃ bad', e = .returned (.tuple #[]) ∧ w.grownBy w' (some g) ∧ Look w' g p (wrap64 (b + s.size)) bad' ∧ (bad' = false → bad = false ∧ wrap64 (b + s.size) ≤ 2000 ∧ Lib.validD s.data.toList = true)

set_option maxHeartbeats 400000 in
theorem str_any {Tabs : World → Prop} (hV : ValidSaid Tabs) {N : Nat} (hTk : ∀ w w' : World, ∀ g, N ≤ g → Tabs w → w.grownBy w' (some g) → Tabs w') (w : World) (g : Nat) (hNg : N ≤ g) (p b : Int) (bad : Bool) (s : ByteArray) (hT : Tabs w) (hs : s.size ≤ 9223372036854775807) (h : Look w g p b bad) :
    Calls Tryz.prog 31 #[.pointer (some ⟨g, 0, none⟩), .string s] w (StrPost g p b bad s w) := by
  have hl0 := h.set1 (wrap64 (b + s.size))
  have hT1 := hTk _ _ g hNg hT (grown_set w g 1 (.int .i64 (wrap64 (b + s.size))))
  have HV := Lib.hid hV
  have HT1 := Lib.hid hT1
  have h1 := h.cell1
  have f1 := h.frozen 1
  clear h hV hT hTk hT1
  by_cases c1 : wrap64 (b + s.size) ≤ 2000
  · go_enter Tryz.func31, Tryz.ntmps31
    go_wp2_with fail
    refine (HV.out _ _ hs HT1.out).mono ?_
    rintro e w1 ⟨rfl, hb1⟩
    have hl1 := hl0.below hb1
    obtain ⟨v, hv⟩ : ∃ v, v = Lib.validD s.data.toList := ⟨_, rfl⟩
    rw [← hv]
    have HVV := Lib.hid hv
    clear hv
    go_wp2_with (go_at_call 30; refine (want_any _ g _ _ _ _ hl1).mono ?_; rintro e w2 ⟨rfl, hg2, hl2⟩)
    go_end0
    refine ⟨bad || !v, rfl, ((grown_set _ _ _ _).trans (grown_below hb1 _)).trans hg2, hl2, fun hb => ?_⟩
    simp only [Bool.or_eq_false_iff, Bool.not_eq_false'] at hb
    exact ⟨hb.1, c1, HVV.out.symm.trans hb.2⟩
  · go_enter Tryz.func31, Tryz.ntmps31
    go_wp2_with (go_at_call 30; refine (want_any _ g _ _ _ _ hl0).mono ?_; rintro e w2 ⟨rfl, hg2, hl2⟩)
    go_end0
    exact ⟨true, rfl, (grown_set _ _ _ _).trans hg2, by simpa using hl2, by simp⟩

/-- It says something (true or false), and nothing has turned. -/
def SaysBool (w : World) (e : Ending) (w' : World) : Prop := ∃ b, e = .returned (.bool b) ∧ w = w'

set_option maxHeartbeats 400000 in
/-- zzFits2 says something, and turns nothing. -/
theorem fits2_any (w : World) (B : Nat) (A : Option Addr) (n c : Nat) (ks : List ByteArray) (h : Reads w B A (ks.map .string)) (hn : n = ks.length) (hm : n ≤ 140737488351232) :
    Calls Tryz.prog 13 #[.slice A n c] w (SaysBool w) := by
  by_cases hb : (2147483647 : Int) < (n : Int)
  · have hd : decide ((2147483647 : Int) < (n : Int)) = true := by simpa using hb
    clear h hn
    go_enter Tryz.func13, Tryz.ntmps13
    go_wp2
    go_ret
    exact ⟨_, rfl, rfl⟩
  · have hd : decide ((2147483647 : Int) < (n : Int)) = false := by simpa using hb
    have HN := Lib.hid hn
    clear hn
    go_enter Tryz.func13, Tryz.ntmps13
    go_wp2
    go_loop [4, 10] (fun _ i => ∃ k : Nat, k ≤ n ∧ i = .int .i64 k) (fun _ i => n - (intOf i).toNat)
    case atStart => exact ⟨0, Nat.zero_le _, rfl⟩
    case round =>
      obtain ⟨k, hk, rfl⟩ := hrel
      by_cases hlt : k < n
      · obtain ⟨s, hs⟩ : ∃ s, ks[k]? = some s := ⟨_, List.getElem?_eq_getElem (by rw [← HN.out]; exact hlt)⟩
        obtain ⟨ad, rfl, _, hc0⟩ := h (by intro e; have := congrArg List.length e; simp [← HN.out] at this; omega)
        have hc := hc0 k (.string s) (by simp [hs])
        clear hc0 h hs
        go_wp2
        · go_ret
          exact ⟨_, rfl, rfl⟩
        · go_round
          case rel => exact ⟨k + 1, by omega, by go_num⟩
          case measure => simp [intOf]; omega
      · go_wp2
        go_ret
        exact ⟨_, rfl, rfl⟩
end Go.Proofs.YtpigccnlembfdaaGreatDoor
