/- The plain trees that a Go value of the type impl.Value reads as, and what it means that one lies in memory. Conditions: none. -/
import Derived.Test.YtpigccnlembfdaaGreatDoorRows
import Derived.WalkKit
import Derived.WalkSpells
import Derived.WalkLawsBesides
import Derived.Lib.Hide
import Derived.Deep.Slices
import Derived.Deep.Draws
import Derived.Laws.OwnMore
import Derived.Deep.AppendLies
import Derived.Maps.AppendAt
namespace Go.Proofs.YtpigccnlembfdaaGreatDoor
open Go.RowKit

theorem block_of_add (a : Addr) (n : Nat) : (a.add n).block = a.block := by unfold Addr.add; split <;> rfl
theorem add_of_add (a : Addr) (i j : Nat) : (a.add i).add j = a.add (i + j) := by
  unfold Addr.add
  by_cases hi : i = 0 <;> by_cases hj : j = 0 <;> simp [hi, hj, Nat.add_assoc]

/-- A slice value that holds the cells xs, below block B (nil let in). -/
def Reads (w : World) (B : Nat) (A : Option Addr) (xs : List Value) : Prop :=
  xs ≠ [] → ∃ ad, A = some ad ∧ ad.block < B ∧ ∀ j u, xs[j]? = some u → w.cell? (ad.add j) = some u

/-- A tree: what a value of the type impl.Value is, with the addresses of its three slices. -/
inductive V where
  | mk (kind half : Int) (text : ByteArray) (aL : Option Addr) (cL : Nat) (list : List V) (aK : Option Addr) (cK : Nat) (keys : List ByteArray) (aV : Option Addr) (cV : Nat) (vals : List V)

namespace V
def kind : V → Int | mk k _ _ _ _ _ _ _ _ _ _ _ => k
def half : V → Int | mk _ h _ _ _ _ _ _ _ _ _ _ => h
def text : V → ByteArray | mk _ _ t _ _ _ _ _ _ _ _ _ => t
def list : V → List V | mk _ _ _ _ _ l _ _ _ _ _ _ => l
def keys : V → List ByteArray | mk _ _ _ _ _ _ _ _ k _ _ _ => k
def vals : V → List V | mk _ _ _ _ _ _ _ _ _ _ _ v => v
def cells : V → List Value
  | mk k h t aL cL l aK cK ks aV cV vs => [.int .i64 k, .int .i64 h, .string t, .slice aL l.length cL, .slice aK ks.length cK, .slice aV vs.length cV]
def val (x : V) : Value := .agg x.cells.toArray
theorem val_mk {k h t aL cL l aK cK ks aV cV vs} : (V.mk k h t aL cL l aK cK ks aV cV vs).val = .agg #[.int .i64 k, .int .i64 h, .string t, .slice aL l.length cL, .slice aK ks.length cK, .slice aV vs.length cV] := rfl
end V

/-- A slice value that holds trees, six cells each. -/
def RowsV (w : World) (B : Nat) (A : Option Addr) (l : List V) : Prop :=
  l ≠ [] → ∃ ad, A = some ad ∧ ad.block < B ∧ ∀ (i : Nat) (x : V), l[i]? = some x → ∀ (j : Nat) (u : Value), x.cells[j]? = some u → w.cell? (ad.add (i * 6 + j)) = some u

/-- What Go's own kinds and the reach bound of one node. -/
def V.Own : V → Prop
  | .mk k h t _ cL l _ cK ks _ cV vs => (-9223372036854775808 ≤ k ∧ k ≤ 9223372036854775807) ∧ (-9223372036854775808 ≤ h ∧ h ≤ 9223372036854775807) ∧ t.size ≤ 140737488351232 ∧
      l.length ≤ cL ∧ l.length ≤ 140737488351232 ∧ ks.length ≤ cK ∧ ks.length ≤ 140737488351232 ∧ vs.length ≤ cV ∧ vs.length ≤ 140737488351232 ∧ ∀ s ∈ ks, s.size ≤ 140737488351232

mutual
/-- The tree lies in the world, below block B. -/
def V.In (w : World) (B : Nat) : V → Prop
  | .mk k h t aL cL l aK cK ks aV cV vs => V.Own (.mk k h t aL cL l aK cK ks aV cV vs) ∧ RowsV w B aL l ∧ Reads w B aK (ks.map .string) ∧ RowsV w B aV vs ∧ AllIn w B l ∧ AllIn w B vs
def AllIn (w : World) (B : Nat) : List V → Prop
  | [] => True
  | x :: r => V.In w B x ∧ AllIn w B r
end

theorem AllIn.mem {w : World} {B : Nat} : ∀ {l : List V}, AllIn w B l → ∀ x ∈ l, V.In w B x
  | [], _, x, hx => by cases hx
  | y :: r, h, x, hx => by
    unfold AllIn at h
    rcases List.mem_cons.1 hx with rfl | hx
    · exact h.1
    · exact AllIn.mem h.2 x hx
theorem allIn_of {w : World} {B : Nat} : ∀ {l : List V}, (∀ x ∈ l, V.In w B x) → AllIn w B l
  | [], _ => by unfold AllIn; trivial
  | y :: r, h => by
    unfold AllIn
    exact ⟨h y (List.mem_cons_self ..), allIn_of fun x hx => h x (List.mem_cons_of_mem _ hx)⟩

theorem Reads.keep {w w' : World} {B : Nat} {A : Option Addr} {xs : List Value} (h : Reads w B A xs) (hk : ∀ p : Addr, p.block < B → w'.cell? p = w.cell? p) : Reads w' B A xs := fun hn => by
  obtain ⟨ad, e, hb, hc⟩ := h hn
  exact ⟨ad, e, hb, fun j u hu => (hk _ (by rw [block_of_add]; exact hb)).trans (hc j u hu)⟩
theorem Reads.more {w : World} {B B' : Nat} {A : Option Addr} {xs : List Value} (h : Reads w B A xs) (hB : B ≤ B') : Reads w B' A xs := fun hn => by
  obtain ⟨ad, e, hb, hc⟩ := h hn
  exact ⟨ad, e, by omega, hc⟩
theorem Reads.at_ {w : World} {B : Nat} {A : Option Addr} {xs : List Value} (h : Reads w B A xs) {k : Nat} (hk : k < xs.length) : ∃ ad, A = some ad ∧ w.cell? (ad.add k) = some xs[k] := by
  obtain ⟨ad, e, _, hc⟩ := h (by intro e; subst e; simp at hk)
  exact ⟨ad, e, hc k _ (List.getElem?_eq_getElem hk)⟩
theorem RowsV.keep {w w' : World} {B : Nat} {A : Option Addr} {l : List V} (h : RowsV w B A l) (hk : ∀ p : Addr, p.block < B → w'.cell? p = w.cell? p) : RowsV w' B A l := fun hn => by
  obtain ⟨ad, e, hb, hc⟩ := h hn
  exact ⟨ad, e, hb, fun i x hx j u hu => (hk _ (by rw [block_of_add]; exact hb)).trans (hc i x hx j u hu)⟩
theorem RowsV.more {w : World} {B B' : Nat} {A : Option Addr} {l : List V} (h : RowsV w B A l) (hB : B ≤ B') : RowsV w B' A l := fun hn => by
  obtain ⟨ad, e, hb, hc⟩ := h hn
  exact ⟨ad, e, by omega, hc⟩
theorem RowsV.at_ {w : World} {B : Nat} {A : Option Addr} {l : List V} (h : RowsV w B A l) {k : Nat} (hk : k < l.length) :
    ∃ ad, A = some ad ∧ ∀ (j : Nat) (u : Value), l[k].cells[j]? = some u → w.cell? (ad.add (k * 6 + j)) = some u := by
  obtain ⟨ad, e, _, hc⟩ := h (by intro e; subst e; simp at hk)
  exact ⟨ad, e, hc k _ (List.getElem?_eq_getElem hk)⟩

/-- The six cells of one tree of a row, as a walk that loads it asks for them. -/
theorem six {w : World} {a : Addr} {i : Nat} {k h t aL cL l aK cK ks aV cV vs}
    (hc : ∀ (j : Nat) (u : Value), (V.mk k h t aL cL l aK cK ks aV cV vs).cells[j]? = some u → w.cell? (a.add (i * 6 + j)) = some u) :
    w.cell? (a.add (i * 6)) = some (.int .i64 k) ∧ w.cell? ⟨(a.add (i * 6)).block, (a.add (i * 6)).off + 1, none⟩ = some (.int .i64 h) ∧ w.cell? ⟨(a.add (i * 6)).block, (a.add (i * 6)).off + 2, none⟩ = some (.string t) ∧
    w.cell? ⟨(a.add (i * 6)).block, (a.add (i * 6)).off + 3, none⟩ = some (.slice aL l.length cL) ∧ w.cell? ⟨(a.add (i * 6)).block, (a.add (i * 6)).off + 4, none⟩ = some (.slice aK ks.length cK) ∧
    w.cell? ⟨(a.add (i * 6)).block, (a.add (i * 6)).off + 5, none⟩ = some (.slice aV vs.length cV) := by
  have e : ∀ j, j ≠ 0 → a.add (i * 6 + j) = ⟨(a.add (i * 6)).block, (a.add (i * 6)).off + j, none⟩ := fun j hj => by
    rw [← add_of_add]; generalize a.add (i * 6) = b; simp [Addr.add, hj]
  have h1 := hc 1 _ rfl
  have h2 := hc 2 _ rfl
  have h3 := hc 3 _ rfl
  have h4 := hc 4 _ rfl
  have h5 := hc 5 _ rfl
  rw [e _ (by decide)] at h1 h2 h3 h4 h5
  exact ⟨hc 0 _ rfl, h1, h2, h3, h4, h5⟩

mutual
theorem V.In.keep {w w' : World} {B : Nat} (hk : ∀ p : Addr, p.block < B → w'.cell? p = w.cell? p) : ∀ {x : V}, V.In w B x → V.In w' B x
  | .mk k h t aL cL l aK cK ks aV cV vs, hx => by
    unfold V.In at hx ⊢
    exact ⟨hx.1, hx.2.1.keep hk, hx.2.2.1.keep hk, hx.2.2.2.1.keep hk, AllIn.keep hk hx.2.2.2.2.1, AllIn.keep hk hx.2.2.2.2.2⟩
theorem AllIn.keep {w w' : World} {B : Nat} (hk : ∀ p : Addr, p.block < B → w'.cell? p = w.cell? p) : ∀ {l : List V}, AllIn w B l → AllIn w' B l
  | [], _ => by unfold AllIn; trivial
  | x :: r, h => by
    unfold AllIn at h ⊢
    exact ⟨V.In.keep hk h.1, AllIn.keep hk h.2⟩
end
mutual
theorem V.In.more {w : World} {B B' : Nat} (hB : B ≤ B') : ∀ {x : V}, V.In w B x → V.In w B' x
  | .mk k h t aL cL l aK cK ks aV cV vs, hx => by
    unfold V.In at hx ⊢
    exact ⟨hx.1, hx.2.1.more hB, hx.2.2.1.more hB, hx.2.2.2.1.more hB, AllIn.more hB hx.2.2.2.2.1, AllIn.more hB hx.2.2.2.2.2⟩
theorem AllIn.more {w : World} {B B' : Nat} (hB : B ≤ B') : ∀ {l : List V}, AllIn w B l → AllIn w B' l
  | [], _ => by unfold AllIn; trivial
  | x :: r, h => by
    unfold AllIn at h ⊢
    exact ⟨V.In.more hB h.1, AllIn.more hB h.2⟩
end
theorem V.In.grown {w w' : World} {B : Nat} {row : Option Nat} {x : V} (h : V.In w B x) (hg : w.grownBy w' row) (hB : B ≤ w.heap.size) (hr : ∀ g, row = some g → B ≤ g) : V.In w' B x :=
  h.keep fun p hp => World.cell?_of_block (hg.block p.block (by omega) (fun e => by have := hr _ e.symm; omega))
theorem V.In.below {w w' : World} {B B' : Nat} {x : V} (h : V.In w B x) (hb : Below B' w w') (hB : B ≤ B') : V.In w' B x := h.keep fun _ hp => hb.cell (by omega)

mutual
/-- The depth of a tree, and of a list of them. -/
def V.deep : V → Nat
  | .mk _ _ _ _ _ l _ _ _ _ _ vs => max (deepAll l) (deepAll vs) + 1
def deepAll : List V → Nat
  | [] => 0
  | x :: r => max x.deep (deepAll r)
end
theorem deep_mem : ∀ {l : List V} {x : V}, x ∈ l → x.deep ≤ deepAll l
  | y :: r, x, hx => by
    unfold deepAll
    rcases List.mem_cons.1 hx with rfl | hx
    · omega
    · have := deep_mem hx; omega
theorem deep_list {k h t aL cL l aK cK ks aV cV vs} {x : V} (hx : x ∈ l) : x.deep < (V.mk k h t aL cL l aK cK ks aV cV vs).deep := by
  have := deep_mem hx; show x.deep < max (deepAll l) (deepAll vs) + 1; omega
theorem deep_vals {k h t aL cL l aK cK ks aV cV vs} {x : V} (hx : x ∈ vs) : x.deep < (V.mk k h t aL cL l aK cK ks aV cV vs).deep := by
  have := deep_mem hx; show x.deep < max (deepAll l) (deepAll vs) + 1; omega
end Go.Proofs.YtpigccnlembfdaaGreatDoor
