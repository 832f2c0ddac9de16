/- What the loop of impl.mapFromGo has made so far, and its steps; the sorted keys. Conditions: as each theorem states. -/
import Derived.Test.YtpigccnlembfdaaDoorFromList
import Derived.Test.YtpigccnlembfdaaDoorKeys
import Derived.Test.YtpigccnlembfdaaDoorIter
namespace Go.Proofs.YtpigccnlembfdaaDoor
open Go.RowKit Go.Maps

/-- Two rows may have turned. -/
structure Two (w w' : World) (r s : Option Nat) : Prop where
  os : w'.os = w.os
  tape : w'.tape = w.tape
  output : w'.output = w.output
  size : w.heap.size ≤ w'.heap.size
  block : ∀ i, i < w.heap.size → some i ≠ r → some i ≠ s → w'.heap[i]? = w.heap[i]?
theorem Two.refl (w : World) (r s : Option Nat) : Two w w r s := ⟨rfl, rfl, rfl, Nat.le_refl _, fun _ _ _ _ => rfl⟩
theorem Two.alloc {w w' : World} {r s : Option Nat} (h : Two w w' r s) (o : Obj) : Two w (w'.alloc o) r s :=
  ⟨h.os, h.tape, h.output, by have := h.size; simp; omega, fun i hi h1 h2 => (Below.heap_alloc _ _ _ (by have := h.size; omega)).trans (h.block i hi h1 h2)⟩
theorem Two.drew {w w' : World} {r s : Option Nat} (h : Two w w' r s) : Two w w'.drew r s := ⟨h.os, h.tape, h.output, h.size, h.block⟩
theorem Two.left {w w' w'' : World} {r s : Option Nat} (h : Two w w' r s) (hg : w'.grownBy w'' r) : Two w w'' r s :=
  ⟨hg.os.trans h.os, hg.tape.trans h.tape, hg.output.trans h.output, Nat.le_trans h.size hg.size, fun i hi h1 h2 => (hg.block i (by have := h.size; omega) h1).trans (h.block i hi h1 h2)⟩
theorem Two.right {w w' w'' : World} {r s : Option Nat} (h : Two w w' r s) (hg : w'.grownBy w'' s) : Two w w'' r s :=
  ⟨hg.os.trans h.os, hg.tape.trans h.tape, hg.output.trans h.output, Nat.le_trans h.size hg.size, fun i hi h1 h2 => (hg.block i (by have := h.size; omega) h2).trans (h.block i hi h1 h2)⟩
theorem Two.one {w w' : World} {r : Option Nat} (h : Two w w' r none) : w.grownBy w' r := ⟨h.os, h.tape, h.output, h.size, fun i hi h1 => h.block i hi h1 (by simp)⟩

theorem new_at (w : World) (o : Obj) (n : Nat) (h : n = w.heap.size) : (w.alloc o).heap[n]? = some o := by subst h; exact heap_alloc_new w o
theorem old_at {w : World} {o o' : Obj} {n : Nat} (h : n < w.heap.size) (hw : w.heap[n]? = some o') : (w.alloc o).heap[n]? = some o' := (Below.heap_alloc w o n h).trans hw
theorem drew_at {w : World} {o' : Obj} {n : Nat} (hw : w.heap[n]? = some o') : w.drew.heap[n]? = some o' := hw

/-- The box of the value that is being made. -/
def six6 (a b : Value) : Array Value := #[.int .i64 6, .int .i64 0, .string ⟨#[]⟩, nils, a, b]
theorem set45 (a b c d : Value) : ((six6 a b).setIfInBounds 4 c).setIfInBounds 5 d = six6 c d := rfl

structure MF (w w3 wr : World) (ks : List ByteArray) (vs : List J) (k : Nat) (L : List V) (sk sv : Value) : Prop where
  grow : w3.grownBy wr (some (w.heap.size + 1))
  out : Cells wr (w.heap.size + 1) 26 (six6 sk sv)
  ownK : wr.ownsRow w3.heap.size 9 1 sk k ((ks.take k).map .string)
  ownV : wr.ownsRow w3.heap.size 26 6 sv k (L.flatMap V.cells)
  apart : ∀ b, sk.ownBlock = some b → sv.ownBlock ≠ some b
  len : L.length = k
  toJ : toJAll L = vs.take k
  good : GoodAll L
  parts : partsAll L = jpartsAll (vs.take k)
  all : AllIn wr wr.heap.size L
  blocks : BlocksAll (fun b => (w3.heap.size ≤ b ∧ sk.ownBlock ≠ some b ∧ sv.ownBlock ≠ some b) ∧ b < wr.heap.size) L

theorem take_snocK (l : List ByteArray) (k : Nat) (y : ByteArray) (h : l[k]? = some y) : l.take (k + 1) = l.take k ++ [y] := by
  obtain ⟨hlt, rfl⟩ := List.getElem?_eq_some_iff.1 h
  rw [List.take_add_one, List.getElem?_eq_getElem hlt]; rfl

theorem MF.step {w w3 wr w2 w5 : World} {ks : List ByteArray} {vs : List J} {k : Nat} {L : List V} {sk sv : Value} {s : ByteArray} {j : J} {X : V} {g cap g' cap' : Nat} (h : MF w w3 wr ks vs k L sk sv) (hs : ks[k]? = some s) (hj : vs[k]? = some j)
    (h31 : w.heap.size + 1 < w3.heap.size) (hb2 : Below wr.heap.size wr w2) (hin : X.In w2 w2.heap.size) (hbl : X.Blocks (From wr.heap.size)) (hjx : X.toJ = j) (hgx : X.Good) (hpx : X.parts = j.parts)
    (hT : Two w2 w5 sk.ownBlock sv.ownBlock)
    (hownK : w5.ownsRow w3.heap.size 9 1 (.slice (some ⟨g, 0, none⟩) (k + 1) cap) (k + 1) ((ks.take k).map .string ++ [.string s]))
    (hownV : w5.ownsRow w3.heap.size 26 6 (.slice (some ⟨g', 0, none⟩) (k + 1) cap') (k + 1) (L.flatMap V.cells ++ X.cells))
    (hlK : sk.ownBlock = some g ∨ w2.heap.size ≤ g) (hlV : sv.ownBlock = some g' ∨ w2.heap.size ≤ g') (hne : g ≠ g') :
    MF w w3 ((w5.setCell ⟨w.heap.size + 1, 4, none⟩ (.slice (some ⟨g, 0, none⟩) (k + 1) cap)).setCell ⟨w.heap.size + 1, 5, none⟩ (.slice (some ⟨g', 0, none⟩) (k + 1) cap')) ks vs (k + 1) (L ++ [X]) (.slice (some ⟨g, 0, none⟩) (k + 1) cap) (.slice (some ⟨g', 0, none⟩) (k + 1) cap') := by
  have holK := h.ownK.lt
  have holV := h.ownV.lt
  have hgK := hownK.lt g rfl
  have hgV := hownV.lt g' rfl
  have hout := h.out.lt
  have hs2 := hb2.size
  have hs5 := hT.size
  have hs3 := h.grow.size
  have hgs : w5.grownBy ((w5.setCell ⟨w.heap.size + 1, 4, none⟩ (.slice (some ⟨g, 0, none⟩) (k + 1) cap)).setCell ⟨w.heap.size + 1, 5, none⟩ (.slice (some ⟨g', 0, none⟩) (k + 1) cap')) (some (w.heap.size + 1)) :=
    (grown_set w5 (w.heap.size + 1) 4 _).trans (grown_set _ (w.heap.size + 1) 5 _)
  have hO5 : Cells w5 (w.heap.size + 1) 26 (six6 sk sv) :=
    (hT.block _ (by omega) (fun e => by have := holK _ e.symm; omega) (fun e => by have := holV _ e.symm; omega)).trans (h.out.below hb2)
  have hO6 : Cells ((w5.setCell ⟨w.heap.size + 1, 4, none⟩ (.slice (some ⟨g, 0, none⟩) (k + 1) cap)).setCell ⟨w.heap.size + 1, 5, none⟩ (.slice (some ⟨g', 0, none⟩) (k + 1) cap')) (w.heap.size + 1) 26 (six6 (.slice (some ⟨g, 0, none⟩) (k + 1) cap) (.slice (some ⟨g', 0, none⟩) (k + 1) cap')) := by
    have := (hO5.set 4 (.slice (some ⟨g, 0, none⟩) (k + 1) cap)).set 5 (.slice (some ⟨g', 0, none⟩) (k + 1) cap')
    rw [set45] at this; exact this
  generalize ((w5.setCell ⟨w.heap.size + 1, 4, none⟩ (.slice (some ⟨g, 0, none⟩) (k + 1) cap)).setCell ⟨w.heap.size + 1, 5, none⟩ (.slice (some ⟨g', 0, none⟩) (k + 1) cap')) = w6 at *
  have hs6 := hgs.size
  have hblk : ∀ b, b < w2.heap.size → sk.ownBlock ≠ some b → sv.ownBlock ≠ some b → b ≠ w.heap.size + 1 → w6.heap[b]? = w2.heap[b]? := fun b h1 h2 h3 h4 => by
    rw [hgs.block b (by omega) (fun e => h4 (by injection e)), hT.block b h1 (fun e => h2 e.symm) (fun e => h3 e.symm)]
  refine ⟨⟨hgs.os.trans (hT.os.trans (hb2.os.trans h.grow.os)), hgs.tape.trans (hT.tape.trans (hb2.tape.trans h.grow.tape)), hgs.output.trans (hT.output.trans (hb2.output.trans h.grow.output)), by omega, fun i hi hn => ?_⟩, hO6, ?_, ?_, ?_, by simp [h.len], ?_, goodAll_snoc _ _ h.good hgx, ?_, allIn_snoc ?_ ?_, blocksAll_snoc ?_ ?_⟩
  · rw [hblk i (by omega) (fun e => by have := holK _ e; omega) (fun e => by have := holV _ e; omega) (fun e => hn (by rw [e])), hb2.block i (by omega)]
    exact h.grow.block i hi hn
  · rw [take_snocK ks k s hs, List.map_append]
    exact hownK.kept hgs (Or.inr (by simp [Value.ownBlock]; omega))
  · rw [flat_snoc]
    exact hownV.kept hgs (Or.inr (by simp [Value.ownBlock]; omega))
  · intro b h1 h2
    simp [Value.ownBlock] at h1 h2
    omega
  · rw [toJAll_snoc, h.toJ, hjx, take_snocJ vs k j hj]
  · rw [partsAll_snoc, h.parts, hpx, take_snocJ vs k j hj, jpartsAll_snoc]; simp
  · refine AllIn.stay (B := wr.heap.size) (by omega) (fun p hp hlt => ?_) h.all h.blocks
    refine World.cell?_of_block ?_
    rw [hblk p.block (by omega) hp.1.2.1 hp.1.2.2 (by omega)]
    exact hb2.block _ hlt
  · refine V.In.stay (B := w2.heap.size) (by omega) (fun p hp hlt => World.cell?_of_block ?_) hin hbl
    simp only [From] at hp
    exact hblk p.block hlt (fun e => by have := holK _ e; omega) (fun e => by have := holV _ e; omega) (by omega)
  · refine h.blocks.more fun b hb => ⟨⟨hb.1.1, fun e => ?_, fun e => ?_⟩, by omega⟩
    · simp [Value.ownBlock] at e
      subst e
      rcases hlK with h1 | h1
      · exact hb.1.2.1 h1
      · omega
    · simp [Value.ownBlock] at e
      subst e
      rcases hlV with h1 | h1
      · exact hb.1.2.2 h1
      · omega
  · refine (hbl.within hin).more fun b hb => ?_
    simp only [From] at hb
    refine ⟨⟨by omega, fun e => ?_, fun e => ?_⟩, by omega⟩
    · simp [Value.ownBlock] at e
      subst e
      rcases hlK with h1 | h1
      · have := holK _ h1; omega
      · omega
    · simp [Value.ownBlock] at e
      subst e
      rcases hlV with h1 | h1
      · have := holV _ h1; omega
      · omega

/-- One more entry: the keys' row is written first, then the values'. -/
theorem MF.close {w w3 wr w2 W wK W' wV : World} {ks : List ByteArray} {vs : List J} {k : Nat} {L : List V} {sk sv : Value} {s : ByteArray} {j : J} {X : V} {g cap g' cap' : Nat} (h : MF w w3 wr ks vs k L sk sv) (hs : ks[k]? = some s) (hj : vs[k]? = some j)
    (h31 : w.heap.size + 1 < w3.heap.size) (hb2 : Below wr.heap.size wr w2) (hin : X.In w2 w2.heap.size) (hbl : X.Blocks (From wr.heap.size)) (hjx : X.toJ = j) (hgx : X.Good) (hpx : X.parts = j.parts)
    (hTK : Two w2 W none none) (hgK : W.grownBy wK sk.ownBlock)
    (hownK : wK.ownsRow w3.heap.size 9 1 (.slice (some ⟨g, 0, none⟩) (k + 1) cap) (k + 1) ((ks.take k).map .string ++ [.string s]))
    (hatK : sk.ownBlock = some g ∨ w2.heap.size ≤ g) (hltK : g < wK.heap.size) (hTV : Two wK W' none none) (hgV : W'.grownBy wV sv.ownBlock)
    (hownV : wV.ownsRow w3.heap.size 26 6 (.slice (some ⟨g', 0, none⟩) (k + 1) cap') (k + 1) (L.flatMap V.cells ++ X.cells))
    (hatV : sv.ownBlock = some g' ∨ wK.heap.size ≤ g') :
    MF w w3 ((wV.setCell ⟨w.heap.size + 1, 4, none⟩ (.slice (some ⟨g, 0, none⟩) (k + 1) cap)).setCell ⟨w.heap.size + 1, 5, none⟩ (.slice (some ⟨g', 0, none⟩) (k + 1) cap')) ks vs (k + 1) (L ++ [X]) (.slice (some ⟨g, 0, none⟩) (k + 1) cap) (.slice (some ⟨g', 0, none⟩) (k + 1) cap') := by
  have holK := h.ownK.lt
  have holV := h.ownV.lt
  have hs2 := hb2.size
  have hsK : w2.heap.size ≤ wK.heap.size := Nat.le_trans hTK.size hgK.size
  have hw : ∀ (a b : World) (r s : Option Nat), Two a b none none → Two a b r s := fun a b r s h => ⟨h.os, h.tape, h.output, h.size, fun i hi _ _ => h.block i hi (by simp) (by simp)⟩
  have hT1 : Two w2 wK sk.ownBlock sv.ownBlock := (hw _ _ _ _ hTK).left hgK
  have hT2 : Two wK wV none sv.ownBlock := (hw _ _ _ _ hTV).right hgV
  have hT : Two w2 wV sk.ownBlock sv.ownBlock := ⟨hT2.os.trans hT1.os, hT2.tape.trans hT1.tape, hT2.output.trans hT1.output, Nat.le_trans hT1.size hT2.size, fun i hi h1 h2 => (hT2.block i (by omega) (by simp) h2).trans (hT1.block i hi h1 h2)⟩
  have hgg : wK.grownBy wV sv.ownBlock := ⟨hT2.os, hT2.tape, hT2.output, hT2.size, fun i hi h1 => hT2.block i hi (by simp) h1⟩
  have hK2 := hownK.kept hgg (by
    refine Or.inr (fun e => ?_)
    have e : some g = sv.ownBlock := e
    rcases hatK with h1 | h1
    · exact h.apart g h1 e.symm
    · have := holV g e.symm; omega)
  refine MF.step h hs hj h31 hb2 hin hbl hjx hgx hpx hT hK2 hownV hatK (hatV.imp_right (fun e => by omega)) (fun e => ?_)
  subst e
  rcases hatV with h1 | h1
  · rcases hatK with h2 | h2
    · exact h.apart g h2 h1
    · have := holV g h1; omega
  · omega

/-- The sorted keys of a map. -/
theorem sortedKeys_any (W : World) (N b n : Nat) (D : DataW Value) (hown : W.ownsMap Tryd.prog 9 heldR b n D) (hN : W.heap.size = N) (hsz : Maps.size D ≤ 1000000) {ks : List ByteArray} (hr : Rising ks) (hm : ∀ s, (∃ v, mapOf D s = some v) ↔ s ∈ ks) (k : Nat) (hkl : ks.length = k) :
    Calls Tryd.prog 43 #[.func (.func 50) #[] #[.pointer (some ⟨N, 0, none⟩)]] (W.alloc (.cells #[.map (some b)] 42)) fun e w' => ∃ A c, e = .returned (.slice A k c) ∧ k ≤ c ∧ Below (N + 1) (W.alloc (.cells #[.map (some b)] 42)) w' ∧
      (ks ≠ [] → ∃ ad, A = some ad ∧ N < ad.block ∧ ad.block < w'.heap.size ∧ ∀ (i : Nat) (s : ByteArray), ks[i]? = some s → w'.cell? (ad.add i) = some (.string s)) := by
  subst hN
  subst hkl
  refine (callsIn_wide.1 (Tryd.slices_Sorted_keys_43_44 b n D heldR W hown (by unfold maxLen; omega) (by omega))).mono ?_
  rintro e w' ⟨v, ss, rfl, hS, hrow, _, hb⟩
  have hk := sorted_keys Tryd.underlying9 hown hr hm hS
  rw [hk] at hrow
  have hlen : ss.length = ks.length := by
    have := congrArg List.length hk
    simpa using this
  rw [hlen] at hrow
  rw [World.size_alloc] at hb hrow
  have hrow0 := hrow
  rcases hrow.2 with ⟨rfl, h0⟩ | ⟨g, cap, cur, rfl, hbg, hg, h1, _⟩
  · exact ⟨none, 0, by rw [h0], by omega, hb, fun hn => absurd (List.length_eq_zero_iff.1 h0) hn⟩
  · refine ⟨_, cap, rfl, h1, hb, fun _ => ⟨⟨g, 0, none⟩, rfl, by show W.heap.size < g; omega, (Array.getElem?_eq_some_iff.1 hg).1, fun i s hs => ?_⟩⟩
    exact hrow0.cells rfl _ _ (by rw [List.getElem?_map, hs]; rfl)
end Go.Proofs.YtpigccnlembfdaaDoor
