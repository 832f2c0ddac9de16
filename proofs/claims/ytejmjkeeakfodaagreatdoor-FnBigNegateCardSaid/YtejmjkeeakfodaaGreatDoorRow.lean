/- Rows of bytes that a call owns: one cell is written, one is read; the row as a string. Conditions: as each theorem states. -/
import Derived.Test.YtejmjkeeakfodaaGreatDoorNat
import Derived.Test.YtejmjkeeakfodaaGreatDoorDigs
import Derived.Lib.BufferRead
import Derived.Laws.IdiomStrings
import Derived.Lib.AppendStr
import Derived.Lib.SlBytesConst
namespace Go.Proofs.YtejmjkeeakfodaaGreatDoor
open Go.RowKit

def encB (l : List UInt8) : List Value := l.map fun b => Value.int .u8 b.toNat
theorem encB_append (a b : List UInt8) : encB (a ++ b) = encB a ++ encB b := by simp [encB]
theorem own_set {w : World} {base : Nat} {e : TypeId} {n g cap i : Nat} {xs : List Value} (h : w.ownsRow base e 1 (.slice (some ⟨g, 0, none⟩) n cap) n xs) (hi : i < n) (u : Value) :
    (w.setCell ⟨g, i, none⟩ u).ownsRow base e 1 (.slice (some ⟨g, 0, none⟩) n cap) n (xs.set i u) := by
  refine ⟨by rw [List.length_set]; exact h.1, ?_⟩
  rcases h.2 with ⟨hv, h0⟩ | ⟨g', cap', cur, hv, hb, hg, h1, h2, h3, h4⟩
  · omega
  · cases hv
    refine Or.inr ⟨g, cap, cur.setIfInBounds i u, rfl, hb, ?_, h1, h2, by simpa using h3, ?_⟩
    · simp [World.setCell, Array.getElem?_modify, hg]
    · rw [← h4]
      simp [List.take_set]
theorem own_cell {w : World} {base : Nat} {e : TypeId} {n g cap i : Nat} {xs : List Value} {u : Value} (h : w.ownsRow base e 1 (.slice (some ⟨g, 0, none⟩) n cap) n xs) (hu : xs[i]? = some u) : w.cell? ⟨g, i, none⟩ = some u := by
  have := h.cells rfl i u hu
  rwa [show (⟨g, 0, none⟩ : Addr).add i = ⟨g, i, none⟩ by unfold Addr.add; split <;> simp_all] at this
theorem own_frozen {w : World} {base : Nat} {e : TypeId} {n g cap : Nat} {xs : List Value} (h : w.ownsRow base e 1 (.slice (some ⟨g, 0, none⟩) n cap) n xs) (hn : 0 < n) (i : Nat) : w.frozen? ⟨g, i, none⟩ = false := by
  rcases h.2 with ⟨hv, h0⟩ | ⟨g', cap', cur, hv, hb, hg, h1⟩
  · omega
  · cases hv
    simp [World.frozen?, hg]
theorem conv_own {P : Program} {w : World} {base : Nat} {src dst e : TypeId} {v : Value} {l : List UInt8} (hs : P.underlying src = some (.slice e)) (he : P.underlying e = some (.int .u8)) (hd : P.underlying dst = some .string) (h : w.ownsRow base e 1 v l.length (encB l)) :
    (convert src dst v).run P w = .ok (.string ⟨l.toArray⟩) w := by
  rcases h.2 with ⟨rfl, h0⟩ | ⟨g, cap, cur, rfl, hb, hg, r⟩
  · obtain rfl : l = [] := List.length_eq_zero_iff.1 h0
    exact Lib.run_convert_nil_bytes w src dst e 0 hs he hd
  · refine run_convert_bytes_back w src dst e _ cap l hs he hd fun j hj => ?_
    exact h.cells rfl _ _ (by simp [encB, List.getElem?_eq_getElem hj])
theorem info_u8 : (Tryz.prog.info? 5).map (fun i => (i.zero, i.size, i.bytes)) = some (some (.int .u8 0), 1, 1) := by kernel_rfl
/-- The digits made so far, as bytes. -/
def dbytes (sd : List Nat) : List UInt8 := sd.map byteOf
theorem dbytes_snoc (sd : List Nat) (d : Nat) : dbytes (sd ++ [d]) = dbytes sd ++ [byteOf d] := by simp [dbytes]
/-- What text gives. -/
def textOf (V : Nat) (neg : Bool) : List UInt8 := if V = 0 then [48] else if neg then 45 :: Lib.decDigits V else Lib.decDigits V
/-- A slice of bytes, not empty, whose bytes lie in memory. -/
def BytesAt (w : World) (v : Value) (l : List UInt8) : Prop := ∃ ad c, v = .slice (some ad) l.length c ∧ ∀ j (hj : j < l.length), w.cell? (ad.add j) = some (.int .u8 (l[j].toNat : Int))
theorem BytesAt.of_own {w : World} {base : Nat} {v : Value} {l : List UInt8} (h : w.ownsRow base 5 1 v l.length (encB l)) (hne : l ≠ []) : BytesAt w v l := by
  rcases h.2 with ⟨rfl, h0⟩ | ⟨g, cap, cur, rfl, hb, hg, r⟩
  · exact absurd (List.length_eq_zero_iff.1 h0) hne
  · exact ⟨_, cap, rfl, fun j hj => h.cells rfl _ _ (by simp [encB, List.getElem?_eq_getElem hj])⟩
theorem BytesAt.conv {w : World} {v : Value} {l : List UInt8} (h : BytesAt w v l) : (convert 61 9 v).run Tryz.prog w = .ok (.string ⟨l.toArray⟩) w := by
  obtain ⟨ad, c, rfl, hc⟩ := h
  exact run_convert_bytes_back w _ _ _ ad c l Tryz.underlying61 Tryz.underlying5 Tryz.underlying9 hc
/-- What text leaves. -/
def TextPost (V : Nat) (neg : Bool) (w : World) (e : Ending) (w' : World) : Prop := ∃ v', e = .returned v' ∧ Below w.heap.size w w' ∧ BytesAt w' v' (textOf V neg)
end Go.Proofs.YtejmjkeeakfodaaGreatDoor
