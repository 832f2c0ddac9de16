/- The walks of spec.Fit and of fine: what they let through is right. Conditions: the tree lies in the world; the tables of package utf8 lie there. -/
import Derived.Test.YtpigccnlembfdaaGreatDoorFit
namespace Go.Proofs.YtpigccnlembfdaaGreatDoor
open Go.RowKit

theorem below_of_grown {w w1 w' : World} {g : Nat} (h1 : Below w.heap.size w w1) (h : w1.grownBy w' (some g)) (hg : w.heap.size ≤ g) : Below w.heap.size w w' :=
  ⟨h.os.trans h1.os, h.tape.trans h1.tape, h.output.trans h1.output, Nat.le_trans h1.size h.size, fun i hi =>
    (h.block i (Nat.lt_of_lt_of_le hi h1.size) (fun e => by injection e; omega)).trans (h1.block i hi)⟩

/-- What Fit says: if yes, the value is right and small. -/
def FitPost (x : V) (w : World) (e : Ending) (w' : World) : Prop := ∃ b, e = .returned (.bool b) ∧ Below w.heap.size w w' ∧ (b = true → x.Good ∧ x.parts ≤ 400 ∧ x.bytes ≤ 2000)

set_option maxRecDepth 100000 in
set_option maxHeartbeats 1000000 in
theorem fit_any {Tabs : World → Prop} (hV : ValidSaid Tabs) {N : Nat} (hTk : ∀ w w' : World, ∀ g, N ≤ g → Tabs w → w.grownBy w' (some g) → Tabs w') (x : V) (w : World) (B : Nat) (hin : x.In w B) (hB : B ≤ w.heap.size) (hNw : N ≤ w.heap.size) (hT : Tabs w) :
    Calls Tryz.prog 7 #[x.val] w (FitPost x w) := by
  have hC : ∀ w', Below w.heap.size w w' → Look w' (w.heap.size + 1) 0 0 false → Calls Tryz.prog 18 #[.pointer (some ⟨w.heap.size + 1, 0, none⟩), x.val, .int .i64 0] w' (ValuePost (w.heap.size + 1) 0 0 false x w') := fun w' hb hl =>
    value_any hV hTk x.deep x w' B (w.heap.size + 1) 0 0 0 false (Nat.le_refl _) (hin.below hb hB) (by omega) (by omega) (hTk w w' (w.heap.size + 1) (by omega) hT (grown_below hb _)) hl (fun _ => by omega)
  obtain ⟨k, h, t, aL, cL, l, aK, cK, ks, aV, cV, vs⟩ := x
  rw [V.val_mk] at hC ⊢
  have HC := Lib.hid hC
  clear hC hin hT hTk hV
  go_enter Tryz.func7, Tryz.ntmps7
  have hb1 : ∀ o1 o2, Below w.heap.size w ((w.alloc o1).alloc o2) := fun o1 o2 => ((Below.refl _ _).alloc (Nat.le_refl _) _).alloc (by simp) _
  have hl1 : ∀ o1, Look ((w.alloc o1).alloc (.cells #[.int .i64 0, .int .i64 0, .bool false] 44)) (w.heap.size + 1) 0 0 false := fun o1 => by
    have := heap_alloc_new (w.alloc o1) (.cells #[.int .i64 0, .int .i64 0, .bool false] 44)
    simpa [Look] using this
  have HB1 := Lib.hid hb1
  have HL1 := Lib.hid hl1
  clear hb1 hl1
  go_wp2_with (go_at_call 18; refine (HC.out _ (HB1.out _ _) (HL1.out _)).mono ?_; rintro e w2 ⟨p', b', bad', rfl, hg2, hl2, hx2⟩; have c2 := hl2.cell2)
  go_ret
  refine ⟨!bad', rfl, below_of_grown (HB1.out _ _) hg2 (by omega), fun hb => ?_⟩
  obtain ⟨_, h1, h2, h3, h4, h5⟩ := hx2 (by simpa using hb)
  exact ⟨h5, by omega, by omega⟩

/-- What fine says of one value: if yes, it is right and small, and its text is short. -/
def FinePost (x : V) (w : World) (e : Ending) (w' : World) : Prop := ∃ b, e = .returned (.bool b) ∧ Below w.heap.size w w' ∧ (b = true → x.Good ∧ x.parts ≤ 400 ∧ x.bytes ≤ 2000 ∧ x.text.size ≤ 4096)

set_option maxRecDepth 100000 in
set_option maxHeartbeats 1000000 in
theorem fine_any {Tabs : World → Prop} (hV : ValidSaid Tabs) {N : Nat} (hTk : ∀ w w' : World, ∀ g, N ≤ g → Tabs w → w.grownBy w' (some g) → Tabs w') (x : V) (w : World) (B c : Nat) (ad : Addr) (hin : x.In w B) (hB : B ≤ w.heap.size) (hNw : N ≤ w.heap.size)
    (hr : ∀ (j : Nat) (u : Value), x.cells[j]? = some u → w.cell? (ad.add j) = some u) (hT : Tabs w) :
    Calls Tryz.prog 10 #[.slice (some ad) 1 c] w (FinePost x w) := by
  have hC := fit_any hV hTk x w B hin hB hNw hT
  obtain ⟨k, h, t, aL, cL, l, aK, cK, ks, aV, cV, vs⟩ := x
  rw [V.val_mk] at hC
  have hsix := six (a := ad) (i := 0) (w := w) (by simpa using hr)
  simp only [Nat.zero_mul] at hsix
  have had0 : ad.add 0 = ad := by simp [Addr.add]
  rw [had0] at hsix
  obtain ⟨d0, d1, d2, d3, d4, d5⟩ := hsix
  have HC := Lib.hid hC
  clear hC hin hT hTk hV hr had0
  go_enter Tryz.func10, Tryz.ntmps10
  go_wp2_with fail
  go_loopw [3] (fun i wr => (i = .int .i64 0 ∧ w = wr) ∨ (i = .int .i64 1 ∧ Below w.heap.size w wr ∧ (V.mk k h t aL cL l aK cK ks aV cV vs).Good ∧ (V.mk k h t aL cL l aK cK ks aV cV vs).parts ≤ 400 ∧ (V.mk k h t aL cL l aK cK ks aV cV vs).bytes ≤ 2000 ∧ t.size ≤ 4096)) (fun i _ => 2 - (intOf i).toNat)
  case atStart => exact Or.inl ⟨rfl, rfl⟩
  case round =>
    rcases hrel with ⟨rfl, rfl⟩ | ⟨rfl, hb, hg⟩
    · by_cases ht : (4096 : Int) < (t.size : Int)
      · go_wp2_with fail
        go_ret
        exact ⟨false, rfl, Below.refl _ _, fun hf => by simp at hf⟩
      · go_wp2_with fail
        refine HC.out.mono ?_
        rintro e w1 ⟨b, rfl, hb1, hx1⟩
        have HX1 := Lib.hid hx1
        clear hx1
        cases b
        · go_wp2_with fail
          go_ret
          exact ⟨false, rfl, hb1, fun hf => by simp at hf⟩
        · go_wp2_with fail
          go_roundw
          case rel => exact Or.inr ⟨rfl, hb1, (HX1.out trivial).1, (HX1.out trivial).2.1, (HX1.out trivial).2.2, by omega⟩
          case measure => simp [intOf]
    · have HG := Lib.hid hg
      clear hg
      go_wp2_with fail
      go_ret
      exact ⟨true, rfl, hb, fun _ => HG.out⟩
end Go.Proofs.YtpigccnlembfdaaGreatDoor
