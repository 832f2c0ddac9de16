/- The walks of smallbig's signed numbers: String, Neg, Abs, Sign, NewInt. Conditions: as each theorem states. -/
import Derived.Test.YtejmjkeeakfodaaGreatDoorText
import Derived.Test.YtejmjkeeakfodaaGreatDoorDec
import Derived.StillTailTactics
import Derived.Deep.RegionHeld3
namespace Go.Proofs.YtejmjkeeakfodaaGreatDoor
open Go.RowKit

theorem grown_set (w : World) (g i : Nat) (v : Value) : w.grownBy (w.setCell ⟨g, i, none⟩ v) (some g) :=
  ⟨rfl, rfl, rfl, by simp, fun b hb hne => by
    have : b ≠ g := fun e => hne (by rw [e])
    simp [World.setCell, Array.getElem?_modify, Ne.symm this]⟩
/-- A box below B holds this number. -/
def BigIn (w : World) (B g : Nat) (neg : Bool) (s : Value) (L : List Nat) (z : Int) : Prop :=
  g < B ∧ B ≤ w.heap.size ∧ w.cell? ⟨g, 0, none⟩ = some (.bool neg) ∧ w.cell? ⟨g, 1, none⟩ = some s ∧ NatAt w s L ∧ Limbs L ∧ Normed L ∧ L.length ≤ 10000 ∧ lval L < 10 ^ 1000 ∧ z = (if neg then -(lval L : Int) else (lval L : Int)) ∧ (lval L = 0 → neg = false) ∧ (L ≠ [] → ∀ b, s.ownBlock = some b → b < B)
def BigAt (w : World) (B : Nat) (v : Value) (z : Int) : Prop := ∃ g neg s L, v = .pointer (some ⟨g, 0, none⟩) ∧ BigIn w B g neg s L z
theorem BigIn.below {w w' : World} {B g : Nat} {neg : Bool} {s : Value} {L : List Nat} {z : Int} (h : BigIn w B g neg s L z) (hb : Below w.heap.size w w') : BigIn w' B g neg s L z := by
  obtain ⟨hg, hB, hc0, hc1, hnat, h⟩ := h
  exact ⟨hg, Nat.le_trans hB hb.size, (hb.cell (by show g < _; omega)).trans hc0, (hb.cell (by show g < _; omega)).trans hc1, hnat.below hb, h⟩
theorem BigAt.below {w w' : World} {B : Nat} {v : Value} {z : Int} (h : BigAt w B v z) (hb : Below w.heap.size w w') : BigAt w' B v z := by
  obtain ⟨g, neg, s, L, e, h⟩ := h
  exact ⟨g, neg, s, L, e, h.below hb⟩
/-- An empty box. -/
def NewBig (w : World) (g : Nat) : Prop := w.heap[g]? = some (.cells #[.bool false, .slice none 0 0] 48 (0, 0))
theorem NewBig.new (w : World) : NewBig (w.alloc (.cells #[.bool false, .slice none 0 0] 48)) w.heap.size := heap_alloc_new w _
theorem NewBig.lt {w : World} {g : Nat} (h : NewBig w g) : g < w.heap.size := (Array.getElem?_eq_some_iff.1 h).1
theorem NewBig.cell {w : World} {g : Nat} (h : NewBig w g) (i : Nat) : w.cell? ⟨g, i, none⟩ = #[Value.bool false, .slice none 0 0][i]? := cell_of_row w g i _ _ _ h
theorem NewBig.frozen {w : World} {g : Nat} (h : NewBig w g) (i : Nat) : w.frozen? ⟨g, i, none⟩ = false := by
  unfold NewBig at h; simp [World.frozen?, h]
theorem NewBig.below {w w1 : World} {g : Nat} (h : NewBig w g) (hb : Below w.heap.size w w1) : NewBig w1 g := (hb.block g h.lt).trans h
/-- The box is filled. -/
theorem NewBig.fillIn {w : World} {B g2 : Nat} {nb : Bool} {s : Value} {L : List Nat} (hg2 : NewBig w g2) (hB : g2 < B) (hB2 : B ≤ w.heap.size) (hnat : NatAt w s L) (hL : Limbs L) (hno : Normed L) (hlen : L.length ≤ 10000) (hV : lval L < 10 ^ 1000) (hn : lval L = 0 → nb = false) (ho : L ≠ [] → ∀ b, s.ownBlock = some b → b ≠ g2 ∧ b < B) :
    BigIn ((w.setCell ⟨g2, 1, none⟩ s).setCell ⟨g2, 0, none⟩ (.bool nb)) B g2 nb s L (if nb then -(lval L : Int) else (lval L : Int)) := by
  have hlt := hg2.lt
  unfold NewBig at hg2
  have h1 : ((w.setCell ⟨g2, 1, none⟩ s).setCell ⟨g2, 0, none⟩ (.bool nb)).heap[g2]? = some (.cells #[.bool nb, s] 48 (0, 0)) := by
    simp [World.setCell, Array.getElem?_modify, hg2]
  refine ⟨by omega, by simp; omega, ?_, ?_, ?_, hL, hno, hlen, hV, rfl, hn, fun h b hb => (ho h b hb).2⟩
  · rw [cell_of_row _ g2 0 _ _ _ h1]; rfl
  · rw [cell_of_row _ g2 1 _ _ _ h1]; rfl
  · refine (hnat.grown (grown_set w g2 1 s) ?_).grown (grown_set _ g2 0 _) ?_
    · intro h b hb e
      injection e with e
      exact (ho h b hb).1 e.symm
    · intro h b hb e
      injection e with e
      exact (ho h b hb).1 e.symm
theorem NewBig.fill {w : World} {B g2 : Nat} {nb : Bool} {s : Value} {L : List Nat} (hg2 : NewBig w g2) (hB : g2 < B) (hB2 : B ≤ w.heap.size) (hnat : NatAt w s L) (hL : Limbs L) (hno : Normed L) (hlen : L.length ≤ 10000) (hV : lval L < 10 ^ 1000) (hn : lval L = 0 → nb = false) (ho : L ≠ [] → ∀ b, s.ownBlock = some b → b ≠ g2 ∧ b < B) :
    BigAt ((w.setCell ⟨g2, 1, none⟩ s).setCell ⟨g2, 0, none⟩ (.bool nb)) B (.pointer (some ⟨g2, 0, none⟩)) (if nb then -(lval L : Int) else (lval L : Int)) :=
  ⟨g2, nb, s, L, rfl, hg2.fillIn hB hB2 hnat hL hno hlen hV hn ho⟩
/-- What a text leaves. -/
def StrPost (l : List UInt8) (w : World) (e : Ending) (w' : World) : Prop := e = .returned (.string ⟨l.toArray⟩) ∧ Below w.heap.size w w'
theorem textOf_itoa (V : Nat) (neg : Bool) (z : Int) (hz : z = (if neg then -(V : Int) else (V : Int))) (hn : V = 0 → neg = false) : textOf V neg = Lib.itoa z := by
  by_cases h : V = 0
  · have hf := hn h
    subst h hf
    subst hz
    have e : Lib.decDigits 0 = [48] := by rw [dec_small (by decide)]; rfl
    simp [textOf, Lib.itoa, e]
  · cases neg
    · subst hz
      simp [textOf, Lib.itoa, h]
    · subst hz
      simp [textOf, Lib.itoa, h]

set_option maxRecDepth 100000 in
set_option maxHeartbeats 1000000 in
theorem textTen_any (w : World) (B : Nat) (v : Value) (z : Int) (h : BigAt w B v z) : Calls Tryz.prog 28 #[v, .int .i64 10] w (StrPost (Lib.itoa z) w) := by
  obtain ⟨g, neg, s, L, rfl, hg, hgB, hc0, hc1, hnat, hL, hno, hlen, hV, hz, hn0, ho⟩ := h
  have hT := text_any w.drew s L neg hnat hL hno hlen hV
  rw [← textOf_itoa (lval L) neg z hz hn0]
  have HT := Lib.hid hT
  clear hT hnat hL hno hlen hV hz hn0 ho
  go_enter Tryz.func28, Tryz.ntmps28
  go_wp2_with fail
  go_still_tail 9, (by kernel_rfl)
  go_wp2_with fail
  refine HT.out.mono ?_
  rintro e w3 ⟨v', rfl, hb, hby⟩
  have hcv := hby.conv
  have HB3 : Hid (Below w.heap.size w w3) := Lib.hid ((Below.refl _ _).drew.trans hb)
  clear hby hb
  generalize textOf (lval L) neg = T at *
  go_wp2_with fail
  go_ret
  exact ⟨rfl, HB3.out⟩

theorem string_any (w : World) (B : Nat) (v : Value) (z : Int) (h : BigAt w B v z) : Calls Tryz.prog 23 #[v] w (StrPost (Lib.itoa z) w) := by
  have HT := Lib.hid (textTen_any w B v z h)
  clear h
  go_enter Tryz.func23, Tryz.ntmps23
  go_wp2_with (go_at_call 28; refine HT.out.mono ?_; rintro e w2 ⟨rfl, hb2⟩)
  go_ret
  exact ⟨rfl, hb2⟩

/-- What Sign says. -/
def SignPost (z : Int) (w : World) (e : Ending) (w' : World) : Prop := ∃ x : Int, e = .returned (.int .i64 x) ∧ w = w' ∧ (0 ≤ x ↔ 0 ≤ z)
theorem sign_any (w : World) (B : Nat) (v : Value) (z : Int) (h : BigAt w B v z) : Calls Tryz.prog 34 #[v] w (SignPost z w) := by
  obtain ⟨g, neg, s, L, rfl, hg, hgB, hc0, hc1, hnat, hL, hno, hlen, hV, hz, hn0, ho⟩ := h
  have hpos : L ≠ [] → lval L ≠ 0 := normed_pos hno
  obtain ⟨A, c, rfl, hc, hx⟩ := hnat
  by_cases hl : L = []
  · subst hl
    have hz2 : 0 ≤ z := by
      have h0 : lval [] = 0 := rfl
      rw [hz, h0]; cases neg <;> simp
    clear hx hL hno hlen hV hz hn0 ho hpos
    rw [List.length_nil] at hc1
    go_enter Tryz.func34, Tryz.ntmps34
    go_wp2_with fail
    go_ret
    exact ⟨0, rfl, rfl, by simpa using hz2⟩
  · have h1 : ((L.length : Int) == 0) = false := by rw [beq_eq_false_iff_ne]; have := List.length_pos_iff.2 hl; omega
    have hp := hpos hl
    have HZ : Hid (neg = decide (¬ 0 ≤ z)) := Lib.hid (by
      cases neg
      · have : 0 ≤ z := by rw [hz]; simp
        simp [this]
      · have : ¬ 0 ≤ z := by rw [hz]; simp; omega
        simp [this])
    clear hx hL hno hlen hV hz hn0 ho hpos hp hl
    generalize L.length = n at *
    cases neg
    · go_enter Tryz.func34, Tryz.ntmps34
      go_wp2_with fail
      go_ret
      have := of_decide_eq_false HZ.out.symm
      exact ⟨1, rfl, rfl, by simpa using this⟩
    · go_enter Tryz.func34, Tryz.ntmps34
      go_wp2_with fail
      go_ret
      have := of_decide_eq_true HZ.out.symm
      exact ⟨-1, rfl, rfl, by simpa using this⟩

/-- What Neg and Abs leave: the box filled. -/
def FillPost (g2 : Nat) (z : Int) (w : World) (e : Ending) (w' : World) : Prop := e = .returned (.pointer (some ⟨g2, 0, none⟩)) ∧ w.grownBy w' (some g2) ∧ BigAt w' w'.heap.size (.pointer (some ⟨g2, 0, none⟩)) z
theorem grown_fill (w : World) (g2 : Nat) (a b : Value) : w.grownBy ((w.setCell ⟨g2, 1, none⟩ a).setCell ⟨g2, 0, none⟩ b) (some g2) :=
  (grown_set w g2 1 a).trans (grown_set _ g2 0 b)
set_option maxRecDepth 100000 in
set_option maxHeartbeats 1000000 in
theorem abs_any (w : World) (B g2 : Nat) (v : Value) (z : Int) (h : BigAt w B v z) (hg2 : NewBig w g2) (hB : B ≤ g2) :
    Calls Tryz.prog 35 #[.pointer (some ⟨g2, 0, none⟩), v] w (FillPost g2 (z.natAbs : Int) w) := by
  obtain ⟨g, neg, s, L, rfl, hg, hgB, hc0, hc1, hnat, hL, hno, hlen, hV, hz, hn0, ho⟩ := h
  have hza : z.natAbs = lval L := by rw [hz]; cases neg <;> simp
  have HF := Lib.hid (NewBig.fill (nb := false) hg2 hg2.lt (Nat.le_refl _) hnat hL hno hlen hV (fun _ => rfl) (fun h b hb => by have := ho h b hb; omega))
  have HG := Lib.hid (grown_fill w g2 s (.bool false))
  have HZA := Lib.hid hza
  have hne : g2 ≠ g := by omega
  have k0 := hg2.cell 0
  have k1 := hg2.cell 1
  have f0 := hg2.frozen 0
  have f1 := hg2.frozen 1
  have hlt := hg2.lt
  simp at k0 k1
  obtain ⟨A, c, rfl, hc, hx⟩ := hnat
  clear hx hL hno hlen hV hz hn0 ho hza hg2 hc
  generalize L.length = n at *
  rw [← HZA.out] at HF
  go_enter Tryz.func35, Tryz.ntmps35
  go_wp2_with fail
  go_ret
  refine ⟨rfl, HG.out, ?_⟩
  have := HF.out
  simpa [HZA.out] using this

set_option maxRecDepth 100000 in
set_option maxHeartbeats 2000000 in
theorem neg_in (w : World) (g g2 : Nat) (neg : Bool) (s : Value) (L : List Nat) (z : Int) (h : BigIn w w.heap.size g neg s L z) (hz0 : z ≠ 0) (hg2 : NewBig w g2) (hne : g2 ≠ g) (hap : L ≠ [] → ∀ b, s.ownBlock = some b → b ≠ g2) :
    Calls Tryz.prog 30 #[.pointer (some ⟨g2, 0, none⟩), .pointer (some ⟨g, 0, none⟩)] w (FillPost g2 (-z) w) := by
  obtain ⟨hg, hgB, hc0, hc1, hnat, hL, hno, hlen, hV, hz, hn0, ho⟩ := h
  have hpos : L ≠ [] → lval L ≠ 0 := normed_pos hno
  obtain ⟨nb, hnb⟩ : ∃ nb, nb = (decide (0 < L.length) && !neg) := ⟨_, rfl⟩
  have hnz : (if nb then -(lval L : Int) else (lval L : Int)) = -z := by
    by_cases hl : L = []
    · have h0 : lval L = 0 := by rw [hl]; rfl
      rw [hz, h0]; cases nb <;> cases neg <;> simp
    · have := List.length_pos_iff.2 hl
      rw [hnb, hz, decide_eq_true this]
      cases neg <;> simp
  have hn2 : lval L = 0 → nb = false := fun h0 => by
    by_cases hl : L = []
    · rw [hnb, hl]; rfl
    · exact absurd h0 (hpos hl)
  have HF := Lib.hid ((NewBig.fill (nb := nb) hg2 hg2.lt (Nat.le_refl _) hnat hL hno hlen hV hn2 (fun h b hb => ⟨hap h b hb, ho h b hb⟩)).below (Below.refl _ _).drew)
  have HG := Lib.hid ((grown_fill w g2 s (.bool nb)).trans (grown_below' (Below.refl _ _).drew (some g2)))
  have HNZ := Lib.hid hnz
  have HNB := Lib.hid hnb
  have HLL : Hid (0 < L.length) := Lib.hid (List.length_pos_iff.2 (fun e => hz0 (by
    have h0 : lval L = 0 := by rw [e]; rfl
    rw [hz, h0]; cases neg <;> simp)))
  have k0 := hg2.cell 0
  have k1 := hg2.cell 1
  have f0 := hg2.frozen 0
  have f1 := hg2.frozen 1
  have hlt := hg2.lt
  simp at k0 k1
  obtain ⟨A, c, rfl, hc, hx⟩ := hnat
  clear hx hL hno hlen hV hz hn0 ho hg2 hc hn2 hnz hnb hpos hz0 hap
  have hl0 : 0 < L.length := by
    have := HLL.out
    omega
  have h1 : decide ((0 : Int) < (L.length : Int)) = true := by simp; omega
  have h2 : decide (0 < L.length) = true := by simp; omega
  clear hl0
  generalize L.length = n at *
  have hnb := HNB.out
  rw [h2] at hnb
  simp at hnb
  subst hnb
  go_enter Tryz.func30, Tryz.ntmps30
  go_wp2_with fail
  go_region_held3 (fun w' => w'.cell? ⟨g, 0, none⟩ = some (.bool neg) ∧ w'.cell? ⟨g, 1, none⟩ = some (.slice A n c)) (go_keep) (fail)
  go_wp2_with fail
  go_ret
  refine ⟨rfl, HG.out, ?_⟩
  have h9 := HF.out
  rw [HNZ.out] at h9
  have e9 : ∀ a b : Value, (((w.setCell ⟨g2, 1, none⟩ a).setCell ⟨g2, 0, none⟩ b).drew).heap.size = w.heap.size := fun a b => by simp
  rw [e9]
  exact h9

theorem neg_any (w : World) (B g2 : Nat) (v : Value) (z : Int) (h : BigAt w B v z) (hz0 : z ≠ 0) (hg2 : NewBig w g2) (hB : B ≤ g2) :
    Calls Tryz.prog 30 #[.pointer (some ⟨g2, 0, none⟩), v] w (FillPost g2 (-z) w) := by
  obtain ⟨g, neg, s, L, rfl, hg, hgB, hc0, hc1, hnat, hL, hno, hlen, hV, hz, hn0, ho⟩ := h
  exact neg_in w g g2 neg s L z ⟨by omega, Nat.le_refl _, hc0, hc1, hnat, hL, hno, hlen, hV, hz, hn0, fun h b hb => by have := ho h b hb; omega⟩ hz0 hg2 (by omega) (fun h b hb => by have := ho h b hb; omega)

/-- What natOf leaves. -/
def NatOfPost (u : Nat) (w : World) (e : Ending) (w' : World) : Prop := ∃ A L c, e = .returned (.slice A L.length c) ∧ Below w.heap.size w w' ∧ NatAt w' (.slice A L.length c) L ∧ Limbs L ∧ Normed L ∧ lval L = u ∧ L.length ≤ 2 ∧ ∀ b, (Value.slice A L.length c).ownBlock = some b → w.heap.size ≤ b ∧ b < w'.heap.size
theorem NatAt.shape {w : World} {v : Value} {L : List Nat} (h : NatAt w v L) : ∃ A c, v = .slice A L.length c := by
  obtain ⟨A, c, e, _⟩ := h
  exact ⟨A, c, e⟩
set_option maxRecDepth 100000 in
set_option maxHeartbeats 1000000 in
theorem natOf_any (w : World) (u : Nat) (hu : u < 18446744073709551616) : Calls Tryz.prog 64 #[.int .u64 u] w (NatOfPost u w) := by
  have h32 : u / 4294967296 < 4294967296 := by omega
  have hn : NatAt (w.alloc (.cells #[.int .u32 ((u : Int) % 4294967296), .int .u32 ((u : Int) / 4294967296)] 79)) (.slice (some ⟨w.heap.size, 0, none⟩) 2 2) [u % 4294967296, u / 4294967296] := by
    refine ⟨_, 2, rfl, Nat.le_refl _, fun _ => ⟨_, rfl, by simp, fun i a ha => ?_⟩⟩
    rw [cell_of_row _ w.heap.size i _ _ _ (heap_alloc_new w _)]
    rcases i with _ | _ | i
    · simp at ha ⊢; omega
    · simp at ha ⊢; omega
    · simp at ha
  have HNO := Lib.hid (norm_any _ _ _ hn (by simp))
  have HB := Lib.hid (show Below w.heap.size w (w.alloc (.cells #[.int .u32 ((u : Int) % 4294967296), .int .u32 ((u : Int) / 4294967296)] 79)) from (Below.refl _ _).alloc (Nat.le_refl _) _)
  have hv : lval [u % 4294967296, u / 4294967296] = u := by simp [lval]; omega
  have HV := Lib.hid hv
  clear hn hv
  go_enter Tryz.func64, Tryz.ntmps64
  go_wp2_with fail
  refine HNO.out.mono ?_
  rintro e w2 ⟨rfl, v', k, rfl, hob, hk, hnat, hval, hnm⟩
  go_wp2_with fail
  go_ret
  obtain ⟨A, c, rfl⟩ := hnat.shape
  refine ⟨A, _, c, rfl, HB.out, hnat, fun a ha => ?_, hnm, hval.trans HV.out, by rw [List.length_take]; simp; omega, fun b hb => ?_⟩
  · have ha := List.mem_of_mem_take ha
    simp at ha
    rcases ha with rfl | rfl
    · omega
    · exact h32
  · rw [hob] at hb
    simp [Value.ownBlock] at hb
    subst hb
    simp

theorem ten_le (k : Nat) (h : 20 ≤ k) : 9223372036854775808 < 10 ^ k := by
  have h1 : (9223372036854775808 : Nat) < 10 ^ 20 := by decide
  exact Nat.lt_of_lt_of_le h1 (Nat.pow_le_pow_right (by decide) h)
set_option maxRecDepth 100000 in
set_option maxHeartbeats 1000000 in
theorem setMin_any (w : World) (g2 : Nat) (hg2 : NewBig w g2) : Calls Tryz.prog 53 #[.pointer (some ⟨g2, 0, none⟩), .int .i64 (-9223372036854775808)] w
    (fun e w' => e = .returned (.pointer (some ⟨g2, 0, none⟩)) ∧ w.grownBy w' (some g2) ∧ ∃ neg s L, BigIn w' w'.heap.size g2 neg s L (-9223372036854775808) ∧ (L ≠ [] → ∀ b, s.ownBlock = some b → w.heap.size ≤ b)) := by
  have HN := Lib.hid (natOf_any w 9223372036854775808 (by decide))
  have HG2 := Lib.hid hg2
  have e1 : IntKind.u64.wrap (-IntKind.u64.wrap (-9223372036854775808)) = ((9223372036854775808 : Nat) : Int) := by decide
  have E1 := Lib.hid e1
  clear hg2 e1
  go_enter Tryz.func53, Tryz.ntmps53
  go_wp2_with fail
  rw [E1.out]
  refine HN.out.mono ?_
  rintro e w2 ⟨A, L, c, rfl, hb2, hnat, hL, hno, hv, hlen, hob⟩
  have hg3 := HG2.out.below hb2
  have hlt0 := HG2.out.lt
  have HF := Lib.hid (NewBig.fillIn (nb := true) hg3 hg3.lt (Nat.le_refl _) hnat hL hno (by omega) (by rw [hv]; exact ten_le 1000 (by omega)) (fun h => by omega) (fun h b hb => by have := hob b hb; omega))
  have HOB : Hid (L ≠ [] → ∀ b, (Value.slice A L.length c).ownBlock = some b → w.heap.size ≤ b) := Lib.hid (fun _ b hb => (hob b hb).1)
  have HV := Lib.hid hv
  have HB2 := Lib.hid hb2
  have k0 := hg3.cell 0
  have k1 := hg3.cell 1
  have f0 := hg3.frozen 0
  have f1 := hg3.frozen 1
  have hlt := hg3.lt
  simp at k0 k1
  clear hg3 hnat hL hno hv hlen hob hb2 HN E1
  generalize L.length = n at *
  go_wp2_with fail
  go_ret
  refine ⟨rfl, (grown_below' HB2.out (some g2)).trans (grown_fill w2 g2 _ _), true, _, L, ?_, HOB.out⟩
  have h9 := HF.out
  rw [HV.out] at h9
  rw [World.size_setCell, World.size_setCell]
  exact h9

/-- What NewInt leaves. -/
def MinPost (w : World) (e : Ending) (w' : World) : Prop := ∃ g neg s L, e = .returned (.pointer (some ⟨g, 0, none⟩)) ∧ Below w.heap.size w w' ∧ BigIn w' w'.heap.size g neg s L (-9223372036854775808) ∧ w.heap.size ≤ g ∧ (L ≠ [] → ∀ b, s.ownBlock = some b → w.heap.size ≤ b)
theorem newMin_any (w : World) : Calls Tryz.prog 39 #[.int .i64 (-9223372036854775808)] w (MinPost w) := by
  have HS := Lib.hid (setMin_any _ _ (NewBig.new w))
  have HB := Lib.hid (show Below w.heap.size w (w.alloc (.cells #[.bool false, .slice none 0 0] 48)) from (Below.refl _ _).alloc (Nat.le_refl _) _)
  go_enter Tryz.func39, Tryz.ntmps39
  go_wp2_with fail
  refine HS.out.mono ?_
  rintro e w2 ⟨rfl, hg, neg, s, L, hin, hob⟩
  have HIN := Lib.hid hin
  have HOB := Lib.hid hob
  clear hin hob
  go_wp2_with fail
  go_ret
  exact ⟨_, neg, s, L, rfl, HB.out.grown hg (by simp) (fun k hk => by injection hk; omega), HIN.out, Nat.le_refl _, fun h b hb => by have := HOB.out h b hb; simp at this; omega⟩
end Go.Proofs.YtejmjkeeakfodaaGreatDoor
