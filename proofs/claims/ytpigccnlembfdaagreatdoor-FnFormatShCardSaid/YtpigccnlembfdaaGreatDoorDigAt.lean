/- Decimals in memory: their digits and the place of their point; the walks of trim, digit, cmp. Conditions: as each theorem states. -/
import Derived.Test.YtpigccnlembfdaaGreatDoorFmtU
import Derived.StillTailTactics
import Derived.Deep.QuietTactic
import Derived.BigQuiet
import Derived.Laws.OwnMore
import Derived.Deep.OwnRows
import Derived.Deep.AppendLies
namespace Go.Proofs.YtpigccnlembfdaaGreatDoor
open Go.RowKit

/-- A slice of bytes that holds these digits. -/
def DigAt (w : World) (v : Value) (L : List Nat) : Prop := ∃ A c, v = .slice A L.length c ∧ L.length ≤ c ∧
  (L ≠ [] → ∃ g, A = some ⟨g, 0, none⟩ ∧ g < w.heap.size ∧ ∀ (i a : Nat), L[i]? = some a → w.cell? ⟨g, i, none⟩ = some (.int .u8 a))
theorem DigAt.below {w w' : World} {v : Value} {L : List Nat} (h : DigAt w v L) (hb : Below w.heap.size w w') : DigAt w' v L := by
  obtain ⟨A, c, e, hc, hx⟩ := h
  refine ⟨A, c, e, hc, fun hn => ?_⟩
  obtain ⟨g, e1, hg, hcell⟩ := hx hn
  exact ⟨g, e1, Nat.lt_of_lt_of_le hg hb.size, fun i a ha => (hb.cell hg).trans (hcell i a ha)⟩
theorem DigAt.grown {w w' : World} {v : Value} {L : List Nat} {row : Option Nat} (h : DigAt w v L) (hg : w.grownBy w' row) (hr : L ≠ [] → ∀ g, v.ownBlock = some g → row ≠ some g) : DigAt w' v L := by
  obtain ⟨A, c, rfl, hc, hx⟩ := h
  refine ⟨A, c, rfl, hc, fun hn => ?_⟩
  obtain ⟨g, rfl, hlt, hcell⟩ := hx hn
  refine ⟨g, rfl, Nat.lt_of_lt_of_le hlt hg.size, fun i a ha => ?_⟩
  rw [← hcell i a ha]
  exact World.cell?_of_block (hg.block g hlt (Ne.symm (hr hn g rfl)))
theorem DigAt.shape {w : World} {v : Value} {L : List Nat} (h : DigAt w v L) : ∃ A c, v = .slice A L.length c := by
  obtain ⟨A, c, e, _⟩ := h
  exact ⟨A, c, e⟩
theorem DigAt.lt {w : World} {v : Value} {L : List Nat} (h : DigAt w v L) (hn : L ≠ []) (g : Nat) (hg : v.ownBlock = some g) : g < w.heap.size := by
  obtain ⟨A, c, rfl, hc, hx⟩ := h
  obtain ⟨g', rfl, hlt, _⟩ := hx hn
  simp only [Value.ownBlock, Option.some.injEq] at hg
  omega
theorem digAt_take {w : World} {A : Option Addr} {L : List Nat} {k c : Nat} (hk : k ≤ L.length) (hc : k ≤ c) (hx : L ≠ [] → ∃ g, A = some ⟨g, 0, none⟩ ∧ g < w.heap.size ∧ ∀ (i a : Nat), L[i]? = some a → w.cell? ⟨g, i, none⟩ = some (.int .u8 a)) : DigAt w (.slice A k c) (L.take k) := by
  have hl : (L.take k).length = k := by rw [List.length_take]; omega
  refine ⟨A, c, by rw [hl], by omega, fun hn => ?_⟩
  obtain ⟨g, e, hg, hcell⟩ := hx (by rintro rfl; simp at hn)
  refine ⟨g, e, hg, fun i a ha => hcell i a ?_⟩
  rw [List.getElem?_take] at ha
  split at ha
  · exact ha
  · cases ha
theorem digAt_nil (w : World) : DigAt w (.slice none 0 0) [] := ⟨none, 0, rfl, Nat.le_refl _, fun h => absurd rfl h⟩
/-- A decimal: its two cells, its digits apart from them. -/
def DBox (w : World) (p : Nat) (v : Value) (dp : Int) : Prop := w.heap[p]? = some (.cells #[v, .int .i64 dp] 183 (0, 0))
theorem DBox.lt {w : World} {p : Nat} {v : Value} {dp : Int} (h : DBox w p v dp) : p < w.heap.size := (Array.getElem?_eq_some_iff.1 h).1
theorem DBox.cell0 {w : World} {p : Nat} {v : Value} {dp : Int} (h : DBox w p v dp) : w.cell? ⟨p, 0, none⟩ = some v := by rw [cell_of_row w p 0 _ _ _ h]; rfl
theorem DBox.cell1 {w : World} {p : Nat} {v : Value} {dp : Int} (h : DBox w p v dp) : w.cell? ⟨p, 1, none⟩ = some (.int .i64 dp) := by rw [cell_of_row w p 1 _ _ _ h]; rfl
theorem DBox.frozen {w : World} {p : Nat} {v : Value} {dp : Int} (h : DBox w p v dp) (i : Nat) : w.frozen? ⟨p, i, none⟩ = false := by
  unfold DBox at h; simp [World.frozen?, h]
theorem DBox.below {w w1 : World} {p : Nat} {v : Value} {dp : Int} (h : DBox w p v dp) (hb : Below w.heap.size w w1) : DBox w1 p v dp := (hb.block p h.lt).trans h
theorem DBox.keep {w w1 : World} {p : Nat} {v : Value} {dp : Int} (h : DBox w p v dp) {row : Option Nat} (hb : w.grownBy w1 row) (hr : some p ≠ row) : DBox w1 p v dp := (hb.block p h.lt hr).trans h
theorem DBox.set0 {w : World} {p : Nat} {v : Value} {dp : Int} (h : DBox w p v dp) (u : Value) : DBox (w.setCell ⟨p, 0, none⟩ u) p u dp := by
  unfold DBox at h ⊢
  simp [World.setCell, Array.getElem?_modify, h]
theorem DBox.set1 {w : World} {p : Nat} {v : Value} {dp : Int} (h : DBox w p v dp) (u : Int) : DBox (w.setCell ⟨p, 1, none⟩ (.int .i64 u)) p v u := by
  unfold DBox at h ⊢
  simp [World.setCell, Array.getElem?_modify, h]
theorem grown_cell (w : World) (g i : Nat) (v : Value) : w.grownBy (w.setCell ⟨g, i, none⟩ v) (some g) :=
  ⟨rfl, rfl, rfl, by simp, fun b hb hne => by
    have : b ≠ g := fun e => hne (by rw [e])
    simp [World.setCell, Array.getElem?_modify, Ne.symm this]⟩
theorem grown_of_below {w w' : World} (h : Below w.heap.size w w') (row : Option Nat) : w.grownBy w' row := ⟨h.os, h.tape, h.output, h.size, fun i hi _ => h.block i hi⟩
structure DecAt (w : World) (p : Nat) (L : List Nat) (dp : Int) (v : Value) : Prop where
  box : DBox w p v dp
  dig : DigAt w v L
  apart : L ≠ [] → ∀ g, v.ownBlock = some g → g ≠ p
theorem DecAt.below {w w1 : World} {p : Nat} {L : List Nat} {dp : Int} {v : Value} (h : DecAt w p L dp v) (hb : Below w.heap.size w w1) : DecAt w1 p L dp v := ⟨h.box.below hb, h.dig.below hb, h.apart⟩
theorem DecAt.grown {w w1 : World} {p q : Nat} {L : List Nat} {dp : Int} {v : Value} (h : DecAt w p L dp v) (hb : w.grownBy w1 (some q)) (hq : q ≠ p) (hr : L ≠ [] → ∀ g, v.ownBlock = some g → g ≠ q) : DecAt w1 p L dp v :=
  ⟨h.box.keep hb (fun e => hq (Option.some.inj e).symm), h.dig.grown hb (fun hn g hg e => hr hn g hg (Option.some.inj e).symm), h.apart⟩

/-- The digit at a place, 0 where there is none. -/
def at0 (L : List Nat) (i : Nat) : Nat := L.getD i 0
set_option maxRecDepth 100000 in
theorem digit_any (w : World) (p : Nat) (L : List Nat) (dp : Int) (v : Value) (h : DecAt w p L dp v) (i : Nat) (hL : L.length ≤ 1000000) :
    Calls Tryz.prog 160 #[.pointer (some ⟨p, 0, none⟩), .int .i64 i] w (fun e w' => e = .returned (.int .u8 (at0 L i : Nat)) ∧ w = w') := by
  obtain ⟨hb, hd, _⟩ := h
  have c0 := hb.cell0
  obtain ⟨A, c, rfl, hc, hx⟩ := hd
  by_cases hi : i < L.length
  · obtain ⟨a, ha⟩ : ∃ a, L[i]? = some a := ⟨_, List.getElem?_eq_getElem hi⟩
    obtain ⟨g, rfl, hg, hcell⟩ := hx (by rintro rfl; simp at hi)
    have d0 := hcell i a ha
    have e : at0 L i = a := by unfold at0; rw [List.getD_eq_getElem?_getD, ha]; rfl
    rw [e]
    clear hcell hx hb ha e
    generalize L.length = n at *
    go_enter Tryz.func160, Tryz.ntmps160
    go_wp2_with fail
    go_ret
    exact ⟨rfl, rfl⟩
  · have e : at0 L i = 0 := by unfold at0; rw [List.getD_eq_getElem?_getD, List.getElem?_eq_none (by omega)]; rfl
    rw [e]
    have hi2 : ¬ ((i : Int) < (L.length : Int)) := by omega
    clear hx hb e
    generalize L.length = n at *
    go_enter Tryz.func160, Tryz.ntmps160
    go_wp2_with fail
    go_ret
    exact ⟨rfl, rfl⟩

theorem grown_drewN (w : World) (n : Nat) (row : Option Nat) : w.grownBy (w.drewN n) row := ⟨rfl, rfl, rfl, Nat.le_refl _, fun _ _ _ => rfl⟩
theorem DBox.drewN {w : World} {p : Nat} {v : Value} {dp : Int} (h : DBox w p v dp) (n : Nat) : DBox (w.drewN n) p v dp := h
theorem DBox.drew {w : World} {p : Nat} {v : Value} {dp : Int} (h : DBox w p v dp) : DBox w.drew p v dp := h
/-- How many digits a decimal's cell shows. -/
def lenAt (w : World) (p : Nat) : Nat := match w.cell? ⟨p, 0, none⟩ with
  | some (.slice _ k _) => k
  | _ => 0
theorem DBox.lenAt {w : World} {p : Nat} {A : Option Addr} {k c : Nat} {dp : Int} (h : DBox w p (.slice A k c) dp) : lenAt w p = k := by
  unfold Go.Proofs.YtpigccnlembfdaaGreatDoor.lenAt; rw [h.cell0]
/-- What trim leaves. -/
def TrimPost (p : Nat) (L : List Nat) (dp : Int) (v : Value) (w : World) (e : Ending) (w' : World) : Prop := e = .returned (.pointer (some ⟨p, 0, none⟩)) ∧ w.grownBy w' (some p) ∧
  ∃ k v', k ≤ L.length ∧ L = L.take k ++ List.replicate (L.length - k) 0 ∧ Lasted (L.take k) ∧ v'.ownBlock = v.ownBlock ∧ DecAt w' p (L.take k) (if L.take k = [] then 0 else dp) v'
set_option maxRecDepth 100000 in
set_option maxHeartbeats 1000000 in
theorem trim_any (w : World) (p : Nat) (L : List Nat) (dp : Int) (v : Value) (h : DecAt w p L dp v) (hL : L.length ≤ 1000000) :
    Calls Tryz.prog 153 #[.pointer (some ⟨p, 0, none⟩)] w (TrimPost p L dp v w) := by
  obtain ⟨hb, hd, hap⟩ := h
  obtain ⟨A, c, rfl, hc, hx⟩ := hd
  obtain ⟨n, hn⟩ : ∃ n, n = L.length := ⟨_, rfl⟩
  rw [← hn] at hc hL hb hap ⊢
  have HN := Lib.hid hn
  have HX := Lib.hid hx
  have HB := Lib.hid hb
  have HAP := Lib.hid hap
  clear hx hn hb hap
  go_enter Tryz.func153, Tryz.ntmps153
  go_wp2_with fail
  go_loopw [4] (fun _ wr => ∃ k : Nat, k ≤ n ∧ Hid (w.grownBy wr (some p) ∧ DBox wr p (.slice A k c) dp ∧ L = L.take k ++ List.replicate (L.length - k) 0)) (fun _ wr => lenAt wr p)
  case atStart => exact ⟨n, Nat.le_refl _, Lib.hid ⟨⟨rfl, rfl, rfl, Nat.le_refl _, fun _ _ _ => rfl⟩, HB.out, by rw [HN.out]; simp⟩⟩
  case round =>
    obtain ⟨k, hk, HF⟩ := hrel
    obtain ⟨hg, hbx, hLk⟩ := HF.out
    have c0 := hbx.cell0
    have f0 := hbx.frozen 0
    have hlt := hbx.lt
    have hbd := DBox.below hbx (Below.refl _ wr).drew
    have c0d := hbd.cell0
    cases k with
    | zero =>
      have c1 := hbx.cell1
      have f1 := hbx.frozen 1
      have hbs := hbx.set1 0
      have HG := Lib.hid hg
      have HLK := Lib.hid hLk
      have HBX := Lib.hid hbx
      clear hg hbx hLk hbd hbs
      go_wp2_with fail
      go_quiet (fail)
      go_wp2_with fail
      go_ret
      have e0 : L.take 0 = [] := rfl
      refine ⟨rfl, (HG.out.trans (grown_drewN _ _ _)).trans (grown_cell _ _ _ _), 0, .slice A 0 c, Nat.zero_le _, HLK.out, fun d hd => by simp at hd, by cases A <;> rfl, ?_, ?_, fun h => by simp at h⟩
      · rw [if_pos e0]
        exact (HBX.out.drewN _).set1 0
      · exact ⟨A, c, rfl, Nat.zero_le _, fun h => absurd rfl h⟩
    | succ k =>
      obtain ⟨a, ha⟩ : ∃ a, L[k]? = some a := ⟨_, List.getElem?_eq_getElem (by have := HN.out; omega)⟩
      obtain ⟨g, rfl, hglt, hcell⟩ := HX.out (by rintro rfl; simp at ha)
      have hgp : g ≠ p := HAP.out (by rintro rfl; simp at ha) g rfl
      have d0 : wr.cell? ⟨g, k, none⟩ = some (.int .u8 a) := (World.cell?_of_block (hg.block g hglt (fun e => hgp (Option.some.inj e)))).trans (hcell k a ha)
      have HG := Lib.hid hg
      have HLK := Lib.hid hLk
      have HBX := Lib.hid hbx
      have HA := Lib.hid ha
      have HC := Lib.hid (And.intro hglt (And.intro hcell hgp))
      have hkc : k ≤ c := by omega
      clear hg hbx hLk hcell ha hbd hglt hgp
      by_cases h0 : a = 0
      · subst h0
        go_wp2_with fail
        go_quiet (fail)
        go_wp2_with fail
        have hgr := HG.out.trans (grown_drewN wr nq (some p))
        have hb1 := HBX.out.drewN nq
        clear c0 f0 d0 hlt c0d
        generalize wr.drewN nq = w1 at *
        have c0 := hb1.cell0
        have f0 := hb1.frozen 0
        have hlt := hb1.lt
        have HB1 := Lib.hid hb1
        have HGR := Lib.hid hgr
        clear hb1 hgr
        have c0s : ({ heap := w1.heap, tape := w1.tape, drawn := w1.drawn + 1, os := w1.os, output := w1.output } : World).cell? ⟨p, 0, none⟩ = some (.slice (some ⟨g, 0, none⟩) (k + 1) c) := c0
        have hkz : (k : Int) ≤ (c : Int) := by omega
        have hk0 : (0 : Int) ≤ (k : Int) := by omega
        have hwk : IntKind.i64.wrap (k : Int) = (k : Int) := IntWalk.i64_in _ (by omega)
        go_still_tail 12, (by kernel_rfl)
        clear hwk
        go_wp2_with fail
        have hset := (HB1.out.set0 (.slice (some ⟨g, 0, none⟩) k c)).drew
        have HSET := Lib.hid hset
        clear hset
        go_roundw
        case rel =>
          refine ⟨k, by omega, Lib.hid ⟨(HGR.out.trans (grown_cell _ _ _ _)).trans (grown_of_below (Below.refl _ _).drew _), HSET.out, ?_⟩⟩
          have h1 := HLK.out
          have h2 : L.take (k + 1) = L.take k ++ [0] := by rw [List.take_add_one, HA.out]; rfl
          rw [h2, List.append_assoc] at h1
          rw [show L.length - k = (L.length - (k + 1)) + 1 by have := HN.out; omega, List.replicate_succ]
          exact h1
        case measure =>
          rw [HSET.out.lenAt, HBX.out.lenAt]
          omega
      · have h0' : ((a : Int) == 0) = false := by rw [beq_eq_false_iff_ne]; omega
        have hk1 : ((k : Int) + 1 == 0) = false := by rw [beq_eq_false_iff_ne]; omega
        have H0 := Lib.hid h0
        clear h0
        go_wp2_with fail
        go_quiet (fail)
        go_wp2_with fail
        go_ret
        have hl : (L.take (k + 1)).length = k + 1 := by rw [List.length_take]; have := HN.out; omega
        have htk : L.take (k + 1) = L.take k ++ [a] := by
          obtain ⟨h1, h2⟩ := List.getElem?_eq_some_iff.1 HA.out
          rw [List.take_add_one, HA.out]; rfl
        have hgr := HG.out.trans (grown_drewN wr nq (some p))
        refine ⟨rfl, hgr, k + 1, .slice (some ⟨g, 0, none⟩) (k + 1) c, by have := HN.out; omega, HLK.out, fun d hd => ?_, rfl, ?_, ?_, fun _ q hq => ?_⟩
        · rw [htk, List.getLast?_append] at hd
          simp at hd
          rw [← hd]; exact H0.out
        · rw [if_neg (by intro e; rw [e] at hl; simp at hl)]
          exact HBX.out.drewN _
        · refine digAt_take (by have := HN.out; omega) (by omega) (fun _ => ⟨g, rfl, Nat.lt_of_lt_of_le HC.out.1 hgr.size, fun i x hx => ?_⟩)
          exact (World.cell?_of_block (hgr.block g HC.out.1 (fun e => HC.out.2.2 (Option.some.inj e)))).trans (HC.out.2.1 i x hx)
        · simp only [Value.ownBlock, Option.some.injEq] at hq
          rw [← hq]; exact HC.out.2.2
end Go.Proofs.YtpigccnlembfdaaGreatDoor
