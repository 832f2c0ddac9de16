/- The walk of a decimal's down: fewer digits. Conditions: as the theorem states. -/
import Derived.Test.YtpigccnlembfdaaGreatDoorDecCmp
import Derived.Test.YtpigccnlembfdaaGreatDoorStage
import Derived.Deep.RegionHeld3
namespace Go.Proofs.YtpigccnlembfdaaGreatDoor
open Go.RowKit

theorem ownEmpty (w : World) {base : Nat} (hb : base ≤ w.heap.size) : (w.alloc (.cells #[] 5)).ownsRow base 5 1 (.slice (some ⟨w.heap.size, 0, none⟩) 0 0) 0 [] :=
  ⟨rfl, Or.inr ⟨w.heap.size, 0, #[], rfl, hb, heap_alloc_new w _, Nat.le_refl _, by decide, rfl, rfl⟩⟩
theorem ownEmpty2 (w : World) (o : Obj) {base : Nat} (hb : base ≤ w.heap.size) : ((w.alloc o).alloc (.cells #[] 5)).ownsRow base 5 1 (.slice (some ⟨w.heap.size + 1, 0, none⟩) 0 0) 0 [] := by
  have := ownEmpty (w.alloc o) (base := base) (by simp; omega)
  simpa using this
theorem encN_take {L : List Nat} {n : Nat} (h : n ≤ L.length) : (encN (L.take n)).length = n * 1 := by simp [encN]; omega
theorem srcCell {w : World} {g n j : Nat} {L : List Nat} {u : Value} (hc : ∀ (i a : Nat), L[i]? = some a → w.cell? ⟨g, i, none⟩ = some (.int .u8 a)) (hj : (encN (L.take n))[j]? = some u) : w.cell? ((⟨g, 0, none⟩ : Addr).add j) = some u := by
  rw [show (⟨g, 0, none⟩ : Addr).add j = ⟨g, j, none⟩ by unfold Addr.add; split <;> simp_all]
  unfold encN at hj
  rw [List.getElem?_map] at hj
  cases h : (L.take n)[j]? with
  | none => rw [h] at hj; cases hj
  | some a =>
    rw [h] at hj
    cases hj
    refine hc j a ?_
    rw [List.getElem?_take] at h
    split at h
    · exact h
    · cases h
theorem srcCell1 {w : World} {g n j : Nat} {L : List Nat} {u : Value} {o : Obj} (hc : ∀ (i a : Nat), L[i]? = some a → w.cell? ⟨g, i, none⟩ = some (.int .u8 a)) (hg : g < w.heap.size) (hj : (encN (L.take n))[j]? = some u) : (w.alloc o).cell? ((⟨g, 0, none⟩ : Addr).add j) = some u :=
  srcCell (fun i a ha => (World.cell?_alloc_lt _ _ _ hg).trans (hc i a ha)) hj
theorem srcCell2 {w : World} {g n j : Nat} {L : List Nat} {u : Value} {o o' : Obj} (hc : ∀ (i a : Nat), L[i]? = some a → w.cell? ⟨g, i, none⟩ = some (.int .u8 a)) (hg : g < w.heap.size) (hj : (encN (L.take n))[j]? = some u) : ((w.alloc o).alloc o').cell? ((⟨g, 0, none⟩ : Addr).add j) = some u :=
  srcCell1 (fun i a ha => (World.cell?_alloc_lt _ _ _ hg).trans (hc i a ha)) (by simp; omega) hj
theorem cell_two_ne {w : World} {p b i : Nat} (u v : Value) (hp : p < w.heap.size) (hne : b ≠ p) : ((w.setCell ⟨b, 0, none⟩ u).setCell ⟨b, 1, none⟩ v).cell? ⟨p, i, none⟩ = w.cell? ⟨p, i, none⟩ :=
  (World.cell?_of_block ((grown_cell (w.setCell ⟨b, 0, none⟩ u) b 1 v).block p (Nat.lt_of_lt_of_le hp (grown_cell w b 0 u).size) (fun e => hne (Option.some.inj e).symm))).trans (World.cell?_of_block ((grown_cell w b 0 u).block p hp (fun e => hne (Option.some.inj e).symm)))
/-- What is left behind a drawn order: the new decimal in its own row, in a box made before or after it. -/
theorem leaf1 {w w1 w6 : World} {L : List Nat} {g2 n cap : Nat} {dp : Int} {o : Obj} (hB : Below w.heap.size w w1) (hsz : w1.heap.size = w.heap.size) (hn : n ≤ L.length)
    (hown : w6.ownsRow w1.heap.size 5 1 (.slice (some ⟨g2, 0, none⟩) n cap) n (encN (L.take n))) (hg : (w1.alloc o).grownBy w6 (some w1.heap.size)) :
    Below w.heap.size w (w6.alloc (.cells #[.slice (some ⟨g2, 0, none⟩) n cap, .int .i64 dp] 183)) ∧ DecAt (w6.alloc (.cells #[.slice (some ⟨g2, 0, none⟩) n cap, .int .i64 dp] 183)) w6.heap.size (L.take n) dp (.slice (some ⟨g2, 0, none⟩) n cap) := by
  have h6 := hB.trans ((((Below.refl w1.heap.size w1).alloc (Nat.le_refl _) o).grown hg (by simp) (fun k hk => by injection hk; omega)).mono (by omega))
  have hlt := hown.lt g2 rfl
  refine ⟨h6.alloc h6.size _, heap_alloc_new _ _, ?_, fun _ g hg => ?_⟩
  · have hl : (L.take n).length = n := by rw [List.length_take]; omega
    have h := hown.alloc (.cells #[.slice (some ⟨g2, 0, none⟩) n cap, .int .i64 dp] 183)
    have h2 : (w6.alloc (.cells #[.slice (some ⟨g2, 0, none⟩) n cap, .int .i64 dp] 183)).ownsRow w1.heap.size 5 1 (.slice (some ⟨g2, 0, none⟩) n cap) (L.take n).length (encN (L.take n)) := by rw [hl]; exact h
    exact (digAt_own h2).1
  · simp only [Value.ownBlock, Option.some.injEq] at hg; omega
theorem leaf2 {w w1 w6 : World} {L : List Nat} {g2 q n cap e : Nat} {dp : Int} {o o' : Obj} (hB : Below w.heap.size w w1) (hsz : w1.heap.size = w.heap.size) (hn : n ≤ L.length)
    (hown : w6.ownsRow w1.heap.size 5 1 (.slice (some ⟨g2, 0, none⟩) n cap) n (encN (L.take n))) (hg : ((w1.alloc o).alloc o').grownBy w6 (some e)) (he : w1.heap.size ≤ e) (hq : w1.heap.size ≤ q) (hqe : q ≠ e) (hqg : q ≠ g2)
    (hb : DBox ((w1.alloc o).alloc o') q (.slice none 0 0) 0) :
    Below w.heap.size w ((w6.setCell ⟨q, 0, none⟩ (.slice (some ⟨g2, 0, none⟩) n cap)).setCell ⟨q, 1, none⟩ (.int .i64 dp)) ∧ DecAt ((w6.setCell ⟨q, 0, none⟩ (.slice (some ⟨g2, 0, none⟩) n cap)).setCell ⟨q, 1, none⟩ (.int .i64 dp)) q (L.take n) dp (.slice (some ⟨g2, 0, none⟩) n cap) := by
  have h0 : Below w1.heap.size w1 ((w1.alloc o).alloc o') := ((Below.refl w1.heap.size w1).alloc (Nat.le_refl _) o).alloc (by simp) o'
  have h6 := hB.trans ((h0.grown hg (by simp; omega) (fun k hk => by injection hk; omega)).mono (by omega))
  have hlt := hown.lt g2 rfl
  have hb6 := hb.keep hg (fun e => by injection e; omega)
  have hgr := (grown_cell w6 q 0 (.slice (some ⟨g2, 0, none⟩) n cap)).trans (grown_cell _ q 1 (.int .i64 dp))
  refine ⟨h6.grown hgr h6.size (fun k hk => by injection hk; omega), (hb6.set0 _).set1 _, ?_, fun _ g hg => ?_⟩
  · have hl : (L.take n).length = n := by rw [List.length_take]; omega
    have h := hown.kept hgr (Or.inr (by simp [Value.ownBlock]; omega))
    have h2 : ((w6.setCell ⟨q, 0, none⟩ (.slice (some ⟨g2, 0, none⟩) n cap)).setCell ⟨q, 1, none⟩ (.int .i64 dp)).ownsRow w1.heap.size 5 1 (.slice (some ⟨g2, 0, none⟩) n cap) (L.take n).length (encN (L.take n)) := by rw [hl]; exact h
    exact (digAt_own h2).1
  · simp only [Value.ownBlock, Option.some.injEq] at hg; omega
/-- What down leaves. -/
def DownPost (L : List Nat) (n : Nat) (dp : Int) (w : World) (e : Ending) (w' : World) : Prop := ∃ p D z v, e = .returned (.pointer (some ⟨p, 0, none⟩)) ∧ Below w.heap.size w w' ∧ L.take n = D ++ List.replicate z 0 ∧ Lasted D ∧ DecAt w' p D (if D = [] then 0 else dp) v
theorem DBox.of_new2 (w : World) (o : Obj) : DBox ((w.alloc o).alloc (.cells #[.slice none 0 0, .int .i64 0] 183)) (w.heap.size + 1) (.slice none 0 0) 0 := by
  have h : DBox ((w.alloc o).alloc (.cells #[.slice none 0 0, .int .i64 0] 183)) (w.alloc o).heap.size (.slice none 0 0) 0 := heap_alloc_new _ _
  simpa using h
theorem DBox.of_new1 (w : World) (o : Obj) : DBox ((w.alloc (.cells #[.slice none 0 0, .int .i64 0] 183)).alloc o) w.heap.size (.slice none 0 0) 0 := by
  have h : DBox (w.alloc (.cells #[.slice none 0 0, .int .i64 0] 183)) w.heap.size (.slice none 0 0) 0 := heap_alloc_new _ _
  exact h.below ((Below.refl _ _).alloc (Nat.le_refl _) _)
theorem leaf0a {w w1 : World} {L : List Nat} {dp : Int} (hB : Below w.heap.size w w1) (hsz : w1.heap.size = w.heap.size) :
    Below w.heap.size w ((w1.alloc (.cells #[] 5)).alloc (.cells #[.slice (some ⟨w1.heap.size, 0, none⟩) 0 0, .int .i64 dp] 183)) ∧ DecAt ((w1.alloc (.cells #[] 5)).alloc (.cells #[.slice (some ⟨w1.heap.size, 0, none⟩) 0 0, .int .i64 dp] 183)) (w1.heap.size + 1) (L.take 0) dp (.slice (some ⟨w1.heap.size, 0, none⟩) 0 0) := by
  refine ⟨(hB.alloc hB.size _).alloc (by have := hB.size; simp; omega) _, ?_, ⟨_, 0, rfl, Nat.le_refl _, fun h => absurd rfl h⟩, fun h => absurd rfl h⟩
  have h : DBox ((w1.alloc (.cells #[] 5)).alloc (.cells #[.slice (some ⟨w1.heap.size, 0, none⟩) 0 0, .int .i64 dp] 183)) (w1.alloc (.cells #[] 5)).heap.size (.slice (some ⟨w1.heap.size, 0, none⟩) 0 0) dp := heap_alloc_new _ _
  simpa using h
theorem leaf0b {w w1 : World} {L : List Nat} {dp : Int} (hB : Below w.heap.size w w1) (hsz : w1.heap.size = w.heap.size) :
    Below w.heap.size w ((w1.alloc (.cells #[.slice (some ⟨w1.heap.size + 1, 0, none⟩) 0 0, .int .i64 dp] 183)).alloc (.cells #[] 5)) ∧ DecAt ((w1.alloc (.cells #[.slice (some ⟨w1.heap.size + 1, 0, none⟩) 0 0, .int .i64 dp] 183)).alloc (.cells #[] 5)) w1.heap.size (L.take 0) dp (.slice (some ⟨w1.heap.size + 1, 0, none⟩) 0 0) := by
  refine ⟨(hB.alloc hB.size _).alloc (by have := hB.size; simp; omega) _, ?_, ⟨_, 0, rfl, Nat.le_refl _, fun h => absurd rfl h⟩, fun h => absurd rfl h⟩
  have h : DBox (w1.alloc (.cells #[.slice (some ⟨w1.heap.size + 1, 0, none⟩) 0 0, .int .i64 dp] 183)) w1.heap.size (.slice (some ⟨w1.heap.size + 1, 0, none⟩) 0 0) dp := heap_alloc_new _ _
  exact h.below ((Below.refl _ _).alloc (Nat.le_refl _) _)
theorem down_close {w w' w'' : World} {q n : Nat} {L : List Nat} {dp : Int} {v : Value} {e : Ending} (hB : Below w.heap.size w w') (hq : w.heap.size ≤ q) (hT : TrimPost q (L.take n) dp v w' e w'') : DownPost L n dp w e w'' := by
  obtain ⟨rfl, hg, k, v', hk, hL, hla, _, hd⟩ := hT
  exact ⟨q, _, _, v', rfl, hB.grown hg hB.size (fun b hb => by injection hb; omega), hL, hla, hd⟩
set_option maxRecDepth 100000 in
set_option maxHeartbeats 4000000 in
theorem down_any (w : World) (p : Nat) (L : List Nat) (dp : Int) (v : Value) (h : DecAt w p L dp v) (n : Nat) (hn : n < L.length) (hL : L.length ≤ 1000) :
    Calls Tryz.prog 156 #[.pointer (some ⟨p, 0, none⟩), .int .i64 n] w (DownPost L n dp w) := by
  have c0 := h.box.cell0
  have c1 := h.box.cell1
  have H := Lib.hid h
  obtain ⟨AA, c, rfl, hc, hx⟩ := h.dig
  obtain ⟨g, rfl, hg, hcell⟩ := hx (by rintro rfl; simp at hn)
  have hltp := h.box.lt
  obtain ⟨m, hm⟩ : ∃ m, m = L.length := ⟨_, rfl⟩
  have hnL : n ≤ L.length := by omega
  rw [← hm] at c0 hn hL hc
  have hnm : ¬ ((m : Int) ≤ (n : Int)) := by omega
  have hnc : (n : Int) ≤ (c : Int) := by omega
  have hnc2 : n ≤ c := by omega
  have hn0 : (0 : Int) ≤ (n : Int) := by omega
  have HM := Lib.hid hm
  have HC := Lib.hid hcell
  obtain ⟨i5, hi, he⟩ := Option.map_eq_some_iff.1 info_u8
  have hz0 : i5.zero = some (.int .u8 0) := congrArg (·.1) he
  have hz1 : i5.size = 1 := congrArg (·.2.1) he
  have hz2 : i5.bytes = 1 := congrArg (·.2.2) he
  clear h hx hm hcell he
  go_enter Tryz.func156, Tryz.ntmps156
  go_wp2_with fail
  by_cases hnz : n = 0
  · subst hnz
    refine wp_region_S (Sf := Till 15 (fun W => W.cell? ⟨p, 0, none⟩ = some (.slice (some ⟨g, 0, none⟩) m c) ∧ W.cell? ⟨p, 1, none⟩ = some (.int .i64 dp)) (fun _ => True)) (by kernel_rfl) ?_
    have HBD := Lib.hid (show Below w.heap.size w w.drew from (Below.refl _ _).drew)
    have c0d : w.drew.cell? ⟨p, 0, none⟩ = some (.slice (some ⟨g, 0, none⟩) m c) := c0
    have c1d : w.drew.cell? ⟨p, 1, none⟩ = some (.int .i64 dp) := c1
    have hszd : w.drew.heap.size = w.heap.size := rfl
    have HCD : Hid (∀ (i a : Nat), L[i]? = some a → w.drew.cell? ⟨g, i, none⟩ = some (.int .u8 a)) := HC
    clear c0 c1 HC
    generalize w.drew = w1 at *
    rw [← hszd] at hg hltp
    have HSZ := Lib.hid hszd
    clear hszd
    have p0 : ∀ o, (w1.alloc o).cell? ⟨p, 0, none⟩ = some (.slice (some ⟨g, 0, none⟩) m c) := fun o => (World.cell?_alloc_lt _ _ _ hltp).trans c0d
    have p1 : ∀ o, (w1.alloc o).cell? ⟨p, 1, none⟩ = some (.int .i64 dp) := fun o => (World.cell?_alloc_lt _ _ _ hltp).trans c1d
    have pp0 : ∀ o o', ((w1.alloc o).alloc o').cell? ⟨p, 0, none⟩ = some (.slice (some ⟨g, 0, none⟩) m c) := fun o o' => (World.cell?_alloc_lt _ _ _ (by simp; omega)).trans (p0 o)
    have pp1 : ∀ o o', ((w1.alloc o).alloc o').cell? ⟨p, 1, none⟩ = some (.int .i64 dp) := fun o o' => (World.cell?_alloc_lt _ _ _ (by simp; omega)).trans (p1 o)
    have P := Lib.hid (And.intro p0 (And.intro p1 (And.intro pp0 pp1)))
    clear p0 p1 pp0 pp1
    refine till_take_R (i := 1) 15 (.pointer (some ⟨p, 0, none⟩)) rfl rfl (by kernel_rfl) (by kernel_rfl) (by kernel_rfl) (by decide) (fun _ _ _ h => h) (Or.inl ⟨by rfl, ?_⟩) ⟨⟨c0d, c1d⟩, fun _ => trivial⟩ ?_
    · intro W hW; obtain ⟨h0, h1⟩ := hW; go_simp
    simp only [Act.put, List.setIfInBounds_toArray, List.set_cons_zero, List.set_cons_succ]
    refine till_take_R (i := 2) 16 (.pointer (some ⟨p, 0, none⟩)) rfl rfl (by kernel_rfl) (by kernel_rfl) (by kernel_rfl) (by decide) (fun _ _ _ h => h) (Or.inl ⟨by rfl, ?_⟩) ⟨⟨c0d, c1d⟩, fun _ => trivial⟩ ?_
    · intro W hW; obtain ⟨h0, h1⟩ := hW; go_simp
    simp only [Act.put, List.setIfInBounds_toArray, List.set_cons_zero, List.set_cons_succ]
    refine till_take_R (i := 3) 17 (.pointer (some ⟨p, 0, none⟩)) rfl rfl (by kernel_rfl) (by kernel_rfl) (by kernel_rfl) (by decide) (fun _ _ _ h => h) (Or.inl ⟨by rfl, ?_⟩) ⟨⟨c0d, c1d⟩, fun _ => trivial⟩ ?_
    · intro W hW; obtain ⟨h0, h1⟩ := hW; go_simp
    simp only [Act.put, List.setIfInBounds_toArray, List.set_cons_zero, List.set_cons_succ]
    refine till_take_R (i := 4) 18 (.slice (some ⟨g, 0, none⟩) m c) rfl rfl (by kernel_rfl) (by kernel_rfl) (by kernel_rfl) (by decide) (fun _ _ _ h => h) (Or.inl ⟨by rfl, ?_⟩) ⟨⟨c0d, c1d⟩, fun _ => trivial⟩ ?_
    · intro W hW; obtain ⟨h0, h1⟩ := hW; go_simp
    simp only [Act.put, List.setIfInBounds_toArray, List.set_cons_zero, List.set_cons_succ]
    refine till_take_R (i := 5) 19 (.int .i64 0) rfl rfl (by kernel_rfl) (by kernel_rfl) (by kernel_rfl) (by decide) (fun _ _ _ h => h) (Or.inl ⟨by rfl, ?_⟩) ⟨⟨c0d, c1d⟩, fun _ => trivial⟩ ?_
    · intro W hW; obtain ⟨h0, h1⟩ := hW; go_simp
    simp only [Act.put, List.setIfInBounds_toArray, List.set_cons_zero, List.set_cons_succ]
    refine till_take_R (i := 6) 20 (.int .i64 0) rfl rfl (by kernel_rfl) (by kernel_rfl) (by kernel_rfl) (by decide) (fun _ _ _ h => h) (Or.inl ⟨by rfl, ?_⟩) ⟨⟨c0d, c1d⟩, fun _ => trivial⟩ ?_
    · intro W hW; obtain ⟨h0, h1⟩ := hW; go_simp; try (intros; omega)
    simp only [Act.put, List.setIfInBounds_toArray, List.set_cons_zero, List.set_cons_succ]
    refine till_take_R (i := 7) 21 (.slice (some ⟨g, 0, none⟩) 0 c) rfl rfl (by kernel_rfl) (by kernel_rfl) (by kernel_rfl) (by decide) (fun _ _ _ h => h) (Or.inl ⟨by rfl, ?_⟩) ⟨⟨c0d, c1d⟩, fun _ => trivial⟩ ?_
    · intro W hW; obtain ⟨h0, h1⟩ := hW; go_simp
    simp only [Act.put, List.setIfInBounds_toArray, List.set_cons_zero, List.set_cons_succ]
    refine till_take_R (i := 9) 23 (.pointer (some ⟨p, 0, none⟩)) rfl rfl (by kernel_rfl) (by kernel_rfl) (by kernel_rfl) (by decide) (fun _ _ _ h => h) (Or.inl ⟨by rfl, ?_⟩) ⟨⟨c0d, c1d⟩, fun _ => trivial⟩ ?_
    · intro W hW; obtain ⟨h0, h1⟩ := hW; go_simp
    simp only [Act.put, List.setIfInBounds_toArray, List.set_cons_zero, List.set_cons_succ]
    refine till_take_R (i := 10) 24 (.pointer (some ⟨p, 0, none⟩)) rfl rfl (by kernel_rfl) (by kernel_rfl) (by kernel_rfl) (by decide) (fun _ _ _ h => h) (Or.inl ⟨by rfl, ?_⟩) ⟨⟨c0d, c1d⟩, fun _ => trivial⟩ ?_
    · intro W hW; obtain ⟨h0, h1⟩ := hW; go_simp
    simp only [Act.put, List.setIfInBounds_toArray, List.set_cons_zero, List.set_cons_succ]
    refine till_take_R (i := 11) 25 (.pointer (some ⟨p, 1, none⟩)) rfl rfl (by kernel_rfl) (by kernel_rfl) (by kernel_rfl) (by decide) (fun _ _ _ h => h) (Or.inl ⟨by rfl, ?_⟩) ⟨⟨c0d, c1d⟩, fun _ => trivial⟩ ?_
    · intro W hW; obtain ⟨h0, h1⟩ := hW; go_simp
    simp only [Act.put, List.setIfInBounds_toArray, List.set_cons_zero, List.set_cons_succ]
    refine till_take_R (i := 12) 26 (.int .i64 dp) rfl rfl (by kernel_rfl) (by kernel_rfl) (by kernel_rfl) (by decide) (fun _ _ _ h => h) (Or.inl ⟨by rfl, ?_⟩) ⟨⟨c0d, c1d⟩, fun _ => trivial⟩ ?_
    · intro W hW; obtain ⟨h0, h1⟩ := hW; go_simp
    simp only [Act.put, List.setIfInBounds_toArray, List.set_cons_zero, List.set_cons_succ]
    refine anyS_ready (rs := [0, 14]) (by kernel_rfl) (by simp) ?_
    refine AllS.cons rfl (fun K hK => ?_) (AllS.cons rfl (fun K hK => ?_) AllS.nil)
    · go_simp
      refine hK.out _ _ ⟨⟨P.out.1 _, P.out.2.1 _⟩, fun _ => trivial⟩ ?_
      clear hK K
      refine anyS_ready (rs := [8, 14]) (by kernel_rfl) (by simp) ?_
      refine AllS.cons rfl (fun K hK => ?_) (AllS.cons rfl (fun K hK => ?_) AllS.nil)
      · go_simp
        refine hK.out _ _ ⟨⟨P.out.1 _, P.out.2.1 _⟩, fun _ => trivial⟩ ?_
        clear hK K
        refine till_take_R (i := 13) 27 (.agg #[.slice (some ⟨w1.heap.size, 0, none⟩) 0 0, .int .i64 dp]) rfl rfl (by kernel_rfl) (by kernel_rfl) (by kernel_rfl) (by decide) (fun _ _ _ h => h) (Or.inl ⟨by rfl, ?_⟩) ⟨⟨P.out.1 _, P.out.2.1 _⟩, fun _ => trivial⟩ ?_
        · intro W hW; obtain ⟨h0, h1⟩ := hW; go_simp
        simp only [Act.put, List.setIfInBounds_toArray, List.set_cons_zero, List.set_cons_succ]
        refine anyS_ready (rs := [14]) (by kernel_rfl) (by simp) ?_
        refine AllS.cons rfl (fun K hK => ?_) AllS.nil
        go_simp
        refine hK.out _ _ ⟨⟨P.out.2.2.1 _ _, P.out.2.2.2 _ _⟩, fun _ => trivial⟩ ?_
        clear hK K
        refine anyS_ready (rs := [15]) (by kernel_rfl) (by simp) ?_
        refine AllS.cons rfl (fun K hK => ?_) AllS.nil
        go_simp
        refine hK.out _ _ ⟨⟨P.out.2.2.1 _ _, P.out.2.2.2 _ _⟩, fun _ => trivial⟩ ?_
        clear hK K
        refine anyS_done (by kernel_rfl) ?_ _
        obtain ⟨hb, hd⟩ := leaf0a (L := L) (dp := dp) HBD.out HSZ.out
        have HT := Lib.hid (trim_any _ _ _ _ _ hd (by first | (simp; done) | (simp; omega)))
        have HB := Lib.hid hb
        clear hb hd
        go_wp2_with fail
        refine HT.out.mono ?_
        rintro e w7 hT
        have HP := Lib.hid (down_close HB.out (by have := HSZ.out; omega) hT)
        obtain ⟨rfl, -⟩ := hT
        go_wp2_with fail
        go_ret
        exact HP.out
      · go_simp
        refine hK.out _ _ ⟨⟨P.out.2.2.1 _ _, P.out.2.2.2 _ _⟩, fun _ => trivial⟩ ?_
        clear hK K
        refine anyS_ready (rs := [8]) (by kernel_rfl) (by simp) ?_
        refine AllS.cons rfl (fun K hK => ?_) AllS.nil
        go_simp
        refine hK.out _ _ ⟨⟨P.out.2.2.1 _ _, P.out.2.2.2 _ _⟩, fun _ => trivial⟩ ?_
        clear hK K
        refine till_take_R (i := 13) 27 (.agg #[.slice (some ⟨w1.heap.size, 0, none⟩) 0 0, .int .i64 dp]) rfl rfl (by kernel_rfl) (by kernel_rfl) (by kernel_rfl) (by decide) (fun _ _ _ h => h) (Or.inl ⟨by rfl, ?_⟩) ⟨⟨P.out.2.2.1 _ _, P.out.2.2.2 _ _⟩, fun _ => trivial⟩ ?_
        · intro W hW; obtain ⟨h0, h1⟩ := hW; go_simp
        simp only [Act.put, List.setIfInBounds_toArray, List.set_cons_zero, List.set_cons_succ]
        refine anyS_ready (rs := [15]) (by kernel_rfl) (by simp) ?_
        refine AllS.cons rfl (fun K hK => ?_) AllS.nil
        go_simp
        refine hK.out _ _ ⟨⟨P.out.2.2.1 _ _, P.out.2.2.2 _ _⟩, fun _ => trivial⟩ ?_
        clear hK K
        refine anyS_done (by kernel_rfl) ?_ _
        obtain ⟨hb, hd⟩ := leaf0a (L := L) (dp := dp) HBD.out HSZ.out
        have HT := Lib.hid (trim_any _ _ _ _ _ hd (by first | (simp; done) | (simp; omega)))
        have HB := Lib.hid hb
        clear hb hd
        go_wp2_with fail
        refine HT.out.mono ?_
        rintro e w7 hT
        have HP := Lib.hid (down_close HB.out (by have := HSZ.out; omega) hT)
        obtain ⟨rfl, -⟩ := hT
        go_wp2_with fail
        go_ret
        exact HP.out
    · go_simp
      refine hK.out _ _ ⟨⟨P.out.1 _, P.out.2.1 _⟩, fun _ => trivial⟩ ?_
      clear hK K
      refine anyS_ready (rs := [0]) (by kernel_rfl) (by simp) ?_
      refine AllS.cons rfl (fun K hK => ?_) AllS.nil
      go_simp
      refine hK.out _ _ ⟨⟨P.out.2.2.1 _ _, P.out.2.2.2 _ _⟩, fun _ => trivial⟩ ?_
      clear hK K
      refine anyS_ready (rs := [8]) (by kernel_rfl) (by simp) ?_
      refine AllS.cons rfl (fun K hK => ?_) AllS.nil
      go_simp
      refine hK.out _ _ ⟨⟨P.out.2.2.1 _ _, P.out.2.2.2 _ _⟩, fun _ => trivial⟩ ?_
      clear hK K
      refine till_take_R (i := 13) 27 (.agg #[.slice (some ⟨w1.heap.size + 1, 0, none⟩) 0 0, .int .i64 dp]) rfl rfl (by kernel_rfl) (by kernel_rfl) (by kernel_rfl) (by decide) (fun _ _ _ h => h) (Or.inl ⟨by rfl, ?_⟩) ⟨⟨P.out.2.2.1 _ _, P.out.2.2.2 _ _⟩, fun _ => trivial⟩ ?_
      · intro W hW; obtain ⟨h0, h1⟩ := hW; go_simp
      simp only [Act.put, List.setIfInBounds_toArray, List.set_cons_zero, List.set_cons_succ]
      refine anyS_ready (rs := [15]) (by kernel_rfl) (by simp) ?_
      refine AllS.cons rfl (fun K hK => ?_) AllS.nil
      go_simp
      refine hK.out _ _ ⟨⟨P.out.2.2.1 _ _, P.out.2.2.2 _ _⟩, fun _ => trivial⟩ ?_
      clear hK K
      refine anyS_done (by kernel_rfl) ?_ _
      obtain ⟨hb, hd⟩ := leaf0b (L := L) (dp := dp) HBD.out HSZ.out
      have HT := Lib.hid (trim_any _ _ _ _ _ hd (by first | (simp; done) | (simp; omega)))
      have HB := Lib.hid hb
      clear hb hd
      go_wp2_with fail
      refine HT.out.mono ?_
      rintro e w7 hT
      have HP := Lib.hid (down_close HB.out (by have := HSZ.out; omega) hT)
      obtain ⟨rfl, -⟩ := hT
      go_wp2_with fail
      go_ret
      exact HP.out
  · have hnp : 0 < n := Nat.pos_of_ne_zero hnz
    refine wp_region_S (Sf := Till 15 (fun W => W.cell? ⟨p, 0, none⟩ = some (.slice (some ⟨g, 0, none⟩) m c) ∧ W.cell? ⟨p, 1, none⟩ = some (.int .i64 dp)) (fun _ => True)) (by kernel_rfl) ?_
    have HBD := Lib.hid (show Below w.heap.size w w.drew from (Below.refl _ _).drew)
    have c0d : w.drew.cell? ⟨p, 0, none⟩ = some (.slice (some ⟨g, 0, none⟩) m c) := c0
    have c1d : w.drew.cell? ⟨p, 1, none⟩ = some (.int .i64 dp) := c1
    have hszd : w.drew.heap.size = w.heap.size := rfl
    have HCD : Hid (∀ (i a : Nat), L[i]? = some a → w.drew.cell? ⟨g, i, none⟩ = some (.int .u8 a)) := HC
    clear c0 c1 HC
    generalize w.drew = w1 at *
    rw [← hszd] at hg hltp
    have HSZ := Lib.hid hszd
    clear hszd
    have p0 : ∀ o, (w1.alloc o).cell? ⟨p, 0, none⟩ = some (.slice (some ⟨g, 0, none⟩) m c) := fun o => (World.cell?_alloc_lt _ _ _ hltp).trans c0d
    have p1 : ∀ o, (w1.alloc o).cell? ⟨p, 1, none⟩ = some (.int .i64 dp) := fun o => (World.cell?_alloc_lt _ _ _ hltp).trans c1d
    have pp0 : ∀ o o', ((w1.alloc o).alloc o').cell? ⟨p, 0, none⟩ = some (.slice (some ⟨g, 0, none⟩) m c) := fun o o' => (World.cell?_alloc_lt _ _ _ (by simp; omega)).trans (p0 o)
    have pp1 : ∀ o o', ((w1.alloc o).alloc o').cell? ⟨p, 1, none⟩ = some (.int .i64 dp) := fun o o' => (World.cell?_alloc_lt _ _ _ (by simp; omega)).trans (p1 o)
    have P := Lib.hid (And.intro p0 (And.intro p1 (And.intro pp0 pp1)))
    clear p0 p1 pp0 pp1
    refine till_take_R (i := 1) 15 (.pointer (some ⟨p, 0, none⟩)) rfl rfl (by kernel_rfl) (by kernel_rfl) (by kernel_rfl) (by decide) (fun _ _ _ h => h) (Or.inl ⟨by rfl, ?_⟩) ⟨⟨c0d, c1d⟩, fun _ => trivial⟩ ?_
    · intro W hW; obtain ⟨h0, h1⟩ := hW; go_simp
    simp only [Act.put, List.setIfInBounds_toArray, List.set_cons_zero, List.set_cons_succ]
    refine till_take_R (i := 2) 16 (.pointer (some ⟨p, 0, none⟩)) rfl rfl (by kernel_rfl) (by kernel_rfl) (by kernel_rfl) (by decide) (fun _ _ _ h => h) (Or.inl ⟨by rfl, ?_⟩) ⟨⟨c0d, c1d⟩, fun _ => trivial⟩ ?_
    · intro W hW; obtain ⟨h0, h1⟩ := hW; go_simp
    simp only [Act.put, List.setIfInBounds_toArray, List.set_cons_zero, List.set_cons_succ]
    refine till_take_R (i := 3) 17 (.pointer (some ⟨p, 0, none⟩)) rfl rfl (by kernel_rfl) (by kernel_rfl) (by kernel_rfl) (by decide) (fun _ _ _ h => h) (Or.inl ⟨by rfl, ?_⟩) ⟨⟨c0d, c1d⟩, fun _ => trivial⟩ ?_
    · intro W hW; obtain ⟨h0, h1⟩ := hW; go_simp
    simp only [Act.put, List.setIfInBounds_toArray, List.set_cons_zero, List.set_cons_succ]
    refine till_take_R (i := 4) 18 (.slice (some ⟨g, 0, none⟩) m c) rfl rfl (by kernel_rfl) (by kernel_rfl) (by kernel_rfl) (by decide) (fun _ _ _ h => h) (Or.inl ⟨by rfl, ?_⟩) ⟨⟨c0d, c1d⟩, fun _ => trivial⟩ ?_
    · intro W hW; obtain ⟨h0, h1⟩ := hW; go_simp
    simp only [Act.put, List.setIfInBounds_toArray, List.set_cons_zero, List.set_cons_succ]
    refine till_take_R (i := 5) 19 (.int .i64 n) rfl rfl (by kernel_rfl) (by kernel_rfl) (by kernel_rfl) (by decide) (fun _ _ _ h => h) (Or.inl ⟨by rfl, ?_⟩) ⟨⟨c0d, c1d⟩, fun _ => trivial⟩ ?_
    · intro W hW; obtain ⟨h0, h1⟩ := hW; go_simp
    simp only [Act.put, List.setIfInBounds_toArray, List.set_cons_zero, List.set_cons_succ]
    refine till_take_R (i := 6) 20 (.int .i64 n) rfl rfl (by kernel_rfl) (by kernel_rfl) (by kernel_rfl) (by decide) (fun _ _ _ h => h) (Or.inl ⟨by rfl, ?_⟩) ⟨⟨c0d, c1d⟩, fun _ => trivial⟩ ?_
    · intro W hW; obtain ⟨h0, h1⟩ := hW; go_simp; try (intros; omega)
    simp only [Act.put, List.setIfInBounds_toArray, List.set_cons_zero, List.set_cons_succ]
    refine till_take_R (i := 7) 21 (.slice (some ⟨g, 0, none⟩) n c) rfl rfl (by kernel_rfl) (by kernel_rfl) (by kernel_rfl) (by decide) (fun _ _ _ h => h) (Or.inl ⟨by rfl, ?_⟩) ⟨⟨c0d, c1d⟩, fun _ => trivial⟩ ?_
    · intro W hW; obtain ⟨h0, h1⟩ := hW; go_simp
    simp only [Act.put, List.setIfInBounds_toArray, List.set_cons_zero, List.set_cons_succ]
    refine till_take_R (i := 9) 23 (.pointer (some ⟨p, 0, none⟩)) rfl rfl (by kernel_rfl) (by kernel_rfl) (by kernel_rfl) (by decide) (fun _ _ _ h => h) (Or.inl ⟨by rfl, ?_⟩) ⟨⟨c0d, c1d⟩, fun _ => trivial⟩ ?_
    · intro W hW; obtain ⟨h0, h1⟩ := hW; go_simp
    simp only [Act.put, List.setIfInBounds_toArray, List.set_cons_zero, List.set_cons_succ]
    refine till_take_R (i := 10) 24 (.pointer (some ⟨p, 0, none⟩)) rfl rfl (by kernel_rfl) (by kernel_rfl) (by kernel_rfl) (by decide) (fun _ _ _ h => h) (Or.inl ⟨by rfl, ?_⟩) ⟨⟨c0d, c1d⟩, fun _ => trivial⟩ ?_
    · intro W hW; obtain ⟨h0, h1⟩ := hW; go_simp
    simp only [Act.put, List.setIfInBounds_toArray, List.set_cons_zero, List.set_cons_succ]
    refine till_take_R (i := 11) 25 (.pointer (some ⟨p, 1, none⟩)) rfl rfl (by kernel_rfl) (by kernel_rfl) (by kernel_rfl) (by decide) (fun _ _ _ h => h) (Or.inl ⟨by rfl, ?_⟩) ⟨⟨c0d, c1d⟩, fun _ => trivial⟩ ?_
    · intro W hW; obtain ⟨h0, h1⟩ := hW; go_simp
    simp only [Act.put, List.setIfInBounds_toArray, List.set_cons_zero, List.set_cons_succ]
    refine till_take_R (i := 12) 26 (.int .i64 dp) rfl rfl (by kernel_rfl) (by kernel_rfl) (by kernel_rfl) (by decide) (fun _ _ _ h => h) (Or.inl ⟨by rfl, ?_⟩) ⟨⟨c0d, c1d⟩, fun _ => trivial⟩ ?_
    · intro W hW; obtain ⟨h0, h1⟩ := hW; go_simp
    simp only [Act.put, List.setIfInBounds_toArray, List.set_cons_zero, List.set_cons_succ]
    refine anyS_ready (rs := [0, 14]) (by kernel_rfl) (by simp) ?_
    refine AllS.cons rfl (fun K hK => ?_) (AllS.cons rfl (fun K hK => ?_) AllS.nil)
    · go_simp
      refine hK.out _ _ ⟨⟨P.out.1 _, P.out.2.1 _⟩, fun _ => trivial⟩ ?_
      clear hK K
      refine anyS_ready (rs := [8, 14]) (by kernel_rfl) (by simp) ?_
      refine AllS.cons rfl (fun K hK => ?_) (AllS.cons rfl (fun K hK => ?_) AllS.nil)
      · refine step_append_lies _ (by rfl) _ _ 72 (by rfl) w1.heap.size 5 i5 (.int .u8 0) 1 1 Tryz.underlying72 hi hz0 hz1 hz2 rfl (by decide) (.slice (some ⟨w1.heap.size, 0, none⟩) 0 0) 0 [] (by rfl) (ownEmpty w1 (Nat.le_refl _)) ⟨g, 0, none⟩ n c (encN (L.take n)) (by rfl) (encN_take (by omega)) (fun j u hj => srcCell1 HCD.out hg hj) (by simp [encN, Value.oneCell']; intro u hu; obtain ⟨_, _, rfl⟩ := List.mem_map.1 (List.mem_of_mem_take hu); rfl) (by omega) (by unfold maxLen; omega) (by omega) (by first | (simp; done) | (simp; omega)) _ rfl ?_
        intro g2 cap w6 hown6 hg6 hat6 hlt6
        simp only [Nat.zero_add, List.nil_append] at hown6 ⊢
        have q0 : w6.cell? ⟨p, 0, none⟩ = some (.slice (some ⟨g, 0, none⟩) m c) := (World.cell?_of_block (hg6.block p (by simp; omega) (fun e => by simp [Value.ownBlock] at e; omega))).trans (P.out.1 _)
        have q1 : w6.cell? ⟨p, 1, none⟩ = some (.int .i64 dp) := (World.cell?_of_block (hg6.block p (by simp; omega) (fun e => by simp [Value.ownBlock] at e; omega))).trans (P.out.2.1 _)
        have hge2 := (hown6.lt g2 rfl).1
        have h61 := hg6.size
        have hp6 : p < w6.heap.size := by simp at h61; omega
        have R6 := Lib.hid (And.intro (fun o => (World.cell?_alloc_lt w6 o ⟨p, 0, none⟩ hp6).trans q0) (fun o => (World.cell?_alloc_lt w6 o ⟨p, 1, none⟩ hp6).trans q1))
        have HO6 := Lib.hid (And.intro hown6 (And.intro hg6 hat6))
        clear hown6 hg6 hat6
        change K (Act.put _ (some 22) _) _
        refine hK.out _ _ ⟨⟨q0, q1⟩, fun _ => trivial⟩ ?_
        clear hK K
        refine till_take_R (i := 13) 27 (.agg #[.slice (some ⟨g2, 0, none⟩) n cap, .int .i64 dp]) rfl rfl (by kernel_rfl) (by kernel_rfl) (by kernel_rfl) (by decide) (fun _ _ _ h => h) (Or.inl ⟨by rfl, ?_⟩) ⟨⟨q0, q1⟩, fun _ => trivial⟩ ?_
        · intro W hW; obtain ⟨h0, h1⟩ := hW; go_simp
        simp only [Act.put, List.setIfInBounds_toArray, List.set_cons_zero, List.set_cons_succ]
        refine anyS_ready (rs := [14]) (by kernel_rfl) (by simp) ?_
        refine AllS.cons rfl (fun K hK => ?_) AllS.nil
        go_simp
        refine hK.out _ _ ⟨⟨R6.out.1 _, R6.out.2 _⟩, fun _ => trivial⟩ ?_
        clear hK K
        refine anyS_ready (rs := [15]) (by kernel_rfl) (by simp) ?_
        refine AllS.cons rfl (fun K hK => ?_) AllS.nil
        go_simp
        refine hK.out _ _ ⟨⟨R6.out.1 _, R6.out.2 _⟩, fun _ => trivial⟩ ?_
        clear hK K
        refine anyS_done (by kernel_rfl) ?_ _
        obtain ⟨hb, hd⟩ := leaf1 (dp := dp) HBD.out HSZ.out (by omega) HO6.out.1 HO6.out.2.1
        have HT := Lib.hid (trim_any _ _ _ _ _ hd (by first | (simp; done) | (simp; omega)))
        have HB := Lib.hid hb
        clear hb hd
        go_wp2_with fail
        refine HT.out.mono ?_
        rintro e w7 hT
        have HP := Lib.hid (down_close HB.out (by have := HSZ.out; omega) hT)
        obtain ⟨rfl, -⟩ := hT
        go_wp2_with fail
        go_ret
        exact HP.out
      · go_simp
        refine hK.out _ _ ⟨⟨P.out.2.2.1 _ _, P.out.2.2.2 _ _⟩, fun _ => trivial⟩ ?_
        clear hK K
        refine anyS_ready (rs := [8]) (by kernel_rfl) (by simp) ?_
        refine AllS.cons rfl (fun K hK => ?_) AllS.nil
        refine step_append_lies _ (by rfl) _ _ 72 (by rfl) w1.heap.size 5 i5 (.int .u8 0) 1 1 Tryz.underlying72 hi hz0 hz1 hz2 rfl (by decide) (.slice (some ⟨w1.heap.size, 0, none⟩) 0 0) 0 [] (by rfl) ((ownEmpty w1 (Nat.le_refl _)).alloc _) ⟨g, 0, none⟩ n c (encN (L.take n)) (by rfl) (encN_take (by omega)) (fun j u hj => srcCell2 HCD.out hg hj) (by simp [encN, Value.oneCell']; intro u hu; obtain ⟨_, _, rfl⟩ := List.mem_map.1 (List.mem_of_mem_take hu); rfl) (by omega) (by unfold maxLen; omega) (by omega) (by first | (simp; done) | (simp; omega)) _ rfl ?_
        intro g2 cap w6 hown6 hg6 hat6 hlt6
        simp only [Nat.zero_add, List.nil_append] at hown6 ⊢
        have q0 : w6.cell? ⟨p, 0, none⟩ = some (.slice (some ⟨g, 0, none⟩) m c) := (World.cell?_of_block (hg6.block p (by simp; omega) (fun e => by simp [Value.ownBlock] at e; omega))).trans (P.out.2.2.1 _ _)
        have q1 : w6.cell? ⟨p, 1, none⟩ = some (.int .i64 dp) := (World.cell?_of_block (hg6.block p (by simp; omega) (fun e => by simp [Value.ownBlock] at e; omega))).trans (P.out.2.2.2 _ _)
        have hge2 := (hown6.lt g2 rfl).1
        have h61 := hg6.size
        have hne6 : w1.heap.size + 1 ≠ g2 := by simp [Value.ownBlock] at hat6; omega
        have hbq : DBox w6 (w1.heap.size + 1) (.slice none 0 0) 0 := (DBox.of_new2 w1 _).keep hg6 (fun e => by simp [Value.ownBlock] at e)
        have qc0 := hbq.cell0
        have qc1 := hbq.cell1
        have qf0 := hbq.frozen 0
        have qf1 := hbq.frozen 1
        have qlt := hbq.lt
        clear hbq
        have hp6 : p < w6.heap.size := by simp at h61; omega
        have R6 := Lib.hid (And.intro (fun o => (World.cell?_alloc_lt w6 o ⟨p, 0, none⟩ hp6).trans q0) (fun o => (World.cell?_alloc_lt w6 o ⟨p, 1, none⟩ hp6).trans q1))
        have HO6 := Lib.hid (And.intro hown6 (And.intro hg6 hat6))
        clear hown6 hg6 hat6
        change K (Act.put _ (some 22) _) _
        refine hK.out _ _ ⟨⟨q0, q1⟩, fun _ => trivial⟩ ?_
        clear hK K
        refine till_take_R (i := 13) 27 (.agg #[.slice (some ⟨g2, 0, none⟩) n cap, .int .i64 dp]) rfl rfl (by kernel_rfl) (by kernel_rfl) (by kernel_rfl) (by decide) (fun _ _ _ h => h) (Or.inl ⟨by rfl, ?_⟩) ⟨⟨q0, q1⟩, fun _ => trivial⟩ ?_
        · intro W hW; obtain ⟨h0, h1⟩ := hW; go_simp
        simp only [Act.put, List.setIfInBounds_toArray, List.set_cons_zero, List.set_cons_succ]
        refine anyS_ready (rs := [15]) (by kernel_rfl) (by simp) ?_
        refine AllS.cons rfl (fun K hK => ?_) AllS.nil
        go_simp
        refine hK.out _ _ ⟨⟨(cell_two_ne (b := w1.heap.size + 1) _ _ hp6 (by omega)).trans q0, (cell_two_ne (b := w1.heap.size + 1) _ _ hp6 (by omega)).trans q1⟩, fun _ => trivial⟩ ?_
        clear hK K
        refine anyS_done (by kernel_rfl) ?_ _
        obtain ⟨hb, hd⟩ := leaf2 (q := w1.heap.size + 1) (e := w1.heap.size) (dp := dp) HBD.out HSZ.out (by omega) HO6.out.1 HO6.out.2.1 (Nat.le_refl _) (by omega) (by omega) hne6 (DBox.of_new2 w1 _)
        have HT := Lib.hid (trim_any _ _ _ _ _ hd (by first | (simp; done) | (simp; omega)))
        have HB := Lib.hid hb
        clear hb hd
        go_wp2_with fail
        refine HT.out.mono ?_
        rintro e w7 hT
        have HP := Lib.hid (down_close HB.out (by have := HSZ.out; omega) hT)
        obtain ⟨rfl, -⟩ := hT
        go_wp2_with fail
        go_ret
        exact HP.out
    · go_simp
      refine hK.out _ _ ⟨⟨P.out.1 _, P.out.2.1 _⟩, fun _ => trivial⟩ ?_
      clear hK K
      refine anyS_ready (rs := [0]) (by kernel_rfl) (by simp) ?_
      refine AllS.cons rfl (fun K hK => ?_) AllS.nil
      go_simp
      refine hK.out _ _ ⟨⟨P.out.2.2.1 _ _, P.out.2.2.2 _ _⟩, fun _ => trivial⟩ ?_
      clear hK K
      refine anyS_ready (rs := [8]) (by kernel_rfl) (by simp) ?_
      refine AllS.cons rfl (fun K hK => ?_) AllS.nil
      refine step_append_lies _ (by rfl) _ _ 72 (by rfl) w1.heap.size 5 i5 (.int .u8 0) 1 1 Tryz.underlying72 hi hz0 hz1 hz2 rfl (by decide) (.slice (some ⟨w1.heap.size + 1, 0, none⟩) 0 0) 0 [] (by rfl) (ownEmpty2 w1 _ (Nat.le_refl _)) ⟨g, 0, none⟩ n c (encN (L.take n)) (by rfl) (encN_take (by omega)) (fun j u hj => srcCell2 HCD.out hg hj) (by simp [encN, Value.oneCell']; intro u hu; obtain ⟨_, _, rfl⟩ := List.mem_map.1 (List.mem_of_mem_take hu); rfl) (by omega) (by unfold maxLen; omega) (by omega) (by first | (simp; done) | (simp; omega)) _ rfl ?_
      intro g2 cap w6 hown6 hg6 hat6 hlt6
      simp only [Nat.zero_add, List.nil_append] at hown6 ⊢
      have q0 : w6.cell? ⟨p, 0, none⟩ = some (.slice (some ⟨g, 0, none⟩) m c) := (World.cell?_of_block (hg6.block p (by simp; omega) (fun e => by simp [Value.ownBlock] at e; omega))).trans (P.out.2.2.1 _ _)
      have q1 : w6.cell? ⟨p, 1, none⟩ = some (.int .i64 dp) := (World.cell?_of_block (hg6.block p (by simp; omega) (fun e => by simp [Value.ownBlock] at e; omega))).trans (P.out.2.2.2 _ _)
      have hge2 := (hown6.lt g2 rfl).1
      have h61 := hg6.size
      have hne6 : w1.heap.size ≠ g2 := by simp [Value.ownBlock] at hat6; omega
      have hbq : DBox w6 (w1.heap.size) (.slice none 0 0) 0 := (DBox.of_new1 w1 _).keep hg6 (fun e => by simp [Value.ownBlock] at e)
      have qc0 := hbq.cell0
      have qc1 := hbq.cell1
      have qf0 := hbq.frozen 0
      have qf1 := hbq.frozen 1
      have qlt := hbq.lt
      clear hbq
      have hp6 : p < w6.heap.size := by simp at h61; omega
      have R6 := Lib.hid (And.intro (fun o => (World.cell?_alloc_lt w6 o ⟨p, 0, none⟩ hp6).trans q0) (fun o => (World.cell?_alloc_lt w6 o ⟨p, 1, none⟩ hp6).trans q1))
      have HO6 := Lib.hid (And.intro hown6 (And.intro hg6 hat6))
      clear hown6 hg6 hat6
      change K (Act.put _ (some 22) _) _
      refine hK.out _ _ ⟨⟨q0, q1⟩, fun _ => trivial⟩ ?_
      clear hK K
      refine till_take_R (i := 13) 27 (.agg #[.slice (some ⟨g2, 0, none⟩) n cap, .int .i64 dp]) rfl rfl (by kernel_rfl) (by kernel_rfl) (by kernel_rfl) (by decide) (fun _ _ _ h => h) (Or.inl ⟨by rfl, ?_⟩) ⟨⟨q0, q1⟩, fun _ => trivial⟩ ?_
      · intro W hW; obtain ⟨h0, h1⟩ := hW; go_simp
      simp only [Act.put, List.setIfInBounds_toArray, List.set_cons_zero, List.set_cons_succ]
      refine anyS_ready (rs := [15]) (by kernel_rfl) (by simp) ?_
      refine AllS.cons rfl (fun K hK => ?_) AllS.nil
      go_simp
      refine hK.out _ _ ⟨⟨(cell_two_ne (b := w1.heap.size) _ _ hp6 (by omega)).trans q0, (cell_two_ne (b := w1.heap.size) _ _ hp6 (by omega)).trans q1⟩, fun _ => trivial⟩ ?_
      clear hK K
      refine anyS_done (by kernel_rfl) ?_ _
      obtain ⟨hb, hd⟩ := leaf2 (q := w1.heap.size) (e := w1.heap.size + 1) (dp := dp) HBD.out HSZ.out (by omega) HO6.out.1 HO6.out.2.1 (by omega) (Nat.le_refl _) (by omega) hne6 (DBox.of_new1 w1 _)
      have HT := Lib.hid (trim_any _ _ _ _ _ hd (by first | (simp; done) | (simp; omega)))
      have HB := Lib.hid hb
      clear hb hd
      go_wp2_with fail
      refine HT.out.mono ?_
      rintro e w7 hT
      have HP := Lib.hid (down_close HB.out (by have := HSZ.out; omega) hT)
      obtain ⟨rfl, -⟩ := hT
      go_wp2_with fail
      go_ret
      exact HP.out
end Go.Proofs.YtpigccnlembfdaaGreatDoor
