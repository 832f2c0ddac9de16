/- Rounding up, the shortest text of a half, FormatFloat at a half. Conditions: as each theorem states. -/
import Derived.Test.YtpigccnlembfdaaGreatDoorPvC
import Derived.Test.YtpigccnlembfdaaGreatDoorRows
import Derived.Laws.FloatArith
import Derived.Laws.Cover2
import Derived.Laws.Bits64b
import Derived.Laws.BitsLemmas
import Derived.Laws.Externs
import Derived.Handy

/- The walk of a decimal's up: fewer digits, the last of them one more. Conditions: as the theorem states. -/
namespace Go.Proofs.YtpigccnlembfdaaGreatDoor
open Go.RowKit

theorem up_leaf {w W : World} {q g j cap d B : Nat} {L : List Nat} {dp : Int} (hB : Below w.heap.size w W) (hbx : DBox W q (.slice (some ⟨g, 0, none⟩) (j + 1) cap) dp)
    (hown : W.ownsRow B 5 1 (.slice (some ⟨g, 0, none⟩) (j + 1) cap) (j + 1) (encN (L.take (j + 1)))) (hb : w.heap.size ≤ B) (hne : g ≠ q) (hd : L[j]? = some d) :
    Below w.heap.size w (W.setCell ⟨g, j, none⟩ (.int .u8 ((d : Int) + 1))) ∧ DecAt (W.setCell ⟨g, j, none⟩ (.int .u8 ((d : Int) + 1))) q (L.take j ++ [d + 1]) dp (.slice (some ⟨g, 0, none⟩) (j + 1) cap) := by
  have hlt := (hown.lt g rfl)
  have hwg : w.heap.size ≤ g := Nat.le_trans hb hlt.1
  have hj : j < L.length := (List.getElem?_eq_some_iff.1 hd).1
  have hl : (L.take j).length = j := by rw [List.length_take]; omega
  have hst := (hown.stored j (.int .u8 ((d : Int) + 1))).1
  have hx : (encN (L.take (j + 1))).set j (.int .u8 ((d : Int) + 1)) = encN (L.take j ++ [d + 1]) := by
    rw [take_snocD L j d hd, encN_append, List.set_append, if_neg (by simp [encN]; omega)]
    rw [show j - (encN (List.take j L)).length = 0 by simp [encN]; omega]
    rw [encN_append]
    simp [encN]
  rw [hx] at hst
  refine ⟨hB.setCell (p := ⟨g, j, none⟩) hwg _, hbx.keep (grown_cell W g j _) (fun e => hne (Option.some.inj e).symm), ?_, fun _ g' hg' => ?_⟩
  · have : (L.take j ++ [d + 1]).length = j + 1 := by simp; omega
    have h2 : (W.setCell ⟨g, j, none⟩ (.int .u8 ((d : Int) + 1))).ownsRow B 5 1 (.slice (some ⟨g, 0, none⟩) (j + 1) cap) (L.take j ++ [d + 1]).length (encN (L.take j ++ [d + 1])) := by rw [this]; exact hst
    exact (digAt_own h2).1
  · simp only [Value.ownBlock, Option.some.injEq] at hg'; omega

theorem up_one (w : World) (dp : Int) : Below w.heap.size w ((w.alloc (.cells #[.int .u8 1] 5)).alloc (.cells #[.slice (some ⟨w.heap.size, 0, none⟩) 1 1, .int .i64 dp] 183)) ∧
    DecAt ((w.alloc (.cells #[.int .u8 1] 5)).alloc (.cells #[.slice (some ⟨w.heap.size, 0, none⟩) 1 1, .int .i64 dp] 183)) (w.heap.size + 1) [1] dp (.slice (some ⟨w.heap.size, 0, none⟩) 1 1) := by
  have hown : ((w.alloc (.cells #[.int .u8 1] 5)).alloc (.cells #[.slice (some ⟨w.heap.size, 0, none⟩) 1 1, .int .i64 dp] 183)).ownsRow w.heap.size 5 1 (.slice (some ⟨w.heap.size, 0, none⟩) 1 1) [1].length (encN [1]) :=
    (World.ownsRow_lit w #[.int .u8 1] 1 (Nat.le_refl _) (by decide) rfl).alloc _
  refine ⟨((Below.refl _ _).alloc (Nat.le_refl _) _).alloc (by simp) _, ?_, (digAt_own hown).1, fun _ g hg => ?_⟩
  · have h : DBox ((w.alloc (.cells #[.int .u8 1] 5)).alloc (.cells #[.slice (some ⟨w.heap.size, 0, none⟩) 1 1, .int .i64 dp] 183)) (w.alloc (.cells #[.int .u8 1] 5)).heap.size (.slice (some ⟨w.heap.size, 0, none⟩) 1 1) dp := heap_alloc_new _ _
    simpa using h
  · simp only [Value.ownBlock, Option.some.injEq] at hg; omega
/-- What up leaves. -/
def UpPost (L : List Nat) (n : Nat) (dp : Int) (w : World) (e : Ending) (w' : World) : Prop := ∃ p L' dp' v, e = .returned (.pointer (some ⟨p, 0, none⟩)) ∧ Below w.heap.size w w' ∧ DecAt w' p L' dp' v ∧
  ((∃ j d, j < n ∧ L[j]? = some d ∧ d < 9 ∧ (∀ i, j < i → i < n → 9 ≤ at0 L i) ∧ L' = L.take j ++ [d + 1] ∧ dp' = dp) ∨ ((∀ i, i < n → 9 ≤ at0 L i) ∧ L' = [1] ∧ dp' = dp + 1))
set_option maxRecDepth 100000 in
set_option maxHeartbeats 4000000 in
theorem up_any (w : World) (p : Nat) (L : List Nat) (dp : Int) (v : Value) (h : DecAt w p L dp v) (n : Nat) (hn : n < L.length) (hL : L.length ≤ 1000) (hdp : dp ≤ 2000) (hdp2 : -2000 ≤ dp) (ht : Ten L) :
    Calls Tryz.prog 157 #[.pointer (some ⟨p, 0, none⟩), .int .i64 n] w (UpPost L n dp w) := by
  have c0 := h.box.cell0
  have c1 := h.box.cell1
  have H := Lib.hid h
  obtain ⟨AA, c, rfl, hc, hx⟩ := h.dig
  obtain ⟨g, rfl, hg, hcell⟩ := hx (by rintro rfl; simp at hn)
  have hltp := h.box.lt
  obtain ⟨m, hm⟩ : ∃ m, m = L.length := ⟨_, rfl⟩
  have hnL : n < L.length := hn
  rw [← hm] at c0 hn hL hc
  have hnm : ¬ ((m : Int) ≤ (n : Int)) := by omega
  have HM := Lib.hid hm
  have HC := Lib.hid hcell
  have HT := Lib.hid ht
  obtain ⟨i5, hi, he⟩ := Option.map_eq_some_iff.1 info_u8
  have hz0 : i5.zero = some (.int .u8 0) := congrArg (·.1) he
  have hz1 : i5.size = 1 := congrArg (·.2.1) he
  have hz2 : i5.bytes = 1 := congrArg (·.2.2) he
  have hwn : IntKind.i64.wrap ((n : Int) - 1) = (n : Int) - 1 := IntWalk.i64_in _ (by omega)
  have HWN := Lib.hid hwn
  clear h hx hm hcell he ht hwn
  go_enter Tryz.func157, Tryz.ntmps157
  go_wp2_with fail
  first | rw [HWN.out] | skip
  go_loop [5] (fun iv => ∃ x : Int, iv = .int .i64 x ∧ -1 ≤ x ∧ x < n ∧ Hid (∀ i : Nat, x < i → i < n → 9 ≤ at0 L i)) (fun iv => (intOf iv + 1).toNat)
  case atStart => exact ⟨(n : Int) - 1, rfl, by omega, by omega, Lib.hid (fun i h1 h2 => by omega)⟩
  case round =>
    obtain ⟨x, rfl, hx1, hx2, HX⟩ := hrel
    by_cases hx0 : x < 0
    · obtain rfl : x = -1 := by omega
      have hwd : IntKind.i64.wrap (dp + 1) = dp + 1 := IntWalk.i64_in _ (by omega)
      go_wp2_with fail
      go_ret
      obtain ⟨hb, hd⟩ := up_one w (dp + 1)
      exact ⟨_, _, _, _, rfl, hb, hd, Or.inr ⟨fun i h1 => HX.out i (by omega) h1, rfl, rfl⟩⟩
    · obtain ⟨j, rfl⟩ : ∃ j : Nat, x = (j : Int) := ⟨x.toNat, by omega⟩
      have hjn : j < n := by omega
      obtain ⟨d, hd⟩ : ∃ d, L[j]? = some d := ⟨_, List.getElem?_eq_getElem (by omega)⟩
      have d0 := HC.out j d hd
      have HD := Lib.hid hd
      have hat : at0 L j = d := by unfold at0; rw [List.getD_eq_getElem?_getD, hd]; rfl
      have HAT := Lib.hid hat
      have hd10 := HT.out d (List.mem_of_getElem? hd)
      clear hd hat
      by_cases hd9 : d < 9
      · have hnc : ((j : Int) + 1) ≤ (c : Int) := by omega
        have hnc2 : j + 1 ≤ c := by omega
        have hwj : IntKind.i64.wrap ((j : Int) + 1) = (j : Int) + 1 := IntWalk.i64_in _ (by omega)
        go_wp2_with fail
        clear d0
        refine wp_region_S (Sf := Till 15 (fun W => W.cell? ⟨p, 0, none⟩ = some (.slice (some ⟨g, 0, none⟩) m c) ∧ W.cell? ⟨p, 1, none⟩ = some (.int .i64 dp)) (fun _ => True)) (by kernel_rfl) ?_
        have HBD := Lib.hid (show Below w.heap.size w w.drew from (Below.refl _ _).drew)
        have c0d : w.drew.cell? ⟨p, 0, none⟩ = some (.slice (some ⟨g, 0, none⟩) m c) := c0
        have c1d : w.drew.cell? ⟨p, 1, none⟩ = some (.int .i64 dp) := c1
        have hszd : w.drew.heap.size = w.heap.size := rfl
        have HCD : Hid (∀ (i a : Nat), L[i]? = some a → w.drew.cell? ⟨g, i, none⟩ = some (.int .u8 a)) := HC
        clear c0 c1 HC
        generalize w.drew = w1 at *
        rw [← hszd] at hg hltp
        have HSZ := Lib.hid hszd
        clear hszd
        have p0 : ∀ o, (w1.alloc o).cell? ⟨p, 0, none⟩ = some (.slice (some ⟨g, 0, none⟩) m c) := fun o => (World.cell?_alloc_lt _ _ _ hltp).trans c0d
        have p1 : ∀ o, (w1.alloc o).cell? ⟨p, 1, none⟩ = some (.int .i64 dp) := fun o => (World.cell?_alloc_lt _ _ _ hltp).trans c1d
        have pp0 : ∀ o o', ((w1.alloc o).alloc o').cell? ⟨p, 0, none⟩ = some (.slice (some ⟨g, 0, none⟩) m c) := fun o o' => (World.cell?_alloc_lt _ _ _ (by simp; omega)).trans (p0 o)
        have pp1 : ∀ o o', ((w1.alloc o).alloc o').cell? ⟨p, 1, none⟩ = some (.int .i64 dp) := fun o o' => (World.cell?_alloc_lt _ _ _ (by simp; omega)).trans (p1 o)
        have P := Lib.hid (And.intro p0 (And.intro p1 (And.intro pp0 pp1)))
        clear p0 p1 pp0 pp1
        refine till_take_R (i := 1) 30 (.pointer (some ⟨p, 0, none⟩)) rfl rfl (by kernel_rfl) (by kernel_rfl) (by kernel_rfl) (by decide) (fun _ _ _ h => h) (Or.inl ⟨by rfl, ?_⟩) ⟨⟨c0d, c1d⟩, fun _ => trivial⟩ ?_
        · intro W hW; obtain ⟨h0, h1⟩ := hW; go_simp
        simp only [Act.put, List.setIfInBounds_toArray, List.set_cons_zero, List.set_cons_succ]
        refine till_take_R (i := 2) 31 (.pointer (some ⟨p, 0, none⟩)) rfl rfl (by kernel_rfl) (by kernel_rfl) (by kernel_rfl) (by decide) (fun _ _ _ h => h) (Or.inl ⟨by rfl, ?_⟩) ⟨⟨c0d, c1d⟩, fun _ => trivial⟩ ?_
        · intro W hW; obtain ⟨h0, h1⟩ := hW; go_simp
        simp only [Act.put, List.setIfInBounds_toArray, List.set_cons_zero, List.set_cons_succ]
        refine till_take_R (i := 3) 32 (.pointer (some ⟨p, 0, none⟩)) rfl rfl (by kernel_rfl) (by kernel_rfl) (by kernel_rfl) (by decide) (fun _ _ _ h => h) (Or.inl ⟨by rfl, ?_⟩) ⟨⟨c0d, c1d⟩, fun _ => trivial⟩ ?_
        · intro W hW; obtain ⟨h0, h1⟩ := hW; go_simp
        simp only [Act.put, List.setIfInBounds_toArray, List.set_cons_zero, List.set_cons_succ]
        refine till_take_R (i := 4) 33 (.slice (some ⟨g, 0, none⟩) m c) rfl rfl (by kernel_rfl) (by kernel_rfl) (by kernel_rfl) (by decide) (fun _ _ _ h => h) (Or.inl ⟨by rfl, ?_⟩) ⟨⟨c0d, c1d⟩, fun _ => trivial⟩ ?_
        · intro W hW; obtain ⟨h0, h1⟩ := hW; go_simp
        simp only [Act.put, List.setIfInBounds_toArray, List.set_cons_zero, List.set_cons_succ]
        refine till_take_R (i := 5) 34 (.int .i64 j) rfl rfl (by kernel_rfl) (by kernel_rfl) (by kernel_rfl) (by decide) (fun _ _ _ h => h) (Or.inl ⟨by rfl, ?_⟩) ⟨⟨c0d, c1d⟩, fun _ => trivial⟩ ?_
        · intro W hW; obtain ⟨h0, h1⟩ := hW; go_simp
        simp only [Act.put, List.setIfInBounds_toArray, List.set_cons_zero, List.set_cons_succ]
        refine till_take_R (i := 6) 35 (.int .i64 ((j : Int) + 1)) rfl rfl (by kernel_rfl) (by kernel_rfl) (by kernel_rfl) (by decide) (fun _ _ _ h => h) (Or.inl ⟨by rfl, ?_⟩) ⟨⟨c0d, c1d⟩, fun _ => trivial⟩ ?_
        · intro W hW; obtain ⟨h0, h1⟩ := hW; go_simp; try (intros; omega)
        simp only [Act.put, List.setIfInBounds_toArray, List.set_cons_zero, List.set_cons_succ]
        refine till_take_R (i := 7) 36 (.slice (some ⟨g, 0, none⟩) (j + 1) c) rfl rfl (by kernel_rfl) (by kernel_rfl) (by kernel_rfl) (by decide) (fun _ _ _ h => h) (Or.inl ⟨by rfl, ?_⟩) ⟨⟨c0d, c1d⟩, fun _ => trivial⟩ ?_
        · intro W hW; obtain ⟨h0, h1⟩ := hW; go_simp; try (intros; omega)
        simp only [Act.put, List.setIfInBounds_toArray, List.set_cons_zero, List.set_cons_succ]
        refine till_take_R (i := 9) 38 (.pointer (some ⟨p, 0, none⟩)) rfl rfl (by kernel_rfl) (by kernel_rfl) (by kernel_rfl) (by decide) (fun _ _ _ h => h) (Or.inl ⟨by rfl, ?_⟩) ⟨⟨c0d, c1d⟩, fun _ => trivial⟩ ?_
        · intro W hW; obtain ⟨h0, h1⟩ := hW; go_simp
        simp only [Act.put, List.setIfInBounds_toArray, List.set_cons_zero, List.set_cons_succ]
        refine till_take_R (i := 10) 39 (.pointer (some ⟨p, 0, none⟩)) rfl rfl (by kernel_rfl) (by kernel_rfl) (by kernel_rfl) (by decide) (fun _ _ _ h => h) (Or.inl ⟨by rfl, ?_⟩) ⟨⟨c0d, c1d⟩, fun _ => trivial⟩ ?_
        · intro W hW; obtain ⟨h0, h1⟩ := hW; go_simp
        simp only [Act.put, List.setIfInBounds_toArray, List.set_cons_zero, List.set_cons_succ]
        refine till_take_R (i := 11) 40 (.pointer (some ⟨p, 1, none⟩)) rfl rfl (by kernel_rfl) (by kernel_rfl) (by kernel_rfl) (by decide) (fun _ _ _ h => h) (Or.inl ⟨by rfl, ?_⟩) ⟨⟨c0d, c1d⟩, fun _ => trivial⟩ ?_
        · intro W hW; obtain ⟨h0, h1⟩ := hW; go_simp
        simp only [Act.put, List.setIfInBounds_toArray, List.set_cons_zero, List.set_cons_succ]
        refine till_take_R (i := 12) 41 (.int .i64 dp) rfl rfl (by kernel_rfl) (by kernel_rfl) (by kernel_rfl) (by decide) (fun _ _ _ h => h) (Or.inl ⟨by rfl, ?_⟩) ⟨⟨c0d, c1d⟩, fun _ => trivial⟩ ?_
        · intro W hW; obtain ⟨h0, h1⟩ := hW; go_simp
        simp only [Act.put, List.setIfInBounds_toArray, List.set_cons_zero, List.set_cons_succ]
        refine anyS_ready (rs := [0, 14]) (by kernel_rfl) (by simp) ?_
        refine AllS.cons rfl (fun K hK => ?_) (AllS.cons rfl (fun K hK => ?_) AllS.nil)
        · go_simp
          refine hK.out _ _ ⟨⟨P.out.1 _, P.out.2.1 _⟩, fun _ => trivial⟩ ?_
          clear hK K
          refine anyS_ready (rs := [8, 14]) (by kernel_rfl) (by simp) ?_
          refine AllS.cons rfl (fun K hK => ?_) (AllS.cons rfl (fun K hK => ?_) AllS.nil)
          · refine step_append_lies _ (by rfl) _ _ 72 (by rfl) w1.heap.size 5 i5 (.int .u8 0) 1 1 Tryz.underlying72 hi hz0 hz1 hz2 rfl (by decide) (.slice (some ⟨w1.heap.size, 0, none⟩) 0 0) 0 [] (by rfl) (ownEmpty w1 (Nat.le_refl _)) ⟨g, 0, none⟩ (j + 1) c (encN (L.take (j + 1))) (by rfl) (encN_take (by omega)) (fun j u hj => srcCell1 HCD.out hg hj) (by simp [encN, Value.oneCell']; intro u hu; obtain ⟨_, _, rfl⟩ := List.mem_map.1 (List.mem_of_mem_take hu); rfl) (by omega) (by unfold maxLen; omega) (by omega) (by first | (simp; done) | (simp; omega)) _ rfl ?_
            intro g2 cap w6 hown6 hg6 hat6 hlt6
            simp only [Nat.zero_add, List.nil_append] at hown6 ⊢
            have q0 : w6.cell? ⟨p, 0, none⟩ = some (.slice (some ⟨g, 0, none⟩) m c) := (World.cell?_of_block (hg6.block p (by simp; omega) (fun e => by simp [Value.ownBlock] at e; omega))).trans (P.out.1 _)
            have q1 : w6.cell? ⟨p, 1, none⟩ = some (.int .i64 dp) := (World.cell?_of_block (hg6.block p (by simp; omega) (fun e => by simp [Value.ownBlock] at e; omega))).trans (P.out.2.1 _)
            have hge2 := (hown6.lt g2 rfl).1
            have h61 := hg6.size
            have hp6 : p < w6.heap.size := by simp at h61; omega
            have R6 := Lib.hid (And.intro (fun o => (World.cell?_alloc_lt w6 o ⟨p, 0, none⟩ hp6).trans q0) (fun o => (World.cell?_alloc_lt w6 o ⟨p, 1, none⟩ hp6).trans q1))
            have HO6 := Lib.hid (And.intro hown6 (And.intro hg6 hat6))
            clear hown6 hg6 hat6
            change K (Act.put _ (some 37) _) _
            refine hK.out _ _ ⟨⟨q0, q1⟩, fun _ => trivial⟩ ?_
            clear hK K
            refine till_take_R (i := 13) 42 (.agg #[.slice (some ⟨g2, 0, none⟩) (j + 1) cap, .int .i64 dp]) rfl rfl (by kernel_rfl) (by kernel_rfl) (by kernel_rfl) (by decide) (fun _ _ _ h => h) (Or.inl ⟨by rfl, ?_⟩) ⟨⟨q0, q1⟩, fun _ => trivial⟩ ?_
            · intro W hW; obtain ⟨h0, h1⟩ := hW; go_simp
            simp only [Act.put, List.setIfInBounds_toArray, List.set_cons_zero, List.set_cons_succ]
            refine anyS_ready (rs := [14]) (by kernel_rfl) (by simp) ?_
            refine AllS.cons rfl (fun K hK => ?_) AllS.nil
            go_simp
            refine hK.out _ _ ⟨⟨R6.out.1 _, R6.out.2 _⟩, fun _ => trivial⟩ ?_
            clear hK K
            refine anyS_ready (rs := [15]) (by kernel_rfl) (by simp) ?_
            refine AllS.cons rfl (fun K hK => ?_) AllS.nil
            go_simp
            refine hK.out _ _ ⟨⟨R6.out.1 _, R6.out.2 _⟩, fun _ => trivial⟩ ?_
            clear hK K
            refine anyS_done (by kernel_rfl) ?_ _
            obtain ⟨hb, hd⟩ := leaf1 (dp := dp) HBD.out HSZ.out (by omega) HO6.out.1 HO6.out.2.1
            have hown8 := HO6.out.1.alloc (.cells #[.slice (some ⟨g2, 0, none⟩) (j + 1) cap, .int .i64 dp] 183)
            have hgq : g2 ≠ w6.heap.size := by have := HO6.out.1.lt g2 rfl; omega
            obtain ⟨hb9, hd9'⟩ := up_leaf hb hd.box hown8 (by have := HSZ.out; omega) hgq HD.out
            have e0 := hd.box.cell0
            have eg := hown8.cellAt j (by omega)
            rw [show (encN (L.take (j + 1)))[j]? = some (.int .u8 d) by simp [encN, HD.out]] at eg
            have ef := hown8.frozenAt j
            have elt := hd.box.lt
            have eltg := (hown8.lt g2 rfl).2
            have HU := Lib.hid (And.intro hb9 hd9')
            clear hb9 hd9' hown8 hb hd
            generalize w6.alloc (.cells #[.slice (some ⟨g2, 0, none⟩) (j + 1) cap, .int .i64 dp] 183) = w8 at *
            go_wp2_with fail
            go_ret
            exact ⟨_, _, _, _, rfl, HU.out.1, HU.out.2, Or.inl ⟨j, d, hjn, HD.out, hd9, fun i h1 h2 => HX.out i (by omega) h2, rfl, rfl⟩⟩
          · go_simp
            refine hK.out _ _ ⟨⟨P.out.2.2.1 _ _, P.out.2.2.2 _ _⟩, fun _ => trivial⟩ ?_
            clear hK K
            refine anyS_ready (rs := [8]) (by kernel_rfl) (by simp) ?_
            refine AllS.cons rfl (fun K hK => ?_) AllS.nil
            refine step_append_lies _ (by rfl) _ _ 72 (by rfl) w1.heap.size 5 i5 (.int .u8 0) 1 1 Tryz.underlying72 hi hz0 hz1 hz2 rfl (by decide) (.slice (some ⟨w1.heap.size, 0, none⟩) 0 0) 0 [] (by rfl) ((ownEmpty w1 (Nat.le_refl _)).alloc _) ⟨g, 0, none⟩ (j + 1) c (encN (L.take (j + 1))) (by rfl) (encN_take (by omega)) (fun j u hj => srcCell2 HCD.out hg hj) (by simp [encN, Value.oneCell']; intro u hu; obtain ⟨_, _, rfl⟩ := List.mem_map.1 (List.mem_of_mem_take hu); rfl) (by omega) (by unfold maxLen; omega) (by omega) (by first | (simp; done) | (simp; omega)) _ rfl ?_
            intro g2 cap w6 hown6 hg6 hat6 hlt6
            simp only [Nat.zero_add, List.nil_append] at hown6 ⊢
            have q0 : w6.cell? ⟨p, 0, none⟩ = some (.slice (some ⟨g, 0, none⟩) m c) := (World.cell?_of_block (hg6.block p (by simp; omega) (fun e => by simp [Value.ownBlock] at e; omega))).trans (P.out.2.2.1 _ _)
            have q1 : w6.cell? ⟨p, 1, none⟩ = some (.int .i64 dp) := (World.cell?_of_block (hg6.block p (by simp; omega) (fun e => by simp [Value.ownBlock] at e; omega))).trans (P.out.2.2.2 _ _)
            have hge2 := (hown6.lt g2 rfl).1
            have h61 := hg6.size
            have hne6 : w1.heap.size + 1 ≠ g2 := by simp [Value.ownBlock] at hat6; omega
            have hbq : DBox w6 (w1.heap.size + 1) (.slice none 0 0) 0 := (DBox.of_new2 w1 _).keep hg6 (fun e => by simp [Value.ownBlock] at e)
            have qc0 := hbq.cell0
            have qc1 := hbq.cell1
            have qf0 := hbq.frozen 0
            have qf1 := hbq.frozen 1
            have qlt := hbq.lt
            clear hbq
            have hp6 : p < w6.heap.size := by simp at h61; omega
            have R6 := Lib.hid (And.intro (fun o => (World.cell?_alloc_lt w6 o ⟨p, 0, none⟩ hp6).trans q0) (fun o => (World.cell?_alloc_lt w6 o ⟨p, 1, none⟩ hp6).trans q1))
            have HO6 := Lib.hid (And.intro hown6 (And.intro hg6 hat6))
            clear hown6 hg6 hat6
            change K (Act.put _ (some 37) _) _
            refine hK.out _ _ ⟨⟨q0, q1⟩, fun _ => trivial⟩ ?_
            clear hK K
            refine till_take_R (i := 13) 42 (.agg #[.slice (some ⟨g2, 0, none⟩) (j + 1) cap, .int .i64 dp]) rfl rfl (by kernel_rfl) (by kernel_rfl) (by kernel_rfl) (by decide) (fun _ _ _ h => h) (Or.inl ⟨by rfl, ?_⟩) ⟨⟨q0, q1⟩, fun _ => trivial⟩ ?_
            · intro W hW; obtain ⟨h0, h1⟩ := hW; go_simp
            simp only [Act.put, List.setIfInBounds_toArray, List.set_cons_zero, List.set_cons_succ]
            refine anyS_ready (rs := [15]) (by kernel_rfl) (by simp) ?_
            refine AllS.cons rfl (fun K hK => ?_) AllS.nil
            go_simp
            refine hK.out _ _ ⟨⟨(cell_two_ne (b := w1.heap.size + 1) _ _ hp6 (by omega)).trans q0, (cell_two_ne (b := w1.heap.size + 1) _ _ hp6 (by omega)).trans q1⟩, fun _ => trivial⟩ ?_
            clear hK K
            refine anyS_done (by kernel_rfl) ?_ _
            obtain ⟨hb, hd⟩ := leaf2 (q := w1.heap.size + 1) (e := w1.heap.size) (dp := dp) HBD.out HSZ.out (by omega) HO6.out.1 HO6.out.2.1 (Nat.le_refl _) (by omega) (by omega) hne6 (DBox.of_new2 w1 _)
            have hown8 := HO6.out.1.kept ((grown_cell w6 (w1.heap.size + 1) 0 (.slice (some ⟨g2, 0, none⟩) (j + 1) cap)).trans (grown_cell _ (w1.heap.size + 1) 1 (.int .i64 dp))) (Or.inr (by simp [Value.ownBlock]; have := hne6; omega))
            have hgq : g2 ≠ (w1.heap.size + 1) := by have := HO6.out.1.lt g2 rfl; exact Ne.symm hne6
            obtain ⟨hb9, hd9'⟩ := up_leaf hb hd.box hown8 (by have := HSZ.out; omega) hgq HD.out
            have e0 := hd.box.cell0
            have eg := hown8.cellAt j (by omega)
            rw [show (encN (L.take (j + 1)))[j]? = some (.int .u8 d) by simp [encN, HD.out]] at eg
            have ef := hown8.frozenAt j
            have elt := hd.box.lt
            have eltg := (hown8.lt g2 rfl).2
            have HU := Lib.hid (And.intro hb9 hd9')
            clear hb9 hd9' hown8 hb hd
            skip
            go_wp2_with fail
            go_ret
            exact ⟨_, _, _, _, rfl, HU.out.1, HU.out.2, Or.inl ⟨j, d, hjn, HD.out, hd9, fun i h1 h2 => HX.out i (by omega) h2, rfl, rfl⟩⟩
        · go_simp
          refine hK.out _ _ ⟨⟨P.out.1 _, P.out.2.1 _⟩, fun _ => trivial⟩ ?_
          clear hK K
          refine anyS_ready (rs := [0]) (by kernel_rfl) (by simp) ?_
          refine AllS.cons rfl (fun K hK => ?_) AllS.nil
          go_simp
          refine hK.out _ _ ⟨⟨P.out.2.2.1 _ _, P.out.2.2.2 _ _⟩, fun _ => trivial⟩ ?_
          clear hK K
          refine anyS_ready (rs := [8]) (by kernel_rfl) (by simp) ?_
          refine AllS.cons rfl (fun K hK => ?_) AllS.nil
          refine step_append_lies _ (by rfl) _ _ 72 (by rfl) w1.heap.size 5 i5 (.int .u8 0) 1 1 Tryz.underlying72 hi hz0 hz1 hz2 rfl (by decide) (.slice (some ⟨w1.heap.size + 1, 0, none⟩) 0 0) 0 [] (by rfl) (ownEmpty2 w1 _ (Nat.le_refl _)) ⟨g, 0, none⟩ (j + 1) c (encN (L.take (j + 1))) (by rfl) (encN_take (by omega)) (fun j u hj => srcCell2 HCD.out hg hj) (by simp [encN, Value.oneCell']; intro u hu; obtain ⟨_, _, rfl⟩ := List.mem_map.1 (List.mem_of_mem_take hu); rfl) (by omega) (by unfold maxLen; omega) (by omega) (by first | (simp; done) | (simp; omega)) _ rfl ?_
          intro g2 cap w6 hown6 hg6 hat6 hlt6
          simp only [Nat.zero_add, List.nil_append] at hown6 ⊢
          have q0 : w6.cell? ⟨p, 0, none⟩ = some (.slice (some ⟨g, 0, none⟩) m c) := (World.cell?_of_block (hg6.block p (by simp; omega) (fun e => by simp [Value.ownBlock] at e; omega))).trans (P.out.2.2.1 _ _)
          have q1 : w6.cell? ⟨p, 1, none⟩ = some (.int .i64 dp) := (World.cell?_of_block (hg6.block p (by simp; omega) (fun e => by simp [Value.ownBlock] at e; omega))).trans (P.out.2.2.2 _ _)
          have hge2 := (hown6.lt g2 rfl).1
          have h61 := hg6.size
          have hne6 : w1.heap.size ≠ g2 := by simp [Value.ownBlock] at hat6; omega
          have hbq : DBox w6 (w1.heap.size) (.slice none 0 0) 0 := (DBox.of_new1 w1 _).keep hg6 (fun e => by simp [Value.ownBlock] at e)
          have qc0 := hbq.cell0
          have qc1 := hbq.cell1
          have qf0 := hbq.frozen 0
          have qf1 := hbq.frozen 1
          have qlt := hbq.lt
          clear hbq
          have hp6 : p < w6.heap.size := by simp at h61; omega
          have R6 := Lib.hid (And.intro (fun o => (World.cell?_alloc_lt w6 o ⟨p, 0, none⟩ hp6).trans q0) (fun o => (World.cell?_alloc_lt w6 o ⟨p, 1, none⟩ hp6).trans q1))
          have HO6 := Lib.hid (And.intro hown6 (And.intro hg6 hat6))
          clear hown6 hg6 hat6
          change K (Act.put _ (some 37) _) _
          refine hK.out _ _ ⟨⟨q0, q1⟩, fun _ => trivial⟩ ?_
          clear hK K
          refine till_take_R (i := 13) 42 (.agg #[.slice (some ⟨g2, 0, none⟩) (j + 1) cap, .int .i64 dp]) rfl rfl (by kernel_rfl) (by kernel_rfl) (by kernel_rfl) (by decide) (fun _ _ _ h => h) (Or.inl ⟨by rfl, ?_⟩) ⟨⟨q0, q1⟩, fun _ => trivial⟩ ?_
          · intro W hW; obtain ⟨h0, h1⟩ := hW; go_simp
          simp only [Act.put, List.setIfInBounds_toArray, List.set_cons_zero, List.set_cons_succ]
          refine anyS_ready (rs := [15]) (by kernel_rfl) (by simp) ?_
          refine AllS.cons rfl (fun K hK => ?_) AllS.nil
          go_simp
          refine hK.out _ _ ⟨⟨(cell_two_ne (b := w1.heap.size) _ _ hp6 (by omega)).trans q0, (cell_two_ne (b := w1.heap.size) _ _ hp6 (by omega)).trans q1⟩, fun _ => trivial⟩ ?_
          clear hK K
          refine anyS_done (by kernel_rfl) ?_ _
          obtain ⟨hb, hd⟩ := leaf2 (q := w1.heap.size) (e := w1.heap.size + 1) (dp := dp) HBD.out HSZ.out (by omega) HO6.out.1 HO6.out.2.1 (by omega) (Nat.le_refl _) (by omega) hne6 (DBox.of_new1 w1 _)
          have hown8 := HO6.out.1.kept ((grown_cell w6 w1.heap.size 0 (.slice (some ⟨g2, 0, none⟩) (j + 1) cap)).trans (grown_cell _ w1.heap.size 1 (.int .i64 dp))) (Or.inr (by simp [Value.ownBlock]; have := hne6; omega))
          have hgq : g2 ≠ w1.heap.size := by have := HO6.out.1.lt g2 rfl; exact Ne.symm hne6
          obtain ⟨hb9, hd9'⟩ := up_leaf hb hd.box hown8 (by have := HSZ.out; omega) hgq HD.out
          have e0 := hd.box.cell0
          have eg := hown8.cellAt j (by omega)
          rw [show (encN (L.take (j + 1)))[j]? = some (.int .u8 d) by simp [encN, HD.out]] at eg
          have ef := hown8.frozenAt j
          have elt := hd.box.lt
          have eltg := (hown8.lt g2 rfl).2
          have HU := Lib.hid (And.intro hb9 hd9')
          clear hb9 hd9' hown8 hb hd
          skip
          go_wp2_with fail
          go_ret
          exact ⟨_, _, _, _, rfl, HU.out.1, HU.out.2, Or.inl ⟨j, d, hjn, HD.out, hd9, fun i h1 h2 => HX.out i (by omega) h2, rfl, rfl⟩⟩
      · have hwj : IntKind.i64.wrap ((j : Int) - 1) = (j : Int) - 1 := IntWalk.i64_in _ (by omega)
        go_wp2_with fail
        refine ⟨⟨(j : Int) - 1, rfl, by omega, by omega, Lib.hid (fun i h1 h2 => ?_)⟩, by simp [intOf]⟩
        by_cases hij : i = j
        · subst hij; rw [HAT.out]; omega
        · exact HX.out i (by omega) h2
end Go.Proofs.YtpigccnlembfdaaGreatDoor

/- Decimals near that of a half: what a shorter one is worth beside them. Plain Lean. Conditions: as each theorem states. -/
namespace Go.Proofs.YtpigccnlembfdaaGreatDoor
open Go.RowKit

theorem at0_app_l {D X : List Nat} {i : Nat} (h : i < D.length) : at0 (D ++ X) i = at0 D i := by
  unfold at0; rw [List.getD_eq_getElem?_getD, List.getD_eq_getElem?_getD, List.getElem?_append_left h]
theorem at0_app_r {D X : List Nat} (i : Nat) : at0 (D ++ X) (D.length + i) = at0 X i := by
  unfold at0; rw [List.getD_eq_getElem?_getD, List.getD_eq_getElem?_getD, List.getElem?_append_right (by omega)]
  congr 2
  omega
theorem at0_over {D : List Nat} {i : Nat} (h : D.length ≤ i) : at0 D i = 0 := by
  unfold at0; rw [List.getD_eq_getElem?_getD, List.getElem?_eq_none h]; rfl
theorem at0_of {L : List Nat} {i a : Nat} (h : L[i]? = some a) : at0 L i = a := by
  unfold at0; rw [List.getD_eq_getElem?_getD, h]; rfl
/-- The first digit that is none of 0. -/
theorem first_digit : ∀ (X : List Nat), num X ≠ 0 → ∃ i, (∀ j, j < i → at0 X j = 0) ∧ 0 < at0 X i
  | [], h => absurd rfl h
  | c :: r, h => by
    by_cases hc : c = 0
    · subst hc
      have : num r ≠ 0 := by rw [num_cons] at h; simpa using h
      obtain ⟨i, h1, h2⟩ := first_digit r this
      refine ⟨i + 1, fun j hj => ?_, h2⟩
      cases j with
      | zero => rfl
      | succ j => exact h1 j (by omega)
    · exact ⟨0, fun j hj => by omega, Nat.pos_of_ne_zero hc⟩
/-- N and a little more. -/
def Near (N : Nat) (L : List Nat) (dp : Int) : Prop := L ≠ [] ∧ (N ≠ 0 → ∃ rest, L = digN N ++ rest ∧ dp = (digN N).length ∧ num rest ≠ 0) ∧ (N = 0 → dp ≤ 0)
theorem Dm.near {ds : List Nat} {dp : Int} {A B N : Nat} (h : Dm ds dp A B) (h1 : N * B < A) (h2 : A < (N + 1) * B) : Near N ds dp :=
  ⟨h.ne, fun hN => h.part h1 h2 hN, fun hN => h.small (by subst hN; omega)⟩
theorem take_half {N n : Nat} (hn : n ≤ (digN N).length) : (digN N ++ [5]).take n = (digN N).take n := List.take_append_of_le_length hn
theorem Near.down {N n z : Nat} {L D : List Nat} {dp : Int} (h : Near N L dp) (hn : n ≤ (digN N).length) (hD : (digN N ++ [5]).take n = D ++ List.replicate z 0) : CmpGt L dp D (if D = [] then 0 else ((digN N).length : Int)) := by
  by_cases hd : D = []
  · exact ⟨h.1, Or.inl hd⟩
  · have hN : N ≠ 0 := by
      rintro rfl
      rw [digN_zero] at hn hD
      have : n = 0 := by simpa using hn
      subst this
      simp at hD
      exact hd hD.1
    obtain ⟨rest, rfl, rfl, hr⟩ := h.2.1 hN
    rw [take_half hn] at hD
    have hpre : digN N = D ++ (List.replicate z 0 ++ (digN N).drop n) := by
      rw [← List.append_assoc, ← hD, List.take_append_drop]
    refine ⟨h.1, Or.inr ⟨hd, Or.inr ⟨by rw [if_neg hd], ?_⟩⟩⟩
    obtain ⟨X, hX⟩ : ∃ X, X = List.replicate z 0 ++ (digN N).drop n := ⟨_, rfl⟩
    rw [← hX] at hpre
    have hnum : num (X ++ rest) ≠ 0 := by rw [num_append]; omega
    obtain ⟨i, h1, h2⟩ := first_digit _ hnum
    rw [hpre, List.append_assoc]
    refine ⟨D.length + i, fun j hj => ?_, ?_⟩
    · by_cases hjd : j < D.length
      · exact at0_app_l hjd
      · obtain ⟨e, rfl⟩ : ∃ e, j = D.length + e := ⟨j - D.length, by omega⟩
        rw [at0_app_r, h1 e (by omega), at0_over (by omega)]
    · rw [at0_app_r, at0_over (by omega)]
      exact h2
/-- What up may give. -/
def UpIs (L : List Nat) (n : Nat) (dp : Int) (L' : List Nat) (dp' : Int) : Prop := (∃ j d, j < n ∧ L[j]? = some d ∧ d < 9 ∧ (∀ i, j < i → i < n → 9 ≤ at0 L i) ∧ L' = L.take j ++ [d + 1] ∧ dp' = dp) ∨ ((∀ i, i < n → 9 ≤ at0 L i) ∧ L' = [1] ∧ dp' = dp + 1)
theorem Near.up {N n : Nat} {L L' : List Nat} {dp dp' : Int} (h : Near N L dp) (hn : n ≤ (digN N).length) (hU : UpIs (digN N ++ [5]) n (digN N).length L' dp') : CmpGt L' dp' L dp := by
  rcases hU with ⟨j, d, hj, hd, hd9, _, rfl, rfl⟩ | ⟨_, rfl, rfl⟩
  · have hN : N ≠ 0 := by
      rintro rfl
      rw [digN_zero] at hn
      simp at hn; omega
    obtain ⟨rest, rfl, rfl, hr⟩ := h.2.1 hN
    have hjl : j < (digN N).length := by omega
    have hl : ((digN N ++ [5]).take j).length = j := by rw [List.length_take]; simp; omega
    refine ⟨by simp, Or.inr ⟨h.1, Or.inr ⟨rfl, j, fun i hi => ?_, ?_⟩⟩⟩
    · rw [at0_app_l (by omega), at0_app_l (by omega), take_half (by omega)]
      unfold at0
      rw [List.getD_eq_getElem?_getD, List.getD_eq_getElem?_getD, List.getElem?_take_of_lt hi]
    · have e1 : at0 ((digN N ++ [5]).take j ++ [d + 1]) j = d + 1 := by
        have := at0_app_r (D := (digN N ++ [5]).take j) (X := [d + 1]) 0
        rw [hl] at this
        exact this
      have e2 : at0 (digN N ++ rest) j = d := by
        rw [at0_app_l hjl]
        rw [List.getElem?_append_left hjl] at hd
        exact at0_of hd
      rw [e1, e2]; omega
  · refine ⟨by simp, Or.inr ⟨h.1, Or.inl ?_⟩⟩
    by_cases hN : N = 0
    · have := h.2.2 hN
      omega
    · obtain ⟨rest, _, rfl, _⟩ := h.2.1 hN
      omega
theorem ten_half (N : Nat) : Ten (digN N ++ [5]) := by
  intro d hd
  rcases List.mem_append.1 hd with hd | hd
  · exact digN_ten N d hd
  · rw [List.mem_singleton.1 hd]; decide
theorem ten_take {L D : List Nat} {n z : Nat} (ht : Ten L) (h : L.take n = D ++ List.replicate z 0) : Ten D := fun d hd => ht d (List.mem_of_mem_take (h ▸ List.mem_append_left _ hd))
theorem len_take {L D : List Nat} {n z : Nat} (h : L.take n = D ++ List.replicate z 0) : D.length ≤ L.length := by
  have := congrArg List.length h
  rw [List.length_take, List.length_append] at this
  omega
theorem ten_up {L L' : List Nat} {n : Nat} {dp dp' : Int} (ht : Ten L) (h : UpIs L n dp L' dp') : Ten L' := by
  rcases h with ⟨j, d, hj, hd, hd9, _, rfl, rfl⟩ | ⟨_, rfl, rfl⟩
  · intro x hx
    rcases List.mem_append.1 hx with hx | hx
    · exact ht x (List.mem_of_mem_take hx)
    · rw [List.mem_singleton.1 hx]; omega
  · intro x hx; rw [List.mem_singleton.1 hx]; decide
theorem len_up {L L' : List Nat} {n : Nat} {dp dp' : Int} (h : UpIs L n dp L' dp') : L'.length ≤ L.length + 1 ∧ dp ≤ dp' ∧ dp' ≤ dp + 1 := by
  rcases h with ⟨j, d, hj, hd, hd9, _, rfl, rfl⟩ | ⟨_, rfl, rfl⟩
  · rw [List.length_append, List.length_take]; simp; omega
  · simp; omega
theorem digN_len {N : Nat} (h : N < 9007199254740992) : (digN N).length ≤ 16 := by
  by_cases h0 : N = 0
  · subst h0; exact Nat.zero_le _
  · have := congrArg List.length (digN_map h0)
    rw [List.length_map] at this
    rw [this]
    exact dec_length 15 N (by omega)
/-- The steps beside a half: above and below. -/
theorem near_high {N k : Nat} {L : List Nat} {dp : Int} (hk : 1 ≤ k) (h : Dm L dp (2 * ((2 * N + 1) * 2 ^ (k - 1)) + 1) (1 * 2 ^ (k + 1))) : Near N L dp := by
  obtain ⟨j, rfl⟩ : ∃ j, k = j + 1 := ⟨k - 1, by omega⟩
  have hp : 0 < 2 ^ j := Nat.pow_pos (by decide)
  rw [Nat.add_sub_cancel, show 1 * 2 ^ (j + 1 + 1) = 4 * 2 ^ j by rw [Nat.pow_succ, Nat.pow_succ]; omega, Nat.add_mul, Nat.one_mul, Nat.mul_assoc] at h
  generalize 2 ^ j = z at *
  have e1 : N * (4 * z) = 4 * (N * z) := by ac_rfl
  have e2 : (N + 1) * (4 * z) = 4 * (N * z) + 4 * z := by rw [Nat.add_mul, e1]; omega
  exact h.near (by rw [e1]; omega) (by rw [e2]; omega)
theorem near_low {N k : Nat} {L : List Nat} {dp : Int} (hk : 1 ≤ k) (h : Dm L dp (2 * ((2 * N + 1) * 2 ^ (k - 1)) - 1) (1 * 2 ^ (k + 1))) : Near N L dp := by
  obtain ⟨j, rfl⟩ : ∃ j, k = j + 1 := ⟨k - 1, by omega⟩
  have hp : 0 < 2 ^ j := Nat.pow_pos (by decide)
  rw [Nat.add_sub_cancel, show 1 * 2 ^ (j + 1 + 1) = 4 * 2 ^ j by rw [Nat.pow_succ, Nat.pow_succ]; omega, Nat.add_mul, Nat.one_mul, Nat.mul_assoc] at h
  generalize 2 ^ j = z at *
  have e1 : N * (4 * z) = 4 * (N * z) := by ac_rfl
  have e2 : (N + 1) * (4 * z) = 4 * (N * z) + 4 * z := by rw [Nat.add_mul, e1]; omega
  exact h.near (by rw [e1]; omega) (by rw [e2]; omega)
theorem near_low2 {N k : Nat} {L : List Nat} {dp : Int} (hk : 1 ≤ k) (h : Dm L dp (4 * ((2 * N + 1) * 2 ^ (k - 1)) - 1) (1 * 2 ^ (k + 2))) : Near N L dp := by
  obtain ⟨j, rfl⟩ : ∃ j, k = j + 1 := ⟨k - 1, by omega⟩
  have hp : 0 < 2 ^ j := Nat.pow_pos (by decide)
  rw [Nat.add_sub_cancel, show 1 * 2 ^ (j + 1 + 2) = 8 * 2 ^ j by rw [Nat.pow_succ, Nat.pow_succ, Nat.pow_succ]; omega, Nat.add_mul, Nat.one_mul, Nat.mul_assoc] at h
  generalize 2 ^ j = z at *
  have e1 : N * (8 * z) = 8 * (N * z) := by ac_rfl
  have e2 : (N + 1) * (8 * z) = 8 * (N * z) + 8 * z := by rw [Nat.add_mul, e1]; omega
  exact h.near (by rw [e1]; omega) (by rw [e2]; omega)
end Go.Proofs.YtpigccnlembfdaaGreatDoor

/- The walk of a decimal's short, at the decimal of a half: nothing shorter will do. Conditions: as the theorem states. -/
namespace Go.Proofs.YtpigccnlembfdaaGreatDoor
open Go.RowKit

theorem below_cell {w w' : World} {b i : Nat} {v : Value} (hB : Below w.heap.size w w') (hlt : b < w.heap.size) (h : w.cell? ⟨b, i, none⟩ = some v) : w'.cell? ⟨b, i, none⟩ = some v := (hB.cell hlt).trans h
/-- The form's box. -/
def InfoAt (w : World) (b : Nat) : Prop := b < w.heap.size ∧ w.cell? ⟨b, 0, none⟩ = some (.int .i64 52) ∧ w.cell? ⟨b, 2, none⟩ = some (.int .i64 (-1023))
theorem InfoAt.below {w w' : World} {b : Nat} (h : InfoAt w b) (hB : Below w.heap.size w w') : InfoAt w' b := ⟨Nat.lt_of_lt_of_le h.1 hB.size, below_cell hB h.1 h.2.1, below_cell hB h.1 h.2.2⟩
theorem info_new (w : World) (t : TypeId) : InfoAt (w.alloc (.cells #[.int .i64 52, .int .i64 11, .int .i64 (-1023)] t)) w.heap.size :=
  ⟨by simp, by rw [cell_of_row _ w.heap.size 0 _ _ _ (heap_alloc_new w _)]; rfl, by rw [cell_of_row _ w.heap.size 2 _ _ _ (heap_alloc_new w _)]; rfl⟩
set_option maxRecDepth 100000 in
set_option maxHeartbeats 8000000 in
theorem short_any (w : World) (p N k mant : Nat) (v : Value) (h : DecAt w p (digN N ++ [5]) (digN N).length v) (hN : N < 9007199254740992) (hk1 : 1 ≤ k) (hk : k ≤ 53) (hm : mant = (2 * N + 1) * 2 ^ (k - 1)) (hm1 : 4503599627370496 ≤ mant) (hm2 : mant < 9007199254740992) (x : Int) (hx : x = 52 - (k : Int)) :
    Calls Tryz.prog 118 #[.pointer (some ⟨p, 0, none⟩), .int .u64 mant, .int .i64 x, .agg #[.int .i64 52, .int .i64 11, .int .i64 (-1023)]] w (fun e w' => e = .returned (.pointer (some ⟨p, 0, none⟩)) ∧ Below w.heap.size w w') := by
  obtain ⟨m, hM⟩ : ∃ m, m = (digN N ++ [5]).length := ⟨_, rfl⟩
  have hM2 : (digN N).length + 1 = m := by rw [hM]; simp
  have hm17 : m ≤ 17 := by have := digN_len hN; omega
  have HM := Lib.hid (And.intro hM hM2)
  have HA := Lib.hid h
  have HMT := Lib.hid hm
  have HK1 := Lib.hid hk1
  have hnz : ((mant : Int) == 0) = false := by rw [beq_eq_false_iff_ne]; omega
  obtain ⟨a1, ha1⟩ : ∃ a1, a1 = 2 * mant + 1 := ⟨_, rfl⟩
  obtain ⟨a2, ha2⟩ : ∃ a2, a2 = 2 * mant - 1 := ⟨_, rfl⟩
  obtain ⟨a3, ha3⟩ : ∃ a3, a3 = 4 * mant - 1 := ⟨_, rfl⟩
  have HNDh := Lib.hid (fun w' => newDecimal_any w' a1 (by omega) (by omega))
  have HNDl := Lib.hid (fun w' => newDecimal_any w' a2 (by omega) (by omega))
  have HNDq := Lib.hid (fun w' => newDecimal_any w' a3 (by omega) (by omega))
  have HA1 := Lib.hid ha1
  have HA2 := Lib.hid ha2
  have HA3 := Lib.hid ha3
  have NH := Lib.hid (fun (L : List Nat) (dp : Int) (h : 1 ≤ k) (hd : Dm L dp a1 (1 * 2 ^ (k + 1))) => near_high (N := N) h (by rw [← hm, ← ha1]; exact hd))
  have NL := Lib.hid (fun (L : List Nat) (dp : Int) (h : 1 ≤ k) (hd : Dm L dp a2 (1 * 2 ^ (k + 1))) => near_low (N := N) h (by rw [← hm, ← ha2]; exact hd))
  have NQ := Lib.hid (fun (L : List Nat) (dp : Int) (h : 1 ≤ k) (hd : Dm L dp a3 (1 * 2 ^ (k + 2))) => near_low2 (N := N) h (by rw [← hm, ← ha3]; exact hd))
  have hz1 : 2 * (mant : Int) + 1 = (a1 : Int) := by omega
  have hz2 : 2 * (mant : Int) - 1 = (a2 : Int) := by omega
  have hz3 : 4 * (mant : Int) - 1 = (a3 : Int) := by omega
  have HXh := Lib.hid (show x - 52 - 1 = -((k + 1 : Nat) : Int) by omega)
  have HXl := HXh
  have HXq := Lib.hid (show x - 52 - 2 = -((k + 2 : Nat) : Int) by omega)
  have hbi : (-1023 + 1 : Int) < x := by omega
  have hx0 : -1 ≤ x := by omega
  have hx1 : x ≤ 51 := by omega
  have hp1 : 0 < a1 := by omega
  have hp2 : 0 < a2 := by omega
  have hp3 : 0 < a3 := by omega
  have hE : (mant : Int) % 2 = 0 ∨ (mant : Int) % 2 = 1 := by omega
  have HE := Lib.hid hE
  clear hE ha1 ha2 ha3 hM hM2 h hm hx
  go_enter Tryz.func118, Tryz.ntmps118
  go_wp2_with fail
  have I0 := Lib.hid (info_new w 177)
  have B0 := Lib.hid ((Below.refl w.heap.size w).alloc (Nat.le_refl _) (.cells #[.int .i64 52, .int .i64 11, .int .i64 (-1023)] 177))
  have HA0 := Lib.hid (HA.out.below B0.out)
  generalize w.alloc (.cells #[.int .i64 52, .int .i64 11, .int .i64 (-1023)] 177) = w0 at *
  refine (HNDh.out _).mono ?_
  rintro e w2 ⟨ph, L0, dp0, v0, rfl, hm⟩
  have HSH := Lib.hid (shift_any w2 ph L0 dp0 v0 (a1) 1 (k + 1) hm.2.2.1 hm.2.2.2.1 hm.2.2.2.2.1 hm.2.2.2.2.2.1 hm.2.2.2.2.2.2.1 (by omega) (by omega) (by omega))
  have HMM := Lib.hid hm
  obtain ⟨il, i0, i2⟩ := I0.out.below hm.1
  clear hm
  go_wp2_with fail
  rw [HXh.out]
  refine HSH.out.mono ?_
  rintro e wh ⟨rfl, hg, Lh, dph, vh, hd, hdm, hl, h2, h3, _⟩
  have hB := HMM.out.1.grown hg HMM.out.1.size (fun b hb => by injection hb; have := HMM.out.2.1; omega)
  have HH := Lib.hid (And.intro hd (And.intro (NH.out _ _ HK1.out hdm) (And.intro hdm.ten (And.intro hl (And.intro h2 h3)))))
  have Ih := Lib.hid (I0.out.below hB)
  have Bh := Lib.hid (B0.out.trans (hB.mono B0.out.size))
  have Ch := Lib.hid hB
  clear il i0 i2 hg hd hdm hl h2 h3 HMM HSH hB
  obtain ⟨il, i0, i2⟩ := Ih.out
  go_wp2_with fail
  clear il i0 i2
  refine (HNDl.out _).mono ?_
  rintro e w2 ⟨pl, L0, dp0, v0, rfl, hm⟩
  have HSH := Lib.hid (shift_any w2 pl L0 dp0 v0 (a2) 1 (k + 1) hm.2.2.1 hm.2.2.2.1 hm.2.2.2.2.1 hm.2.2.2.2.2.1 hm.2.2.2.2.2.2.1 (by omega) (by omega) (by omega))
  have HMM := Lib.hid hm
  obtain ⟨il, i0, i2⟩ := Ih.out.below hm.1
  clear hm
  go_wp2_with fail
  rw [HXl.out]
  refine HSH.out.mono ?_
  rintro e wl ⟨rfl, hg, Ll, dpl, vl, hd, hdm, hl, h2, h3, _⟩
  have hB := HMM.out.1.grown hg HMM.out.1.size (fun b hb => by injection hb; have := HMM.out.2.1; omega)
  have HL := Lib.hid (And.intro hd (And.intro (NL.out _ _ HK1.out hdm) (And.intro hdm.ten (And.intro hl (And.intro h2 h3)))))
  have Il := Lib.hid (Ih.out.below hB)
  have Bl := Lib.hid (Bh.out.trans (hB.mono Bh.out.size))
  have Cl := Lib.hid hB
  clear il i0 i2 hg hd hdm hl h2 h3 HMM HSH hB
  obtain ⟨il, i0, i2⟩ := Il.out
  have hAl := (HA0.out.below Ch.out).below Cl.out
  have hHl := And.intro (HH.out.1.below Cl.out) HH.out.2
  have HAl := Lib.hid hAl
  have HHl := Lib.hid hHl
  clear hAl hHl
  by_cases hq : mant = 4503599627370496
  · have hqq : ((mant : Int) == 4503599627370496) = true := by rw [beq_iff_eq]; omega
    have hev : ((mant : Int) % 2 == 0) = true := by rw [beq_iff_eq]; omega
    clear hq
    go_wp2_with fail
    clear il i0 i2
    refine (HNDq.out _).mono ?_
    rintro e w2 ⟨pq, L0, dp0, v0, rfl, hm⟩
    have HSH := Lib.hid (shift_any w2 pq L0 dp0 v0 (a3) 1 (k + 2) hm.2.2.1 hm.2.2.2.1 hm.2.2.2.2.1 hm.2.2.2.2.2.1 hm.2.2.2.2.2.2.1 (by omega) (by omega) (by omega))
    have HMM := Lib.hid hm
    obtain ⟨il, i0, i2⟩ := Il.out.below hm.1
    clear hm
    go_wp2_with fail
    rw [HXq.out]
    refine HSH.out.mono ?_
    rintro e wq ⟨rfl, hg, Lq, dpq, vq, hd, hdm, hl, h2, h3, _⟩
    have hB := HMM.out.1.grown hg HMM.out.1.size (fun b hb => by injection hb; have := HMM.out.2.1; omega)
    have HQ := Lib.hid (And.intro hd (And.intro (NQ.out _ _ HK1.out hdm) (And.intro hdm.ten (And.intro hl (And.intro h2 h3)))))
    have Iq := Lib.hid (Il.out.below hB)
    have Bq := Lib.hid (Bl.out.trans (hB.mono Bl.out.size))
    have Cq := Lib.hid hB
    clear il i0 i2 hg hd hdm hl h2 h3 HMM HSH hB
    obtain ⟨il, i0, i2⟩ := Iq.out
    have HA9 := Lib.hid (HAl.out.below Cq.out)
    have HH9 := Lib.hid (And.intro (HHl.out.1.below Cq.out) HHl.out.2)
    have HL9 := HQ
    have HB9 := Bq
    clear il i0 i2
    go_wp2_with fail
    go_loopw [12] (fun iv wr => ∃ i : Nat, i ≤ m ∧ iv = .int .i64 i ∧ Hid (Below wq.heap.size wq wr)) (fun iv _ => m - (intOf iv).toNat)
    case atStart => exact ⟨0, Nat.zero_le _, rfl, Lib.hid (Below.refl _ _)⟩
    case round =>
      obtain ⟨i, him, rfl, HB⟩ := hrel
      have ha := HA9.out.below HB.out
      obtain ⟨A0, cc, hv0⟩ := ha.dig.shape
      have c0 := ha.box.cell0
      rw [hv0, ← HM.out.1] at c0
      clear hv0
      by_cases him2 : i < m
      · have hiz : (i : Int) < (m : Int) := by omega
        have HDN := Lib.hid (down_any wr p _ _ _ ha i (by rw [← HM.out.1]; exact him2) (by rw [← HM.out.1]; omega))
        have HAR := Lib.hid ha
        clear ha
        go_wp2_with fail
        refine HDN.out.mono ?_
        rintro e wa ⟨pd, D, z, vd, rfl, hba, hz, hlast, hdd⟩
        have ha2 := HAR.out.below hba
        have HUP := Lib.hid (up_any wa p _ _ _ ha2 i (by rw [← HM.out.1]; exact him2) (by rw [← HM.out.1]; omega) (by have := HM.out.2; omega) (by omega) (ten_half N))
        have HDD := Lib.hid (And.intro hba (And.intro hz hdd))
        clear hba hz hlast hdd ha2
        go_wp2_with fail
        refine HUP.out.mono ?_
        rintro e wb ⟨pu, Lu, dpu, vu, rfl, hbb, hdu, hux⟩
        have hBb := HB.out.trans ((HDD.out.1.trans (hbb.mono HDD.out.1.size)).mono HB.out.size)
        have hlD := len_take HDD.out.2.1
        have hlU := len_up hux
        rw [← HM.out.1] at hlD hlU
        have HC1 := Lib.hid (cmp_any wb pq pd Lq D dpq _ vq vd (HL9.out.1.below hBb) (HDD.out.2.2.below hbb) (HL9.out.2.1.down (by have := HM.out.2; omega) HDD.out.2.1) HL9.out.2.2.1 (ten_take (ten_half N) HDD.out.2.1) (by have := HL9.out.2.2.2.1; omega) (by omega) HL9.out.2.2.2.2.1 HL9.out.2.2.2.2.2 (by split <;> (have := HM.out.2; omega)) (by split <;> omega))
        have HUU := Lib.hid (And.intro hbb (And.intro hdu hux))
        have HBB := Lib.hid hBb
        clear hbb hdu hux hBb
        go_wp2_with fail
        refine HC1.out.mono ?_
        rintro e wc ⟨x1, hx1, hx1b, rfl, hbc⟩
        have hBc := HBB.out.trans (hbc.mono HBB.out.size)
        have HC2 := Lib.hid (cmp_any wc pu ph Lu Lh dpu dph vu vh (HUU.out.2.1.below hbc) (HH9.out.1.below hBc) (HH9.out.2.1.up (by have := HM.out.2; omega) HUU.out.2.2) (ten_up (ten_half N) HUU.out.2.2) HH9.out.2.2.1 (by omega) (by have := HH9.out.2.2.2.1; omega) (by have := HM.out.2; omega) (by have := HM.out.2; omega) HH9.out.2.2.2.2.1 HH9.out.2.2.2.2.2)
        have HBC := Lib.hid hBc
        clear hbc hBc
        have hlt1 : ¬ (x1 < 1) := by omega
        go_wp2_with fail
        refine HC2.out.mono ?_
        rintro e wd ⟨x2, hx2, hx2b, rfl, hbd⟩
        have HBD := Lib.hid (HBC.out.trans (hbd.mono HBC.out.size))
        have hlt2 : ¬ (x2 < 1) := by omega
        clear hbd
        go_wp2_with fail
        go_roundw
        case rel => exact ⟨i + 1, by omega, by simp, HBD⟩
        case measure => simp [intOf]; omega
      · have hmi : (i : Int) = (m : Int) := by omega
        clear ha
        go_wp2_with fail
        go_ret
        exact ⟨rfl, HB9.out.trans (HB.out.mono HB9.out.size)⟩
  · have hqq : ((mant : Int) == 4503599627370496) = false := by rw [beq_eq_false_iff_ne]; omega
    clear hq
    have HA9 := HAl
    have HH9 := HHl
    have HL9 := HL
    have HB9 := Bl
    rcases HE.out with hev0 | hev0
    · have hev : ((mant : Int) % 2 == 0) = true := by rw [beq_iff_eq]; exact hev0
      clear hev0
      go_wp2_with fail
      go_loopw [12] (fun iv wr => ∃ i : Nat, i ≤ m ∧ iv = .int .i64 i ∧ Hid (Below wl.heap.size wl wr)) (fun iv _ => m - (intOf iv).toNat)
      case atStart => exact ⟨0, Nat.zero_le _, rfl, Lib.hid (Below.refl _ _)⟩
      case round =>
        obtain ⟨i, him, rfl, HB⟩ := hrel
        have ha := HA9.out.below HB.out
        obtain ⟨A0, cc, hv0⟩ := ha.dig.shape
        have c0 := ha.box.cell0
        rw [hv0, ← HM.out.1] at c0
        clear hv0
        by_cases him2 : i < m
        · have hiz : (i : Int) < (m : Int) := by omega
          have HDN := Lib.hid (down_any wr p _ _ _ ha i (by rw [← HM.out.1]; exact him2) (by rw [← HM.out.1]; omega))
          have HAR := Lib.hid ha
          clear ha
          go_wp2_with fail
          refine HDN.out.mono ?_
          rintro e wa ⟨pd, D, z, vd, rfl, hba, hz, hlast, hdd⟩
          have ha2 := HAR.out.below hba
          have HUP := Lib.hid (up_any wa p _ _ _ ha2 i (by rw [← HM.out.1]; exact him2) (by rw [← HM.out.1]; omega) (by have := HM.out.2; omega) (by omega) (ten_half N))
          have HDD := Lib.hid (And.intro hba (And.intro hz hdd))
          clear hba hz hlast hdd ha2
          go_wp2_with fail
          refine HUP.out.mono ?_
          rintro e wb ⟨pu, Lu, dpu, vu, rfl, hbb, hdu, hux⟩
          have hBb := HB.out.trans ((HDD.out.1.trans (hbb.mono HDD.out.1.size)).mono HB.out.size)
          have hlD := len_take HDD.out.2.1
          have hlU := len_up hux
          rw [← HM.out.1] at hlD hlU
          have HC1 := Lib.hid (cmp_any wb pl pd Ll D dpl _ vl vd (HL9.out.1.below hBb) (HDD.out.2.2.below hbb) (HL9.out.2.1.down (by have := HM.out.2; omega) HDD.out.2.1) HL9.out.2.2.1 (ten_take (ten_half N) HDD.out.2.1) (by have := HL9.out.2.2.2.1; omega) (by omega) HL9.out.2.2.2.2.1 HL9.out.2.2.2.2.2 (by split <;> (have := HM.out.2; omega)) (by split <;> omega))
          have HUU := Lib.hid (And.intro hbb (And.intro hdu hux))
          have HBB := Lib.hid hBb
          clear hbb hdu hux hBb
          go_wp2_with fail
          refine HC1.out.mono ?_
          rintro e wc ⟨x1, hx1, hx1b, rfl, hbc⟩
          have hBc := HBB.out.trans (hbc.mono HBB.out.size)
          have HC2 := Lib.hid (cmp_any wc pu ph Lu Lh dpu dph vu vh (HUU.out.2.1.below hbc) (HH9.out.1.below hBc) (HH9.out.2.1.up (by have := HM.out.2; omega) HUU.out.2.2) (ten_up (ten_half N) HUU.out.2.2) HH9.out.2.2.1 (by omega) (by have := HH9.out.2.2.2.1; omega) (by have := HM.out.2; omega) (by have := HM.out.2; omega) HH9.out.2.2.2.2.1 HH9.out.2.2.2.2.2)
          have HBC := Lib.hid hBc
          clear hbc hBc
          have hlt1 : ¬ (x1 < 1) := by omega
          go_wp2_with fail
          refine HC2.out.mono ?_
          rintro e wd ⟨x2, hx2, hx2b, rfl, hbd⟩
          have HBD := Lib.hid (HBC.out.trans (hbd.mono HBC.out.size))
          have hlt2 : ¬ (x2 < 1) := by omega
          clear hbd
          go_wp2_with fail
          go_roundw
          case rel => exact ⟨i + 1, by omega, by simp, HBD⟩
          case measure => simp [intOf]; omega
        · have hmi : (i : Int) = (m : Int) := by omega
          clear ha
          go_wp2_with fail
          go_ret
          exact ⟨rfl, HB9.out.trans (HB.out.mono HB9.out.size)⟩
    · have hev : ((mant : Int) % 2 == 0) = false := by rw [beq_eq_false_iff_ne]; omega
      clear hev0
      go_wp2_with fail
      go_loopw [12] (fun iv wr => ∃ i : Nat, i ≤ m ∧ iv = .int .i64 i ∧ Hid (Below wl.heap.size wl wr)) (fun iv _ => m - (intOf iv).toNat)
      case atStart => exact ⟨0, Nat.zero_le _, rfl, Lib.hid (Below.refl _ _)⟩
      case round =>
        obtain ⟨i, him, rfl, HB⟩ := hrel
        have ha := HA9.out.below HB.out
        obtain ⟨A0, cc, hv0⟩ := ha.dig.shape
        have c0 := ha.box.cell0
        rw [hv0, ← HM.out.1] at c0
        clear hv0
        by_cases him2 : i < m
        · have hiz : (i : Int) < (m : Int) := by omega
          have HDN := Lib.hid (down_any wr p _ _ _ ha i (by rw [← HM.out.1]; exact him2) (by rw [← HM.out.1]; omega))
          have HAR := Lib.hid ha
          clear ha
          go_wp2_with fail
          refine HDN.out.mono ?_
          rintro e wa ⟨pd, D, z, vd, rfl, hba, hz, hlast, hdd⟩
          have ha2 := HAR.out.below hba
          have HUP := Lib.hid (up_any wa p _ _ _ ha2 i (by rw [← HM.out.1]; exact him2) (by rw [← HM.out.1]; omega) (by have := HM.out.2; omega) (by omega) (ten_half N))
          have HDD := Lib.hid (And.intro hba (And.intro hz hdd))
          clear hba hz hlast hdd ha2
          go_wp2_with fail
          refine HUP.out.mono ?_
          rintro e wb ⟨pu, Lu, dpu, vu, rfl, hbb, hdu, hux⟩
          have hBb := HB.out.trans ((HDD.out.1.trans (hbb.mono HDD.out.1.size)).mono HB.out.size)
          have hlD := len_take HDD.out.2.1
          have hlU := len_up hux
          rw [← HM.out.1] at hlD hlU
          have HC1 := Lib.hid (cmp_any wb pl pd Ll D dpl _ vl vd (HL9.out.1.below hBb) (HDD.out.2.2.below hbb) (HL9.out.2.1.down (by have := HM.out.2; omega) HDD.out.2.1) HL9.out.2.2.1 (ten_take (ten_half N) HDD.out.2.1) (by have := HL9.out.2.2.2.1; omega) (by omega) HL9.out.2.2.2.2.1 HL9.out.2.2.2.2.2 (by split <;> (have := HM.out.2; omega)) (by split <;> omega))
          have HUU := Lib.hid (And.intro hbb (And.intro hdu hux))
          have HBB := Lib.hid hBb
          clear hbb hdu hux hBb
          go_wp2_with fail
          refine HC1.out.mono ?_
          rintro e wc ⟨x1, hx1, hx1b, rfl, hbc⟩
          have hBc := HBB.out.trans (hbc.mono HBB.out.size)
          have HC2 := Lib.hid (cmp_any wc pu ph Lu Lh dpu dph vu vh (HUU.out.2.1.below hbc) (HH9.out.1.below hBc) (HH9.out.2.1.up (by have := HM.out.2; omega) HUU.out.2.2) (ten_up (ten_half N) HUU.out.2.2) HH9.out.2.2.1 (by omega) (by have := HH9.out.2.2.2.1; omega) (by have := HM.out.2; omega) (by have := HM.out.2; omega) HH9.out.2.2.2.2.1 HH9.out.2.2.2.2.2)
          have HBC := Lib.hid hBc
          clear hbc hBc
          have hlt1 : ¬ (x1 < 0) := by omega
          go_wp2_with fail
          refine HC2.out.mono ?_
          rintro e wd ⟨x2, hx2, hx2b, rfl, hbd⟩
          have HBD := Lib.hid (HBC.out.trans (hbd.mono HBC.out.size))
          have hlt2 : ¬ (x2 < 0) := by omega
          clear hbd
          go_wp2_with fail
          go_roundw
          case rel => exact ⟨i + 1, by omega, by simp, HBD⟩
          case measure => simp [intOf]; omega
        · have hmi : (i : Int) = (m : Int) := by omega
          clear ha
          go_wp2_with fail
          go_ret
          exact ⟨rfl, HB9.out.trans (HB.out.mono HB9.out.size)⟩
end Go.Proofs.YtpigccnlembfdaaGreatDoor

/- The walk of a decimal's text: the decimal of a half, with one digit behind the point. Conditions: as the theorem states. -/
namespace Go.Proofs.YtpigccnlembfdaaGreatDoor
open Go.RowKit

theorem news_one {w : World} {v u : Value} {t : TypeId} {j : Nat} (hj : [v][j]? = some u) : (w.alloc (.cells #[v] t)).cell? ((⟨w.heap.size, 0, none⟩ : Addr).add j) = some u := by
  obtain rfl : j = 0 := by rcases j with _ | j; rfl; simp at hj
  obtain rfl : v = u := by simpa using hj
  exact cell_of_row _ w.heap.size 0 _ _ _ (heap_alloc_new w _)
/-- A slice of one's own that holds these bytes. -/
def Built (w wr : World) (v : Value) (bs : List UInt8) : Prop := Below w.heap.size w wr ∧ wr.ownsRow w.heap.size 5 1 v bs.length (encBy bs)
theorem Built.step {w wr w5 : World} {v : Value} {bs : List UInt8} {o : Obj} {g cap k : Nat} {x : Int} (h : Built w wr v bs) (b : UInt8) (hx : x = (b.toNat : Int))
    (hown : w5.ownsRow w.heap.size 5 1 (.slice (some ⟨g, 0, none⟩) (k + 1) cap) (k + 1) (encBy bs ++ [Value.int .u8 x])) (hg : (wr.alloc o).grownBy w5 v.ownBlock) (hk : k = bs.length := by simp) :
    Built w w5 (.slice (some ⟨g, 0, none⟩) (k + 1) cap) (bs ++ [b]) := by
  subst hx hk
  refine ⟨(h.1.alloc h.1.size o).grown hg (by have := h.1.size; simp; omega) (fun q hq => (h.2.lt q hq).1), ?_⟩
  have e : encBy (bs ++ [b]) = encBy bs ++ [Value.int .u8 b.toNat] := by simp [encBy]
  rw [e, List.length_append, List.length_singleton]
  exact hown
theorem Built.conv {w wr : World} {g k c : Nat} {bs : List UInt8} (h : Built w wr (.slice (some ⟨g, 0, none⟩) k c) bs) (hk : k = bs.length := by simp) : (convert 72 9 (.slice (some ⟨g, 0, none⟩) k c)).run Tryz.prog wr = .ok (.string (strL bs)) wr := by
  subst hk
  refine run_convert_bytes_back wr _ _ _ _ c bs Tryz.underlying72 Tryz.underlying5 Tryz.underlying9 fun j hj => ?_
  exact h.2.cells rfl j _ (by simp [encBy, List.getElem?_eq_getElem hj])
/-- The digits of a whole number, 0 for none. -/
def wholeD (N : Nat) : List UInt8 := if digN N = [] then [48] else (digN N).map dByte
set_option maxRecDepth 100000 in
set_option maxHeartbeats 4000000 in
theorem decText_any (w : World) (p N : Nat) (v : Value) (h : DecAt w p (digN N ++ [5]) (digN N).length v) (hN : N < 9007199254740992) :
    Calls Tryz.prog 121 #[.pointer (some ⟨p, 0, none⟩), .int .i64 1] w (TextIs (wholeD N ++ [46, 53]) w) := by
  have HA := Lib.hid h
  have hn16 := digN_len hN
  obtain ⟨n, hn⟩ : ∃ n, n = (digN N).length := ⟨_, rfl⟩
  rw [← hn] at HA hn16
  have HM := Lib.hid (show n + 1 = (digN N ++ [5]).length by rw [hn]; simp)
  have HNN := Lib.hid hn
  have HE := Lib.hid (show at0 (digN N ++ [5]) n = 5 by rw [hn]; exact at0_app_r (D := digN N) (X := [5]) 0)
  obtain ⟨i5, hi, he⟩ := Option.map_eq_some_iff.1 info_u8
  have hz0 : i5.zero = some (.int .u8 0) := congrArg (·.1) he
  have hz1 : i5.size = 1 := congrArg (·.2.1) he
  have hz2 : i5.bytes = 1 := congrArg (·.2.2) he
  have HI := Lib.hid (And.intro hi (And.intro hz0 (And.intro hz1 hz2)))
  clear h hn hi he hz0 hz1 hz2
  go_enter Tryz.func121, Tryz.ntmps121
  go_wp2_with fail
  go_loopw [5, 6] (fun vv iv wr => ∃ (k : Nat) (A : Option Addr) (c : Nat), k ≤ n ∧ iv = .int .i64 k ∧ vv = .slice A k c ∧ Hid (Built w wr (.slice A k c) (((digN N).take k).map dByte))) (fun _ iv _ => n - (intOf iv).toNat)
  case atStart => exact ⟨0, none, 0, Nat.zero_le _, rfl, rfl, Lib.hid ⟨Below.refl _ _, World.ownsRow_nil _ _ _ _⟩⟩
  case round =>
    obtain ⟨k, A, c, hk, rfl, rfl, HB⟩ := hrel
    have hbw := HB.out.1
    have ha := HA.out.below hbw
    have c1 := ha.box.cell1
    have HAR := Lib.hid ha
    obtain ⟨hi, hz0, hz1, hz2⟩ := HI.out
    by_cases hlt : k < n
    · obtain ⟨d, hd⟩ : ∃ d, (digN N)[k]? = some d := ⟨_, List.getElem?_eq_getElem (by have := HNN.out; omega)⟩
      have hd10 := digN_ten N d (List.mem_of_getElem? hd)
      have HDG := Lib.hid (digit_any wr p _ _ _ ha k (by rw [← HM.out]; omega))
      rw [show at0 (digN N ++ [5]) k = d by rw [at0_app_l (by have := HNN.out; omega)]; exact at0_of hd] at HDG
      obtain ⟨bt, hbt⟩ : ∃ bt, bt = 48 + d := ⟨_, rfl⟩
      have hcd : 48 + (d : Int) = (bt : Int) := by omega
      have hbt57 : bt ≤ 57 := by omega
      have hlen : (((digN N).take k).map dByte).length = k := by rw [List.length_map, List.length_take]; have := HNN.out; omega
      have hown := HB.out.2
      rw [hlen] at hown
      have HD := Lib.hid (And.intro hd (And.intro hbt hlen))
      obtain ⟨bs, hbs⟩ : ∃ bs, bs = ((digN N).take k).map dByte := ⟨_, rfl⟩
      rw [← hbs] at hown
      have HBS := Lib.hid hbs
      have hszw := hbw.size
      clear hd hbt hlen ha hbw hbs
      go_wp2_with (first | (go_at_call 160; ((with_reducible refine HDG.out.mono ?_); rintro e w3 ⟨rfl, rfl⟩)) | (at_builtin; refine wpList_append_lies _ rfl _ _ 72 rfl w.heap.size 5 i5 (.int .u8 0) 1 1 Tryz.underlying72 hi hz0 hz1 hz2 rfl (by decide) (.slice A k c) k (encBy bs) rfl (hown.alloc _) ⟨wr.heap.size, 0, none⟩ 1 1 [.int .u8 bt] rfl rfl (fun j u hj => news_one hj) (by simp [Value.oneCell']) (by decide) (by unfold maxLen; omega) (by omega) (by simp; omega) (wr.heap.size + 1) (by simp) ?_))
      intro g cap w5 hown5 hg5 _ hlt5
      rw [HBS.out] at hown5
      have hS := Built.step HB.out (dByte d) (show (bt : Int) = ((dByte d).toNat : Int) by rw [dByte_nat hd10, HD.out.2.1]) hown5 hg5 (HD.out.2.2.symm)
      rw [show ((digN N).take k).map dByte ++ [dByte d] = ((digN N).take (k + 1)).map dByte by rw [take_snocD _ k d HD.out.1]; simp] at hS
      have HS := Lib.hid hS
      clear hS hown5 hg5 hlt5
      go_wp2_with fail
      go_roundw
      case rel => exact ⟨k + 1, _, _, by omega, by go_num, rfl, HS⟩
      case measure => simp [intOf]; omega
    · have hkn : k = n := by omega
      have HBn := HB
      rw [hkn, HNN.out, List.take_length, ← HNN.out] at HBn
      subst hkn
      clear ha HB hlt hbw
      by_cases h0 : k = 0
      · have hnil : digN N = [] := List.length_eq_zero_iff.1 (by have := HNN.out; omega)
        have hwd : wholeD N = [48] := by unfold wholeD; rw [if_pos hnil]
        have HWD := Lib.hid hwd
        clear hwd
        rw [hnil] at HBn
        have HBn2 : Hid (Built w wr (.slice A k c) []) := HBn
        clear HBn
        subst h0
        go_wp2_with (at_builtin; refine wpList_append_lies _ rfl _ _ 72 rfl w.heap.size 5 i5 (.int .u8 0) 1 1 Tryz.underlying72 hi hz0 hz1 hz2 rfl (by decide) (.slice A 0 c) 0 (encBy []) rfl (HBn2.out.2.alloc _) ⟨wr.heap.size, 0, none⟩ 1 1 [.int .u8 48] rfl rfl (fun j u hj => news_one hj) (by simp [Value.oneCell']) (by decide) (by unfold maxLen; omega) (by omega) (by have := HBn2.out.1.size; simp; omega) (wr.heap.size + 1) (by simp) ?_)
        intro g1 cap1 w1 hown1 hg1 _ hlt1
        have HBz := Lib.hid (Built.step HBn2.out 48 rfl hown1 hg1)
        clear hown1 hg1 hlt1
        go_wp2_with (at_builtin; refine wpList_append_lies _ rfl _ _ 72 rfl w.heap.size 5 i5 (.int .u8 0) 1 1 Tryz.underlying72 hi hz0 hz1 hz2 rfl (by decide) (.slice (some ⟨g1, 0, none⟩) (0 + 1) cap1) (0 + 1) (encBy ([] ++ [48])) rfl (HBz.out.2.alloc _) ⟨w1.heap.size, 0, none⟩ 1 1 [.int .u8 46] rfl rfl (fun j u hj => news_one hj) (by simp [Value.oneCell']) (by decide) (by unfold maxLen; omega) (by omega) (by have := HBz.out.1.size; simp; omega) (w1.heap.size + 1) (by simp) ?_)
        intro g2 cap2 w2 hown2 hg2 _ hlt2
        have HBy := Lib.hid (Built.step HBz.out 46 rfl hown2 hg2 )
        have hsz2 := HBy.out.1.size
        have hownY := HBy.out.2
        skip
        have a2 := HA.out.below (HBy.out.1)
        have c1 := a2.box.cell1
        have HDG := Lib.hid (digit_any w2 p _ _ _ a2 0 (by rw [← HM.out]; omega))
        clear hown2 hg2 hlt2 a2
        go_wp2_with fail
        refine wp_loop_rounds 2 ?_
        rw [rounds_succ]
        rw [HE.out] at HDG
        simp only [Int.natCast_zero] at HDG
        go_wp2_with (first | (go_at_call 160; ((with_reducible refine HDG.out.mono ?_); rintro e w3 ⟨rfl, rfl⟩)) | (at_builtin; refine wpList_append_lies _ rfl _ _ 72 rfl w.heap.size 5 i5 (.int .u8 0) 1 1 Tryz.underlying72 hi hz0 hz1 hz2 rfl (by decide) (.slice (some ⟨g2, 0, none⟩) ((0 + 1) + 1) cap2) ((0 + 1) + 1) (encBy (([] ++ [48]) ++ [46])) rfl (hownY.alloc _) ⟨w2.heap.size, 0, none⟩ 1 1 [.int .u8 53] rfl rfl (fun j u hj => news_one hj) (by simp [Value.oneCell']) (by decide) (by unfold maxLen; omega) (by omega) (by have := HBy.out.1.size; simp; omega) (w2.heap.size + 1) (by simp) ?_))
        intro g3 cap3 w3 hown3 hg3 _ hlt3
        have HBx := Lib.hid (Built.step HBy.out 53 rfl hown3 hg3 )
        have HCV := Lib.hid (HBx.out.conv )
        clear hown3 hg3 hlt3
        go_wp2_with fail
        rw [rounds_succ]
        have hcv := HCV.out
        simp only [Nat.reduceAdd] at hcv
        go_wp2_with fail
        go_ret
        refine ⟨?_, HBx.out.1⟩
        rw [HWD.out]
        rfl
      · have hne : digN N ≠ [] := by intro e; have := HNN.out; rw [e] at this; simp at this; omega
        have hwd : wholeD N = (digN N).map dByte := by unfold wholeD; rw [if_neg hne]
        have hk0 : ((k : Int) == 0) = false := by rw [beq_eq_false_iff_ne]; omega
        have hlen : ((digN N).map dByte).length = k := by rw [List.length_map, HNN.out]
        obtain ⟨bs, hbs⟩ : ∃ bs, bs = (digN N).map dByte := ⟨_, rfl⟩
        rw [← hbs] at HBn hlen hwd
        have HWD := Lib.hid hwd
        have hown := HBn.out.2
        rw [hlen] at hown
        obtain ⟨g0, cap0, hv0, _, _⟩ := hown.form (by omega)
        injection hv0 with hA _ hc0
        subst hA hc0
        clear hbs hwd
        have HBz := HBn
        go_wp2_with (at_builtin; refine wpList_append_lies _ rfl _ _ 72 rfl w.heap.size 5 i5 (.int .u8 0) 1 1 Tryz.underlying72 hi hz0 hz1 hz2 rfl (by decide) (.slice (some ⟨g0, 0, none⟩) k c) k (encBy bs) rfl (hown.alloc _) ⟨wr.heap.size, 0, none⟩ 1 1 [.int .u8 46] rfl rfl (fun j u hj => news_one hj) (by simp [Value.oneCell']) (by decide) (by unfold maxLen; omega) (by omega) (by have := HBz.out.1.size; simp; omega) (wr.heap.size + 1) (by simp) ?_)
        intro g2 cap2 w2 hown2 hg2 _ hlt2
        have HBy := Lib.hid (Built.step HBz.out 46 rfl hown2 hg2 hlen.symm)
        have hsz2 := HBy.out.1.size
        have hownY := HBy.out.2
        rw [List.length_append, List.length_singleton, hlen] at hownY
        have a2 := HA.out.below (HBy.out.1)
        have c1 := a2.box.cell1
        have HDG := Lib.hid (digit_any w2 p _ _ _ a2 k (by rw [← HM.out]; omega))
        clear hown2 hg2 hlt2 a2
        go_wp2_with fail
        refine wp_loop_rounds 2 ?_
        rw [rounds_succ]
        rw [HE.out] at HDG
        skip
        go_wp2_with (first | (go_at_call 160; ((with_reducible refine HDG.out.mono ?_); rintro e w3 ⟨rfl, rfl⟩)) | (at_builtin; refine wpList_append_lies _ rfl _ _ 72 rfl w.heap.size 5 i5 (.int .u8 0) 1 1 Tryz.underlying72 hi hz0 hz1 hz2 rfl (by decide) (.slice (some ⟨g2, 0, none⟩) (k + 1) cap2) (k + 1) (encBy (bs ++ [46])) rfl (hownY.alloc _) ⟨w2.heap.size, 0, none⟩ 1 1 [.int .u8 53] rfl rfl (fun j u hj => news_one hj) (by simp [Value.oneCell']) (by decide) (by unfold maxLen; omega) (by omega) (by have := HBy.out.1.size; simp; omega) (w2.heap.size + 1) (by simp) ?_))
        intro g3 cap3 w3 hown3 hg3 _ hlt3
        have HBx := Lib.hid (Built.step HBy.out 53 rfl hown3 hg3 (by simp [hlen]))
        have HCV := Lib.hid (HBx.out.conv (by simp [hlen]))
        clear hown3 hg3 hlt3
        go_wp2_with fail
        rw [rounds_succ]
        have hcv := HCV.out
        simp only [Nat.add_assoc, Nat.reduceAdd] at hcv
        go_wp2_with fail
        go_ret
        refine ⟨?_, HBx.out.1⟩
        rw [HWD.out]
        rw [show bs ++ [46, 53] = bs ++ [46] ++ [53] by simp]; rfl
end Go.Proofs.YtpigccnlembfdaaGreatDoor

/- Floats of whole numbers and halves below 2^53: what their bits are, and that halving one is exact. Conditions: as each theorem states. -/
namespace Go.Proofs.YtpigccnlembfdaaGreatDoor
open Ieee

theorem log2_shift (m k : Nat) (hm : m ≠ 0) : (m <<< k).log2 = m.log2 + k := by
  rw [Nat.shiftLeft_eq]
  have h1 : m * 2 ^ k ≠ 0 := Nat.mul_ne_zero hm (by have := Nat.two_pow_pos k; omega)
  have hlo := Nat.log2_self_le hm
  have hhi := Nat.lt_log2_self (n := m)
  apply Nat.le_antisymm
  · rw [← Nat.lt_succ_iff, Nat.log2_lt h1, Nat.succ_eq_add_one, show m.log2 + k + 1 = (m.log2 + 1) + k by omega, Nat.pow_add]
    exact Nat.mul_lt_mul_of_pos_right hhi (Nat.two_pow_pos k)
  · rw [Nat.le_log2 h1, Nat.pow_add]
    exact Nat.mul_le_mul_right _ hlo

/-- The significand of m, with 53 binary digits. -/
def sig (m : Nat) : Nat := m <<< (52 - m.log2)
theorem sig_bounds (m : Nat) (hm : m ≠ 0) (h53 : m < 9007199254740992) : 4503599627370496 ≤ sig m ∧ sig m < 9007199254740992 ∧ m.log2 ≤ 52 := by
  have hl : m.log2 ≤ 52 := by
    have : m.log2 < 53 := (Nat.log2_lt hm).2 (by simpa using h53)
    omega
  have hs : sig m ≠ 0 := by
    unfold sig; rw [Nat.shiftLeft_eq]; exact Nat.mul_ne_zero hm (by have := Nat.two_pow_pos (52 - m.log2); omega)
  have h2 : (sig m).log2 = 52 := by unfold sig; rw [log2_shift m _ hm]; omega
  have h3 := Nat.log2_self_le hs
  have h4 := Nat.lt_log2_self (n := sig m)
  rw [h2] at h3 h4
  exact ⟨by simpa using h3, by simpa using h4, hl⟩
theorem sig_log2 (m : Nat) (hm : m ≠ 0) (h53 : m < 9007199254740992) : (sig m).log2 = 52 := by
  have := (sig_bounds m hm h53).2.2
  unfold sig; rw [log2_shift m _ hm]; omega

/-- The bits of '± sig m * 2 ^ i', with the place i of its last digit. -/
def fbits (neg : Bool) (s : Nat) (i : Int) : Nat := double.word neg ((i + 1074).toNat * 4503599627370496 + s)

theorem cut0 (neg : Bool) (n : Nat) : Toward.even.cut neg n 0 = n := by
  unfold Toward.cut
  simp [Nat.mod_one]

theorem d_bin : double.binade = 4503599627370496 := by decide
theorem d_inf : double.infRung = 9218868437227405312 := by decide
theorem d_low : double.leastPlace = -1074 := by decide
theorem d_frac : double.fractionBits = 52 := by decide

theorem nearest_exact (neg : Bool) (m : Nat) (e : Int) (hm : m ≠ 0) (h53 : m < 9007199254740992) (he0 : -900 ≤ e) (he1 : e ≤ 0) : double.nearest neg m e = fbits neg (sig m) (e + m.log2 - 52) := by
  obtain ⟨b1, b2, b3⟩ := sig_bounds m hm h53
  unfold Format.nearest fbits
  rw [if_neg hm, d_bin, d_inf, d_low, d_frac]
  have e1 : max (e + (m.log2 : Int) - ((52 : Nat) : Int)) (-1074) = e + m.log2 - 52 := by omega
  simp only [e1]
  have e2 : (e - (e + (m.log2 : Int) - 52)).toNat = 52 - m.log2 := by omega
  have e3 : (e + (m.log2 : Int) - 52 - e).toNat = 0 := by omega
  have e4 : (e + (m.log2 : Int) - 52 - -1074).toNat = (e + m.log2 - 52 + 1074).toNat := by omega
  rw [e2, e3, cut0, e4]
  generalize hk : (e + (m.log2 : Int) - 52 + 1074).toNat = k
  have hk2 : k ≤ 1074 := by omega
  have hsg : m <<< (52 - m.log2) = sig m := rfl
  rw [hsg]
  generalize sig m = s at *
  clear e1 e2 e3 e4 hsg
  rw [Nat.min_eq_left (by omega)]

theorem read_fbits (neg : Bool) (s : Nat) (i : Int) (h1 : 4503599627370496 ≤ s) (h2 : s < 9007199254740992) (hi0 : -1000 ≤ i) (hi1 : i ≤ 0) : double.read (fbits neg s i) = .number neg s i := by
  unfold Format.read fbits Format.word
  obtain ⟨k, hk⟩ : ∃ k : Nat, (i + 1074).toNat = k := ⟨_, rfl⟩
  have hki : i = (k : Int) - 1074 := by omega
  rw [hk]
  have hsw : double.signWeight = 9223372036854775808 := by decide
  simp only [hsw, d_bin, d_inf, d_low]
  have hr : ∀ w, w = (if neg = true then 9223372036854775808 + (k * 4503599627370496 + s) else k * 4503599627370496 + s) → w % 9223372036854775808 = k * 4503599627370496 + s ∧ (w / 9223372036854775808 % 2 == 1) = neg := by
    intro w hw
    cases neg
    · simp only [Bool.false_eq_true, if_false] at hw
      subst hw
      refine ⟨by omega, ?_⟩
      have : (k * 4503599627370496 + s) / 9223372036854775808 = 0 := by omega
      rw [this]; rfl
    · simp only [if_true] at hw
      subst hw
      refine ⟨by omega, ?_⟩
      have : (9223372036854775808 + (k * 4503599627370496 + s)) / 9223372036854775808 = 1 := by omega
      rw [this]; rfl
  obtain ⟨r1, r2⟩ := hr _ rfl
  rw [r1, r2, if_neg (by omega), if_pos (by omega)]
  congr 1
  · omega
  · omega

theorem nearest_sig8 (neg : Bool) (s : Nat) (i : Int) (h1 : 4503599627370496 ≤ s) (h2 : s < 9007199254740992) (hi0 : -900 ≤ i) (hi1 : i ≤ 0) : double.nearest neg (8 * s) (i - 3) = fbits neg s i := by
  have hs : s ≠ 0 := by omega
  have hl : s.log2 = 52 := by
    have a := (Nat.log2_lt (n := s) (k := 53) hs).2 (by simpa using h2)
    have b := (Nat.le_log2 (n := s) (k := 52) hs).2 (by simpa using h1)
    omega
  have hl8 : (8 * s).log2 = 55 := by
    have : 8 * s = s <<< 3 := by rw [Nat.shiftLeft_eq]; omega
    rw [this, log2_shift s 3 hs, hl]
  unfold Format.nearest fbits
  rw [if_neg (by omega), hl8, d_bin, d_inf, d_low, d_frac]
  have e1 : max (i - 3 + ((55 : Nat) : Int) - ((52 : Nat) : Int)) (-1074) = i := by omega
  simp only [e1]
  have e2 : (i - 3 - i).toNat = 0 := by omega
  have e3 : (i - (i - 3)).toNat = 3 := by omega
  have e6 : (i - -1074).toNat = (i + 1074).toNat := by omega
  rw [e2, e3, e6]
  have e4 : Toward.even.cut neg ((8 * s) <<< 0) 3 = s := by
    rw [Nat.shiftLeft_zero]
    unfold Toward.cut
    rw [hl8]
    have g : (1 : Nat) <<< min 3 (55 + 2) = 8 := by decide
    simp only [g]
    have r : 8 * s % 8 = 0 := by omega
    have d : 8 * s / 8 = s := by omega
    rw [r, d]
    simp
  rw [e4]
  generalize hk : (i + 1074).toNat = k
  have hk2 : k ≤ 1074 := by omega
  clear e1 e2 e3 e4 e6
  rw [Nat.min_eq_left (by omega)]

/-- Half of a whole number below 2^53 is exact. -/
theorem div_two (neg : Bool) (s : Nat) (i : Int) (h1 : 4503599627370496 ≤ s) (h2 : s < 9007199254740992) (hi0 : -800 ≤ i) (hi1 : i ≤ 0) : double.div (fbits neg s i) 4611686018427387904 = some (fbits neg s (i - 1)) := by
  have htwo : double.read 4611686018427387904 = .number false 4503599627370496 (-51) := by decide
  have hs : s ≠ 0 := by omega
  have hl : s.log2 = 52 := by
    have a := (Nat.log2_lt (n := s) (k := 53) hs).2 (by simpa using h2)
    have b := (Nat.le_log2 (n := s) (k := 52) hs).2 (by simpa using h1)
    omega
  have hl2 : (4503599627370496 : Nat).log2 = 52 := by decide
  unfold Format.div
  rw [read_fbits neg s i h1 h2 (by omega) hi1, htwo]
  show (Datum.quotient 54 _ _).map double.write = _
  unfold Datum.quotient
  simp only
  rw [if_neg (by decide), hl, hl2]
  have hm : (54 + 52 - 52 : Nat) = 54 := rfl
  simp only [hm, Nat.shiftLeft_eq, Option.map_some, Bool.xor_false]
  have e1 : s * 2 ^ 54 / 4503599627370496 = 4 * s := by
    have : s * 2 ^ 54 = 4503599627370496 * (4 * s) := by
      have : (2 : Nat) ^ 54 = 18014398509481984 := by decide
      rw [this]; omega
    rw [this, Nat.mul_div_cancel_left _ (by decide)]
  have e2 : s * 2 ^ 54 % 4503599627370496 = 0 := by
    have : s * 2 ^ 54 = 4503599627370496 * (4 * s) := by
      have : (2 : Nat) ^ 54 = 18014398509481984 := by decide
      rw [this]; omega
    rw [this, Nat.mul_mod_right]
  rw [e1, e2]
  have e3 : 2 * (4 * s) + (0 != 0 : Bool).toNat = 8 * s := by simp; omega
  rw [e3]
  show some (double.nearest neg (8 * s) (i - -51 - ((54 : Nat) : Int) - 1)) = _
  have e4 : i - -51 - ((54 : Nat) : Int) - 1 = (i - 1) - 3 := by omega
  rw [e4, nearest_sig8 neg s (i - 1) h1 h2 (by omega) (by omega)]

/-- The bits of h / 2. -/
def hbits (h : Int) : Nat := fbits (decide (h < 0)) (sig h.natAbs) (h.natAbs.log2 - 53)
theorem half_bits (h : Int) (h0 : h ≠ 0) (h1 : -9007199254740992 < h) (h2 : h < 9007199254740992) : floatBits .quo .f64 (floatOfInt .f64 h) 4611686018427387904 = some (hbits h) := by
  have hn : h.natAbs ≠ 0 := by omega
  have hlt : h.natAbs < 9007199254740992 := by omega
  obtain ⟨b1, b2, b3⟩ := sig_bounds _ hn hlt
  have e1 : floatOfInt .f64 h = fbits (decide (h < 0)) (sig h.natAbs) (h.natAbs.log2 - 52) := by
    show double.nearest (decide (h < 0)) h.natAbs 0 = _
    rw [nearest_exact _ _ _ hn hlt (by decide) (by decide)]
    congr 1; omega
  show double.div (floatOfInt .f64 h) 4611686018427387904 = _
  rw [e1, div_two _ _ _ b1 b2 (by omega) (by omega)]
  unfold hbits
  congr 2; omega
end Go.Proofs.YtpigccnlembfdaaGreatDoor

/- The walk of FormatFloat at a half. Conditions: as the theorem states. -/
namespace Go.Proofs.YtpigccnlembfdaaGreatDoor
open Go.RowKit

set_option maxRecDepth 100000 in
set_option maxHeartbeats 4000000 in
theorem formOf_any (w : World) : Calls Tryz.prog 114 #[.int .i64 64] w (fun e w' => e = .returned (.agg #[.int .i64 52, .int .i64 11, .int .i64 (-1023)]) ∧ Below w.heap.size w w') := by
  go_enter Tryz.func114, Tryz.ntmps114
  go_wp2_with fail
  go_returns
  exact ⟨rfl, (Below.refl _ _).alloc (Nat.le_refl _) _⟩
theorem run_fbits (b : Nat) (w : World) : (callFunc 99 #[.float .f64 b]).run Tryz.prog w = .ok (.value (.int .u64 b)) w := by
  rw [run_callFunc_extern Tryz.func99 rfl rfl rfl rfl]
  rfl
theorem run_fromBits (b : Nat) (w : World) : (callFunc 98 #[.int .u64 b]).run Tryz.prog w = .ok (.value (.float .f64 b)) w := by
  rw [run_callFunc_extern Tryz.func98 rfl rfl rfl rfl]
  rfl
/-- The bits of a double: sign, place, significand. -/
structure Word64 (b s E mant : Nat) : Prop where
  eq : b = s * 9223372036854775808 + ((E - 1) * 4503599627370496 + mant)
  s1 : s ≤ 1
  e1 : 1 ≤ E
  e2 : E ≤ 2046
  m1 : 4503599627370496 ≤ mant
  m2 : mant < 9007199254740992
theorem Word64.lt {b s E mant : Nat} (h : Word64 b s E mant) : b < 18446744073709551616 := by
  obtain ⟨rfl, h1, h2, h3, h4, h5⟩ := h; omega
theorem Word64.sign {b s E mant : Nat} (h : Word64 b s E mant) : (b : Int) / 9223372036854775808 = s := by
  obtain ⟨rfl, h1, h2, h3, h4, h5⟩ := h; omega
theorem Word64.place {b s E mant : Nat} (h : Word64 b s E mant) : bits .and .i64 ((b : Int) / 4503599627370496) 2047 = (E : Int) := by
  have e : ((b : Int) / 4503599627370496) = (s * 2048 + E : Nat) := by
    obtain ⟨rfl, h1, h2, h3, h4, h5⟩ := h; omega
  have h1 := h.s1
  have h2 := h.e2
  have hm := bits_mask .i64 62 (by decide) (fun n h0 h1 => IntWalk.i64_in n (by omega)) 11 (by decide) ((s * 2048 + E : Nat) : Int) (by omega) (by omega)
  rw [e]
  rw [show (2 : Int) ^ 11 - 1 = 2047 by decide, show (2 : Int) ^ 11 = 2048 by decide] at hm
  rw [hm]; omega
theorem Word64.frac {b s E mant : Nat} (h : Word64 b s E mant) : bits .and .u64 (b : Int) 4503599627370495 = ((mant - 4503599627370496 : Nat) : Int) := by
  have h1 := bits_and_u64_nat b 4503599627370495 h.lt (by decide)
  have h2 : b &&& 4503599627370495 = b % 2 ^ 52 := Nat.and_two_pow_sub_one_eq_mod b 52
  rw [show ((4503599627370495 : Nat) : Int) = 4503599627370495 by rfl] at h1
  rw [h1, h2]
  obtain ⟨rfl, h1, h2, h3, h4, h5⟩ := h
  omega
theorem Word64.join {b s E mant : Nat} (h : Word64 b s E mant) : bits .or .u64 ((mant - 4503599627370496 : Nat) : Int) 4503599627370496 = (mant : Int) := by
  have h4 := h.m1
  have h5 := h.m2
  have h1 := bits_or_u64_nat (mant - 4503599627370496) 4503599627370496 (by omega) (by decide)
  have h2 := Nat.two_pow_add_eq_or_of_lt (i := 52) (b := mant - 4503599627370496) (by omega) 1
  rw [show ((4503599627370496 : Nat) : Int) = 4503599627370496 by rfl, Nat.or_comm, show (4503599627370496 : Nat) = 2 ^ 52 * 1 by decide, ← h2] at h1
  rw [show (4503599627370496 : Nat) = 2 ^ 52 * 1 by decide, h1]
  omega
theorem strL_append (a b : List UInt8) : strL a ++ strL b = strL (a ++ b) := by
  apply ByteArray.ext
  simp [strL, ByteArray.data_append]
theorem whole_len {N : Nat} (h : N < 9007199254740992) : (wholeD N).length ≤ 16 := by
  unfold wholeD
  split
  · decide
  · rw [List.length_map]; exact digN_len h
theorem dm_half {N k mant : Nat} {L : List Nat} {dp : Int} (hk : 1 ≤ k) (hm : mant = (2 * N + 1) * 2 ^ (k - 1)) (h : Dm L dp mant (1 * 2 ^ k)) : L = digN N ++ [5] ∧ dp = (digN N).length := by
  obtain ⟨j, rfl⟩ : ∃ j, k = j + 1 := ⟨k - 1, by omega⟩
  have e : 1 * 2 ^ (j + 1) = 2 * 2 ^ j := by rw [Nat.pow_succ]; omega
  rw [Nat.add_sub_cancel] at hm
  refine Dm.half ⟨h.ten, h.headed, h.lasted, h.ne, DecV.times (2 ^ j) (Nat.pow_pos (by decide)) ?_⟩
  rw [← hm, ← e]
  exact h.dec
set_option maxRecDepth 100000 in
set_option maxHeartbeats 8000000 in
theorem formatFloat_any (w : World) (b N k mant s : Nat) (hN : N < 9007199254740992) (hk1 : 1 ≤ k) (hk : k ≤ 53) (hm : mant = (2 * N + 1) * 2 ^ (k - 1)) (hW : Word64 b s (1075 - k) mant) :
    Calls Tryz.prog 100 #[.float .f64 b, .int .u8 102, .int .i64 (-1), .int .i64 64] w (TextIs ((if s = 0 then [] else [45]) ++ (wholeD N ++ [46, 53])) w) := by
  obtain ⟨S, hS⟩ : ∃ S, S = (if s = 0 then [] else [45]) ++ (wholeD N ++ [46, 53]) := ⟨_, rfl⟩
  rw [← hS]
  have HS := Lib.hid hS
  have hs0 := hW.sign
  have hE0 := hW.place
  have hF := hW.frac
  have hO := hW.join
  have hm1 := hW.m1
  have hm2 := hW.m2
  have hs1 := hW.s1
  obtain ⟨E, hE⟩ : ∃ E, E = 1075 - k := ⟨_, rfl⟩
  rw [← hE] at hE0
  have hE1 : ((E : Int) == 2047) = false := by rw [beq_eq_false_iff_ne]; omega
  have hE2 : ((E : Int) == 0) = false := by rw [beq_eq_false_iff_ne]; omega
  obtain ⟨F, hFF⟩ : ∃ F, F = mant - 4503599627370496 := ⟨_, rfl⟩
  rw [← hFF] at hF hO
  obtain ⟨x, hx⟩ : ∃ x : Int, x = 52 - (k : Int) := ⟨_, rfl⟩
  have hEx : (E : Int) + -1023 = x := by omega
  have hE3 : E ≤ 2046 := by omega
  have hx0 : -1 ≤ x := by omega
  have hx1 : x ≤ 51 := by omega
  have HX := Lib.hid (show x - 52 = -(k : Int) by omega)
  have HK := Lib.hid (And.intro hk1 (And.intro hk (And.intro hm (And.intro hm1 (And.intro hm2 hx)))))
  have HND := Lib.hid (fun w' => newDecimal_any w' mant (by omega) (by omega))
  have hfb := fun w' => run_fbits b w'
  clear hS hW hE hFF hm hk1 hk hx
  go_enter Tryz.func100, Tryz.ntmps100
  rcases (show s = 0 ∨ s = 1 by omega) with rfl | rfl
  · simp only [Int.natCast_zero] at hs0
    go_wp2_with fail
    refine (formOf_any _).mono ?_
    rintro e w2 ⟨rfl, hb2⟩
    clear hfb
    go_wp2_with fail
    go_quiet (fail)
    go_wp2_with fail
    have hB4 := hb2.alloc hb2.size (.cells #[.int .i64 52, .int .i64 11, .int .i64 (-1023)] 177)
    have hI4 : ((w2.alloc (.cells #[.int .i64 52, .int .i64 11, .int .i64 (-1023)] 177)).drewN nq).heap[w2.heap.size]? = some (.cells #[.int .i64 52, .int .i64 11, .int .i64 (-1023)] 177 (0, 0)) := heap_alloc_new w2 _
    have B4 := Lib.hid (hB4.trans ((below_drewN _ nq).mono hB4.size))
    have I4 := Lib.hid hI4
    clear hB4 hI4 hb2
    generalize (w2.alloc (.cells #[.int .i64 52, .int .i64 11, .int .i64 (-1023)] 177)).drewN nq = w4 at *
    refine (HND.out _).mono ?_
    rintro e w5 ⟨p, L0, dp0, v0, rfl, hm⟩
    have HSH := Lib.hid (shift_any w5 p L0 dp0 v0 mant 1 k hm.2.2.1 hm.2.2.2.1 hm.2.2.2.2.1 hm.2.2.2.2.2.1 hm.2.2.2.2.2.2.1 (by have := HK.out.2.1; omega) HK.out.1 (by omega))
    have I5 := Lib.hid ((hm.1.block _ (Array.getElem?_eq_some_iff.1 I4.out).1).trans I4.out)
    have HM := Lib.hid hm
    have i0 := cell_of_row w5 w2.heap.size 0 _ _ _ I5.out
    simp only [List.getElem?_toArray, List.getElem?_cons_zero] at i0
    have il : w2.heap.size < w5.heap.size := (Array.getElem?_eq_some_iff.1 I5.out).1
    clear hm
    go_wp2_with fail
    rw [HX.out]
    refine HSH.out.mono ?_
    rintro e w6 ⟨rfl, hg, L, dp, v, hd, hdm, hl, h2, h3, _⟩
    have hB6 := HM.out.1.grown hg HM.out.1.size (fun b hb => by injection hb; have := HM.out.2.1; omega)
    obtain ⟨rfl, rfl⟩ := dm_half HK.out.1 HK.out.2.2.1 hdm
    have I6 := Lib.hid ((hB6.block _ (Array.getElem?_eq_some_iff.1 I4.out).1).trans I4.out)
    have B6 := Lib.hid (B4.out.trans (hB6.mono B4.out.size))
    have HST := Lib.hid (short_any w6 p N k mant v hd hN HK.out.1 HK.out.2.1 HK.out.2.2.1 HK.out.2.2.2.1 HK.out.2.2.2.2.1 x HK.out.2.2.2.2.2)
    have HD6 := Lib.hid hd
    clear i0 il hg hd hdm hl h2 h3 hB6
    have i0 := cell_of_row w6 w2.heap.size 0 _ _ _ I6.out
    have i1 := cell_of_row w6 w2.heap.size 1 _ _ _ I6.out
    have i2 := cell_of_row w6 w2.heap.size 2 _ _ _ I6.out
    simp only [List.getElem?_toArray, List.getElem?_cons_zero, List.getElem?_cons_succ] at i0 i1 i2
    have il : w2.heap.size < w6.heap.size := (Array.getElem?_eq_some_iff.1 I6.out).1
    go_wp2_with fail
    refine HST.out.mono ?_
    rintro e w7 ⟨rfl, hB7⟩
    have hd7 := HD6.out.below hB7
    obtain ⟨A, c, hv⟩ := hd7.dig.shape
    subst hv
    have hlen : (digN N ++ [5]).length = (digN N).length + 1 := by simp
    have c0 := hd7.box.cell0
    have c1 := hd7.box.cell1
    rw [hlen] at c0
    have HD7 := Lib.hid hd7
    have B7 := Lib.hid (B6.out.trans (hB7.mono B6.out.size))
    have hn16 := digN_len hN
    obtain ⟨n, hn⟩ : ∃ n, n = (digN N).length := ⟨_, rfl⟩
    rw [← hn] at c0 c1 hn16
    have hn1 : ((n + 1 : Nat) : Int) - (n : Int) = 1 := by omega
    clear i0 i1 i2 il hlen hB7 hd7 hn
    go_wp2_with fail
    go_quiet (fail)
    go_wp2_with fail
    rw [show (n : Int) + 1 - (n : Int) = 1 by omega]
    have hT9 := decText_any (w7.drewN nq) p N _ (HD7.out.below (below_drewN _ nq)) hN
    have B8 := Lib.hid (B7.out.trans ((below_drewN w7 nq).mono B7.out.size))
    refine hT9.mono ?_
    rintro e w9 ⟨rfl, hb9⟩
    have B9 := Lib.hid (B8.out.trans (hb9.mono B8.out.size))
    have hTl : (strL (wholeD N ++ [46, 53])).size ≤ 100 := by
      rw [strL_size, List.length_append]
      have := whole_len hN
      simp
      omega
    obtain ⟨T, hT⟩ : ∃ T, T = strL (wholeD N ++ [46, 53]) := ⟨_, rfl⟩
    rw [← hT] at hTl ⊢
    have HT := Lib.hid hT
    clear hT hT9 hb9
    go_wp2_with fail
    go_ret
    refine ⟨?_, B9.out⟩
    rw [HS.out, HT.out]
    exact congrArg (fun x => Ending.returned (.string x)) (strL_append [] (wholeD N ++ [46, 53]))
  · simp only [Int.natCast_one] at hs0
    go_wp2_with fail
    refine (formOf_any _).mono ?_
    rintro e w2 ⟨rfl, hb2⟩
    clear hfb
    go_wp2_with fail
    go_quiet (fail)
    go_wp2_with fail
    have hB4 := hb2.alloc hb2.size (.cells #[.int .i64 52, .int .i64 11, .int .i64 (-1023)] 177)
    have hI4 : ((w2.alloc (.cells #[.int .i64 52, .int .i64 11, .int .i64 (-1023)] 177)).drewN nq).heap[w2.heap.size]? = some (.cells #[.int .i64 52, .int .i64 11, .int .i64 (-1023)] 177 (0, 0)) := heap_alloc_new w2 _
    have B4 := Lib.hid (hB4.trans ((below_drewN _ nq).mono hB4.size))
    have I4 := Lib.hid hI4
    clear hB4 hI4 hb2
    generalize (w2.alloc (.cells #[.int .i64 52, .int .i64 11, .int .i64 (-1023)] 177)).drewN nq = w4 at *
    refine (HND.out _).mono ?_
    rintro e w5 ⟨p, L0, dp0, v0, rfl, hm⟩
    have HSH := Lib.hid (shift_any w5 p L0 dp0 v0 mant 1 k hm.2.2.1 hm.2.2.2.1 hm.2.2.2.2.1 hm.2.2.2.2.2.1 hm.2.2.2.2.2.2.1 (by have := HK.out.2.1; omega) HK.out.1 (by omega))
    have I5 := Lib.hid ((hm.1.block _ (Array.getElem?_eq_some_iff.1 I4.out).1).trans I4.out)
    have HM := Lib.hid hm
    have i0 := cell_of_row w5 w2.heap.size 0 _ _ _ I5.out
    simp only [List.getElem?_toArray, List.getElem?_cons_zero] at i0
    have il : w2.heap.size < w5.heap.size := (Array.getElem?_eq_some_iff.1 I5.out).1
    clear hm
    go_wp2_with fail
    rw [HX.out]
    refine HSH.out.mono ?_
    rintro e w6 ⟨rfl, hg, L, dp, v, hd, hdm, hl, h2, h3, _⟩
    have hB6 := HM.out.1.grown hg HM.out.1.size (fun b hb => by injection hb; have := HM.out.2.1; omega)
    obtain ⟨rfl, rfl⟩ := dm_half HK.out.1 HK.out.2.2.1 hdm
    have I6 := Lib.hid ((hB6.block _ (Array.getElem?_eq_some_iff.1 I4.out).1).trans I4.out)
    have B6 := Lib.hid (B4.out.trans (hB6.mono B4.out.size))
    have HST := Lib.hid (short_any w6 p N k mant v hd hN HK.out.1 HK.out.2.1 HK.out.2.2.1 HK.out.2.2.2.1 HK.out.2.2.2.2.1 x HK.out.2.2.2.2.2)
    have HD6 := Lib.hid hd
    clear i0 il hg hd hdm hl h2 h3 hB6
    have i0 := cell_of_row w6 w2.heap.size 0 _ _ _ I6.out
    have i1 := cell_of_row w6 w2.heap.size 1 _ _ _ I6.out
    have i2 := cell_of_row w6 w2.heap.size 2 _ _ _ I6.out
    simp only [List.getElem?_toArray, List.getElem?_cons_zero, List.getElem?_cons_succ] at i0 i1 i2
    have il : w2.heap.size < w6.heap.size := (Array.getElem?_eq_some_iff.1 I6.out).1
    go_wp2_with fail
    refine HST.out.mono ?_
    rintro e w7 ⟨rfl, hB7⟩
    have hd7 := HD6.out.below hB7
    obtain ⟨A, c, hv⟩ := hd7.dig.shape
    subst hv
    have hlen : (digN N ++ [5]).length = (digN N).length + 1 := by simp
    have c0 := hd7.box.cell0
    have c1 := hd7.box.cell1
    rw [hlen] at c0
    have HD7 := Lib.hid hd7
    have B7 := Lib.hid (B6.out.trans (hB7.mono B6.out.size))
    have hn16 := digN_len hN
    obtain ⟨n, hn⟩ : ∃ n, n = (digN N).length := ⟨_, rfl⟩
    rw [← hn] at c0 c1 hn16
    have hn1 : ((n + 1 : Nat) : Int) - (n : Int) = 1 := by omega
    clear i0 i1 i2 il hlen hB7 hd7 hn
    go_wp2_with fail
    go_quiet (fail)
    go_wp2_with fail
    rw [show (n : Int) + 1 - (n : Int) = 1 by omega]
    have hT9 := decText_any (w7.drewN nq) p N _ (HD7.out.below (below_drewN _ nq)) hN
    have B8 := Lib.hid (B7.out.trans ((below_drewN w7 nq).mono B7.out.size))
    refine hT9.mono ?_
    rintro e w9 ⟨rfl, hb9⟩
    have B9 := Lib.hid (B8.out.trans (hb9.mono B8.out.size))
    have hTl : (strL (wholeD N ++ [46, 53])).size ≤ 100 := by
      rw [strL_size, List.length_append]
      have := whole_len hN
      simp
      omega
    obtain ⟨T, hT⟩ : ∃ T, T = strL (wholeD N ++ [46, 53]) := ⟨_, rfl⟩
    rw [← hT] at hTl ⊢
    have HT := Lib.hid hT
    clear hT hT9 hb9
    go_wp2_with fail
    go_ret
    refine ⟨?_, B9.out⟩
    rw [HS.out, HT.out]
    exact congrArg (fun x => Ending.returned (.string x)) (strL_append [45] (wholeD N ++ [46, 53]))
end Go.Proofs.YtpigccnlembfdaaGreatDoor
