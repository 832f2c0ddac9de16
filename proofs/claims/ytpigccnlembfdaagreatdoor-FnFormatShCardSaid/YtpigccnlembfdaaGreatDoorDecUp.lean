/- The walk of a decimal's up: fewer digits, the last of them one more. Conditions: as the theorem states. -/
import Derived.Test.YtpigccnlembfdaaGreatDoorDecDown
namespace Go.Proofs.YtpigccnlembfdaaGreatDoor
open Go.RowKit

theorem up_leaf {w W : World} {q g j cap d B : Nat} {L : List Nat} {dp : Int} (hB : Below w.heap.size w W) (hbx : DBox W q (.slice (some ⟨g, 0, none⟩) (j + 1) cap) dp)
    (hown : W.ownsRow B 5 1 (.slice (some ⟨g, 0, none⟩) (j + 1) cap) (j + 1) (encN (L.take (j + 1)))) (hb : w.heap.size ≤ B) (hne : g ≠ q) (hd : L[j]? = some d) :
    Below w.heap.size w (W.setCell ⟨g, j, none⟩ (.int .u8 ((d : Int) + 1))) ∧ DecAt (W.setCell ⟨g, j, none⟩ (.int .u8 ((d : Int) + 1))) q (L.take j ++ [d + 1]) dp (.slice (some ⟨g, 0, none⟩) (j + 1) cap) := by
  have hlt := (hown.lt g rfl)
  have hwg : w.heap.size ≤ g := Nat.le_trans hb hlt.1
  have hj : j < L.length := (List.getElem?_eq_some_iff.1 hd).1
  have hl : (L.take j).length = j := by rw [List.length_take]; omega
  have hst := (hown.stored j (.int .u8 ((d : Int) + 1))).1
  have hx : (encN (L.take (j + 1))).set j (.int .u8 ((d : Int) + 1)) = encN (L.take j ++ [d + 1]) := by
    rw [take_snocD L j d hd, encN_append, List.set_append, if_neg (by simp [encN]; omega)]
    rw [show j - (encN (List.take j L)).length = 0 by simp [encN]; omega]
    rw [encN_append]
    simp [encN]
  rw [hx] at hst
  refine ⟨hB.setCell (p := ⟨g, j, none⟩) hwg _, hbx.keep (grown_cell W g j _) (fun e => hne (Option.some.inj e).symm), ?_, fun _ g' hg' => ?_⟩
  · have : (L.take j ++ [d + 1]).length = j + 1 := by simp; omega
    have h2 : (W.setCell ⟨g, j, none⟩ (.int .u8 ((d : Int) + 1))).ownsRow B 5 1 (.slice (some ⟨g, 0, none⟩) (j + 1) cap) (L.take j ++ [d + 1]).length (encN (L.take j ++ [d + 1])) := by rw [this]; exact hst
    exact (digAt_own h2).1
  · simp only [Value.ownBlock, Option.some.injEq] at hg'; omega

theorem up_one (w : World) (dp : Int) : Below w.heap.size w ((w.alloc (.cells #[.int .u8 1] 5)).alloc (.cells #[.slice (some ⟨w.heap.size, 0, none⟩) 1 1, .int .i64 dp] 183)) ∧
    DecAt ((w.alloc (.cells #[.int .u8 1] 5)).alloc (.cells #[.slice (some ⟨w.heap.size, 0, none⟩) 1 1, .int .i64 dp] 183)) (w.heap.size + 1) [1] dp (.slice (some ⟨w.heap.size, 0, none⟩) 1 1) := by
  have hown : ((w.alloc (.cells #[.int .u8 1] 5)).alloc (.cells #[.slice (some ⟨w.heap.size, 0, none⟩) 1 1, .int .i64 dp] 183)).ownsRow w.heap.size 5 1 (.slice (some ⟨w.heap.size, 0, none⟩) 1 1) [1].length (encN [1]) :=
    (World.ownsRow_lit w #[.int .u8 1] 1 (Nat.le_refl _) (by decide) rfl).alloc _
  refine ⟨((Below.refl _ _).alloc (Nat.le_refl _) _).alloc (by simp) _, ?_, (digAt_own hown).1, fun _ g hg => ?_⟩
  · have h : DBox ((w.alloc (.cells #[.int .u8 1] 5)).alloc (.cells #[.slice (some ⟨w.heap.size, 0, none⟩) 1 1, .int .i64 dp] 183)) (w.alloc (.cells #[.int .u8 1] 5)).heap.size (.slice (some ⟨w.heap.size, 0, none⟩) 1 1) dp := heap_alloc_new _ _
    simpa using h
  · simp only [Value.ownBlock, Option.some.injEq] at hg; omega
/-- What up leaves. -/
def UpPost (L : List Nat) (n : Nat) (dp : Int) (w : World) (e : Ending) (w' : World) : Prop := ∃ p L' dp' v, e = .returned (.pointer (some ⟨p, 0, none⟩)) ∧ Below w.heap.size w w' ∧ DecAt w' p L' dp' v ∧
  ((∃ j d, j < n ∧ L[j]? = some d ∧ d < 9 ∧ (∀ i, j < i → i < n → 9 ≤ at0 L i) ∧ L' = L.take j ++ [d + 1] ∧ dp' = dp) ∨ ((∀ i, i < n → 9 ≤ at0 L i) ∧ L' = [1] ∧ dp' = dp + 1))
set_option maxRecDepth 100000 in
set_option maxHeartbeats 4000000 in
theorem up_any (w : World) (p : Nat) (L : List Nat) (dp : Int) (v : Value) (h : DecAt w p L dp v) (n : Nat) (hn : n < L.length) (hL : L.length ≤ 1000) (hdp : dp ≤ 2000) (hdp2 : -2000 ≤ dp) (ht : Ten L) :
    Calls Tryz.prog 157 #[.pointer (some ⟨p, 0, none⟩), .int .i64 n] w (UpPost L n dp w) := by
  have c0 := h.box.cell0
  have c1 := h.box.cell1
  have H := Lib.hid h
  obtain ⟨AA, c, rfl, hc, hx⟩ := h.dig
  obtain ⟨g, rfl, hg, hcell⟩ := hx (by rintro rfl; simp at hn)
  have hltp := h.box.lt
  obtain ⟨m, hm⟩ : ∃ m, m = L.length := ⟨_, rfl⟩
  have hnL : n < L.length := hn
  rw [← hm] at c0 hn hL hc
  have hnm : ¬ ((m : Int) ≤ (n : Int)) := by omega
  have HM := Lib.hid hm
  have HC := Lib.hid hcell
  have HT := Lib.hid ht
  obtain ⟨i5, hi, he⟩ := Option.map_eq_some_iff.1 info_u8
  have hz0 : i5.zero = some (.int .u8 0) := congrArg (·.1) he
  have hz1 : i5.size = 1 := congrArg (·.2.1) he
  have hz2 : i5.bytes = 1 := congrArg (·.2.2) he
  have hwn : IntKind.i64.wrap ((n : Int) - 1) = (n : Int) - 1 := IntWalk.i64_in _ (by omega)
  have HWN := Lib.hid hwn
  clear h hx hm hcell he ht hwn
  go_enter Tryz.func157, Tryz.ntmps157
  go_wp2_with fail
  first | rw [HWN.out] | skip
  go_loop [5] (fun iv => ∃ x : Int, iv = .int .i64 x ∧ -1 ≤ x ∧ x < n ∧ Hid (∀ i : Nat, x < i → i < n → 9 ≤ at0 L i)) (fun iv => (intOf iv + 1).toNat)
  case atStart => exact ⟨(n : Int) - 1, rfl, by omega, by omega, Lib.hid (fun i h1 h2 => by omega)⟩
  case round =>
    obtain ⟨x, rfl, hx1, hx2, HX⟩ := hrel
    by_cases hx0 : x < 0
    · obtain rfl : x = -1 := by omega
      have hwd : IntKind.i64.wrap (dp + 1) = dp + 1 := IntWalk.i64_in _ (by omega)
      go_wp2_with fail
      go_ret
      obtain ⟨hb, hd⟩ := up_one w (dp + 1)
      exact ⟨_, _, _, _, rfl, hb, hd, Or.inr ⟨fun i h1 => HX.out i (by omega) h1, rfl, rfl⟩⟩
    · obtain ⟨j, rfl⟩ : ∃ j : Nat, x = (j : Int) := ⟨x.toNat, by omega⟩
      have hjn : j < n := by omega
      obtain ⟨d, hd⟩ : ∃ d, L[j]? = some d := ⟨_, List.getElem?_eq_getElem (by omega)⟩
      have d0 := HC.out j d hd
      have HD := Lib.hid hd
      have hat : at0 L j = d := by unfold at0; rw [List.getD_eq_getElem?_getD, hd]; rfl
      have HAT := Lib.hid hat
      have hd10 := HT.out d (List.mem_of_getElem? hd)
      clear hd hat
      by_cases hd9 : d < 9
      · have hnc : ((j : Int) + 1) ≤ (c : Int) := by omega
        have hnc2 : j + 1 ≤ c := by omega
        have hwj : IntKind.i64.wrap ((j : Int) + 1) = (j : Int) + 1 := IntWalk.i64_in _ (by omega)
        go_wp2_with fail
        clear d0
        refine wp_region_S (Sf := Till 15 (fun W => W.cell? ⟨p, 0, none⟩ = some (.slice (some ⟨g, 0, none⟩) m c) ∧ W.cell? ⟨p, 1, none⟩ = some (.int .i64 dp)) (fun _ => True)) (by kernel_rfl) ?_
        have HBD := Lib.hid (show Below w.heap.size w w.drew from (Below.refl _ _).drew)
        have c0d : w.drew.cell? ⟨p, 0, none⟩ = some (.slice (some ⟨g, 0, none⟩) m c) := c0
        have c1d : w.drew.cell? ⟨p, 1, none⟩ = some (.int .i64 dp) := c1
        have hszd : w.drew.heap.size = w.heap.size := rfl
        have HCD : Hid (∀ (i a : Nat), L[i]? = some a → w.drew.cell? ⟨g, i, none⟩ = some (.int .u8 a)) := HC
        clear c0 c1 HC
        generalize w.drew = w1 at *
        rw [← hszd] at hg hltp
        have HSZ := Lib.hid hszd
        clear hszd
        have p0 : ∀ o, (w1.alloc o).cell? ⟨p, 0, none⟩ = some (.slice (some ⟨g, 0, none⟩) m c) := fun o => (World.cell?_alloc_lt _ _ _ hltp).trans c0d
        have p1 : ∀ o, (w1.alloc o).cell? ⟨p, 1, none⟩ = some (.int .i64 dp) := fun o => (World.cell?_alloc_lt _ _ _ hltp).trans c1d
        have pp0 : ∀ o o', ((w1.alloc o).alloc o').cell? ⟨p, 0, none⟩ = some (.slice (some ⟨g, 0, none⟩) m c) := fun o o' => (World.cell?_alloc_lt _ _ _ (by simp; omega)).trans (p0 o)
        have pp1 : ∀ o o', ((w1.alloc o).alloc o').cell? ⟨p, 1, none⟩ = some (.int .i64 dp) := fun o o' => (World.cell?_alloc_lt _ _ _ (by simp; omega)).trans (p1 o)
        have P := Lib.hid (And.intro p0 (And.intro p1 (And.intro pp0 pp1)))
        clear p0 p1 pp0 pp1
        refine till_take_R (i := 1) 30 (.pointer (some ⟨p, 0, none⟩)) rfl rfl (by kernel_rfl) (by kernel_rfl) (by kernel_rfl) (by decide) (fun _ _ _ h => h) (Or.inl ⟨by rfl, ?_⟩) ⟨⟨c0d, c1d⟩, fun _ => trivial⟩ ?_
        · intro W hW; obtain ⟨h0, h1⟩ := hW; go_simp
        simp only [Act.put, List.setIfInBounds_toArray, List.set_cons_zero, List.set_cons_succ]
        refine till_take_R (i := 2) 31 (.pointer (some ⟨p, 0, none⟩)) rfl rfl (by kernel_rfl) (by kernel_rfl) (by kernel_rfl) (by decide) (fun _ _ _ h => h) (Or.inl ⟨by rfl, ?_⟩) ⟨⟨c0d, c1d⟩, fun _ => trivial⟩ ?_
        · intro W hW; obtain ⟨h0, h1⟩ := hW; go_simp
        simp only [Act.put, List.setIfInBounds_toArray, List.set_cons_zero, List.set_cons_succ]
        refine till_take_R (i := 3) 32 (.pointer (some ⟨p, 0, none⟩)) rfl rfl (by kernel_rfl) (by kernel_rfl) (by kernel_rfl) (by decide) (fun _ _ _ h => h) (Or.inl ⟨by rfl, ?_⟩) ⟨⟨c0d, c1d⟩, fun _ => trivial⟩ ?_
        · intro W hW; obtain ⟨h0, h1⟩ := hW; go_simp
        simp only [Act.put, List.setIfInBounds_toArray, List.set_cons_zero, List.set_cons_succ]
        refine till_take_R (i := 4) 33 (.slice (some ⟨g, 0, none⟩) m c) rfl rfl (by kernel_rfl) (by kernel_rfl) (by kernel_rfl) (by decide) (fun _ _ _ h => h) (Or.inl ⟨by rfl, ?_⟩) ⟨⟨c0d, c1d⟩, fun _ => trivial⟩ ?_
        · intro W hW; obtain ⟨h0, h1⟩ := hW; go_simp
        simp only [Act.put, List.setIfInBounds_toArray, List.set_cons_zero, List.set_cons_succ]
        refine till_take_R (i := 5) 34 (.int .i64 j) rfl rfl (by kernel_rfl) (by kernel_rfl) (by kernel_rfl) (by decide) (fun _ _ _ h => h) (Or.inl ⟨by rfl, ?_⟩) ⟨⟨c0d, c1d⟩, fun _ => trivial⟩ ?_
        · intro W hW; obtain ⟨h0, h1⟩ := hW; go_simp
        simp only [Act.put, List.setIfInBounds_toArray, List.set_cons_zero, List.set_cons_succ]
        refine till_take_R (i := 6) 35 (.int .i64 ((j : Int) + 1)) rfl rfl (by kernel_rfl) (by kernel_rfl) (by kernel_rfl) (by decide) (fun _ _ _ h => h) (Or.inl ⟨by rfl, ?_⟩) ⟨⟨c0d, c1d⟩, fun _ => trivial⟩ ?_
        · intro W hW; obtain ⟨h0, h1⟩ := hW; go_simp; try (intros; omega)
        simp only [Act.put, List.setIfInBounds_toArray, List.set_cons_zero, List.set_cons_succ]
        refine till_take_R (i := 7) 36 (.slice (some ⟨g, 0, none⟩) (j + 1) c) rfl rfl (by kernel_rfl) (by kernel_rfl) (by kernel_rfl) (by decide) (fun _ _ _ h => h) (Or.inl ⟨by rfl, ?_⟩) ⟨⟨c0d, c1d⟩, fun _ => trivial⟩ ?_
        · intro W hW; obtain ⟨h0, h1⟩ := hW; go_simp; try (intros; omega)
        simp only [Act.put, List.setIfInBounds_toArray, List.set_cons_zero, List.set_cons_succ]
        refine till_take_R (i := 9) 38 (.pointer (some ⟨p, 0, none⟩)) rfl rfl (by kernel_rfl) (by kernel_rfl) (by kernel_rfl) (by decide) (fun _ _ _ h => h) (Or.inl ⟨by rfl, ?_⟩) ⟨⟨c0d, c1d⟩, fun _ => trivial⟩ ?_
        · intro W hW; obtain ⟨h0, h1⟩ := hW; go_simp
        simp only [Act.put, List.setIfInBounds_toArray, List.set_cons_zero, List.set_cons_succ]
        refine till_take_R (i := 10) 39 (.pointer (some ⟨p, 0, none⟩)) rfl rfl (by kernel_rfl) (by kernel_rfl) (by kernel_rfl) (by decide) (fun _ _ _ h => h) (Or.inl ⟨by rfl, ?_⟩) ⟨⟨c0d, c1d⟩, fun _ => trivial⟩ ?_
        · intro W hW; obtain ⟨h0, h1⟩ := hW; go_simp
        simp only [Act.put, List.setIfInBounds_toArray, List.set_cons_zero, List.set_cons_succ]
        refine till_take_R (i := 11) 40 (.pointer (some ⟨p, 1, none⟩)) rfl rfl (by kernel_rfl) (by kernel_rfl) (by kernel_rfl) (by decide) (fun _ _ _ h => h) (Or.inl ⟨by rfl, ?_⟩) ⟨⟨c0d, c1d⟩, fun _ => trivial⟩ ?_
        · intro W hW; obtain ⟨h0, h1⟩ := hW; go_simp
        simp only [Act.put, List.setIfInBounds_toArray, List.set_cons_zero, List.set_cons_succ]
        refine till_take_R (i := 12) 41 (.int .i64 dp) rfl rfl (by kernel_rfl) (by kernel_rfl) (by kernel_rfl) (by decide) (fun _ _ _ h => h) (Or.inl ⟨by rfl, ?_⟩) ⟨⟨c0d, c1d⟩, fun _ => trivial⟩ ?_
        · intro W hW; obtain ⟨h0, h1⟩ := hW; go_simp
        simp only [Act.put, List.setIfInBounds_toArray, List.set_cons_zero, List.set_cons_succ]
        refine anyS_ready (rs := [0, 14]) (by kernel_rfl) (by simp) ?_
        refine AllS.cons rfl (fun K hK => ?_) (AllS.cons rfl (fun K hK => ?_) AllS.nil)
        · go_simp
          refine hK.out _ _ ⟨⟨P.out.1 _, P.out.2.1 _⟩, fun _ => trivial⟩ ?_
          clear hK K
          refine anyS_ready (rs := [8, 14]) (by kernel_rfl) (by simp) ?_
          refine AllS.cons rfl (fun K hK => ?_) (AllS.cons rfl (fun K hK => ?_) AllS.nil)
          · refine step_append_lies _ (by rfl) _ _ 72 (by rfl) w1.heap.size 5 i5 (.int .u8 0) 1 1 Tryz.underlying72 hi hz0 hz1 hz2 rfl (by decide) (.slice (some ⟨w1.heap.size, 0, none⟩) 0 0) 0 [] (by rfl) (ownEmpty w1 (Nat.le_refl _)) ⟨g, 0, none⟩ (j + 1) c (encN (L.take (j + 1))) (by rfl) (encN_take (by omega)) (fun j u hj => srcCell1 HCD.out hg hj) (by simp [encN, Value.oneCell']; intro u hu; obtain ⟨_, _, rfl⟩ := List.mem_map.1 (List.mem_of_mem_take hu); rfl) (by omega) (by unfold maxLen; omega) (by omega) (by first | (simp; done) | (simp; omega)) _ rfl ?_
            intro g2 cap w6 hown6 hg6 hat6 hlt6
            simp only [Nat.zero_add, List.nil_append] at hown6 ⊢
            have q0 : w6.cell? ⟨p, 0, none⟩ = some (.slice (some ⟨g, 0, none⟩) m c) := (World.cell?_of_block (hg6.block p (by simp; omega) (fun e => by simp [Value.ownBlock] at e; omega))).trans (P.out.1 _)
            have q1 : w6.cell? ⟨p, 1, none⟩ = some (.int .i64 dp) := (World.cell?_of_block (hg6.block p (by simp; omega) (fun e => by simp [Value.ownBlock] at e; omega))).trans (P.out.2.1 _)
            have hge2 := (hown6.lt g2 rfl).1
            have h61 := hg6.size
            have hp6 : p < w6.heap.size := by simp at h61; omega
            have R6 := Lib.hid (And.intro (fun o => (World.cell?_alloc_lt w6 o ⟨p, 0, none⟩ hp6).trans q0) (fun o => (World.cell?_alloc_lt w6 o ⟨p, 1, none⟩ hp6).trans q1))
            have HO6 := Lib.hid (And.intro hown6 (And.intro hg6 hat6))
            clear hown6 hg6 hat6
            change K (Act.put _ (some 37) _) _
            refine hK.out _ _ ⟨⟨q0, q1⟩, fun _ => trivial⟩ ?_
            clear hK K
            refine till_take_R (i := 13) 42 (.agg #[.slice (some ⟨g2, 0, none⟩) (j + 1) cap, .int .i64 dp]) rfl rfl (by kernel_rfl) (by kernel_rfl) (by kernel_rfl) (by decide) (fun _ _ _ h => h) (Or.inl ⟨by rfl, ?_⟩) ⟨⟨q0, q1⟩, fun _ => trivial⟩ ?_
            · intro W hW; obtain ⟨h0, h1⟩ := hW; go_simp
            simp only [Act.put, List.setIfInBounds_toArray, List.set_cons_zero, List.set_cons_succ]
            refine anyS_ready (rs := [14]) (by kernel_rfl) (by simp) ?_
            refine AllS.cons rfl (fun K hK => ?_) AllS.nil
            go_simp
            refine hK.out _ _ ⟨⟨R6.out.1 _, R6.out.2 _⟩, fun _ => trivial⟩ ?_
            clear hK K
            refine anyS_ready (rs := [15]) (by kernel_rfl) (by simp) ?_
            refine AllS.cons rfl (fun K hK => ?_) AllS.nil
            go_simp
            refine hK.out _ _ ⟨⟨R6.out.1 _, R6.out.2 _⟩, fun _ => trivial⟩ ?_
            clear hK K
            refine anyS_done (by kernel_rfl) ?_ _
            obtain ⟨hb, hd⟩ := leaf1 (dp := dp) HBD.out HSZ.out (by omega) HO6.out.1 HO6.out.2.1
            have hown8 := HO6.out.1.alloc (.cells #[.slice (some ⟨g2, 0, none⟩) (j + 1) cap, .int .i64 dp] 183)
            have hgq : g2 ≠ w6.heap.size := by have := HO6.out.1.lt g2 rfl; omega
            obtain ⟨hb9, hd9'⟩ := up_leaf hb hd.box hown8 (by have := HSZ.out; omega) hgq HD.out
            have e0 := hd.box.cell0
            have eg := hown8.cellAt j (by omega)
            rw [show (encN (L.take (j + 1)))[j]? = some (.int .u8 d) by simp [encN, HD.out]] at eg
            have ef := hown8.frozenAt j
            have elt := hd.box.lt
            have eltg := (hown8.lt g2 rfl).2
            have HU := Lib.hid (And.intro hb9 hd9')
            clear hb9 hd9' hown8 hb hd
            generalize w6.alloc (.cells #[.slice (some ⟨g2, 0, none⟩) (j + 1) cap, .int .i64 dp] 183) = w8 at *
            go_wp2_with fail
            go_ret
            exact ⟨_, _, _, _, rfl, HU.out.1, HU.out.2, Or.inl ⟨j, d, hjn, HD.out, hd9, fun i h1 h2 => HX.out i (by omega) h2, rfl, rfl⟩⟩
          · go_simp
            refine hK.out _ _ ⟨⟨P.out.2.2.1 _ _, P.out.2.2.2 _ _⟩, fun _ => trivial⟩ ?_
            clear hK K
            refine anyS_ready (rs := [8]) (by kernel_rfl) (by simp) ?_
            refine AllS.cons rfl (fun K hK => ?_) AllS.nil
            refine step_append_lies _ (by rfl) _ _ 72 (by rfl) w1.heap.size 5 i5 (.int .u8 0) 1 1 Tryz.underlying72 hi hz0 hz1 hz2 rfl (by decide) (.slice (some ⟨w1.heap.size, 0, none⟩) 0 0) 0 [] (by rfl) ((ownEmpty w1 (Nat.le_refl _)).alloc _) ⟨g, 0, none⟩ (j + 1) c (encN (L.take (j + 1))) (by rfl) (encN_take (by omega)) (fun j u hj => srcCell2 HCD.out hg hj) (by simp [encN, Value.oneCell']; intro u hu; obtain ⟨_, _, rfl⟩ := List.mem_map.1 (List.mem_of_mem_take hu); rfl) (by omega) (by unfold maxLen; omega) (by omega) (by first | (simp; done) | (simp; omega)) _ rfl ?_
            intro g2 cap w6 hown6 hg6 hat6 hlt6
            simp only [Nat.zero_add, List.nil_append] at hown6 ⊢
            have q0 : w6.cell? ⟨p, 0, none⟩ = some (.slice (some ⟨g, 0, none⟩) m c) := (World.cell?_of_block (hg6.block p (by simp; omega) (fun e => by simp [Value.ownBlock] at e; omega))).trans (P.out.2.2.1 _ _)
            have q1 : w6.cell? ⟨p, 1, none⟩ = some (.int .i64 dp) := (World.cell?_of_block (hg6.block p (by simp; omega) (fun e => by simp [Value.ownBlock] at e; omega))).trans (P.out.2.2.2 _ _)
            have hge2 := (hown6.lt g2 rfl).1
            have h61 := hg6.size
            have hne6 : w1.heap.size + 1 ≠ g2 := by simp [Value.ownBlock] at hat6; omega
            have hbq : DBox w6 (w1.heap.size + 1) (.slice none 0 0) 0 := (DBox.of_new2 w1 _).keep hg6 (fun e => by simp [Value.ownBlock] at e)
            have qc0 := hbq.cell0
            have qc1 := hbq.cell1
            have qf0 := hbq.frozen 0
            have qf1 := hbq.frozen 1
            have qlt := hbq.lt
            clear hbq
            have hp6 : p < w6.heap.size := by simp at h61; omega
            have R6 := Lib.hid (And.intro (fun o => (World.cell?_alloc_lt w6 o ⟨p, 0, none⟩ hp6).trans q0) (fun o => (World.cell?_alloc_lt w6 o ⟨p, 1, none⟩ hp6).trans q1))
            have HO6 := Lib.hid (And.intro hown6 (And.intro hg6 hat6))
            clear hown6 hg6 hat6
            change K (Act.put _ (some 37) _) _
            refine hK.out _ _ ⟨⟨q0, q1⟩, fun _ => trivial⟩ ?_
            clear hK K
            refine till_take_R (i := 13) 42 (.agg #[.slice (some ⟨g2, 0, none⟩) (j + 1) cap, .int .i64 dp]) rfl rfl (by kernel_rfl) (by kernel_rfl) (by kernel_rfl) (by decide) (fun _ _ _ h => h) (Or.inl ⟨by rfl, ?_⟩) ⟨⟨q0, q1⟩, fun _ => trivial⟩ ?_
            · intro W hW; obtain ⟨h0, h1⟩ := hW; go_simp
            simp only [Act.put, List.setIfInBounds_toArray, List.set_cons_zero, List.set_cons_succ]
            refine anyS_ready (rs := [15]) (by kernel_rfl) (by simp) ?_
            refine AllS.cons rfl (fun K hK => ?_) AllS.nil
            go_simp
            refine hK.out _ _ ⟨⟨(cell_two_ne (b := w1.heap.size + 1) _ _ hp6 (by omega)).trans q0, (cell_two_ne (b := w1.heap.size + 1) _ _ hp6 (by omega)).trans q1⟩, fun _ => trivial⟩ ?_
            clear hK K
            refine anyS_done (by kernel_rfl) ?_ _
            obtain ⟨hb, hd⟩ := leaf2 (q := w1.heap.size + 1) (e := w1.heap.size) (dp := dp) HBD.out HSZ.out (by omega) HO6.out.1 HO6.out.2.1 (Nat.le_refl _) (by omega) (by omega) hne6 (DBox.of_new2 w1 _)
            have hown8 := HO6.out.1.kept ((grown_cell w6 (w1.heap.size + 1) 0 (.slice (some ⟨g2, 0, none⟩) (j + 1) cap)).trans (grown_cell _ (w1.heap.size + 1) 1 (.int .i64 dp))) (Or.inr (by simp [Value.ownBlock]; have := hne6; omega))
            have hgq : g2 ≠ (w1.heap.size + 1) := by have := HO6.out.1.lt g2 rfl; exact Ne.symm hne6
            obtain ⟨hb9, hd9'⟩ := up_leaf hb hd.box hown8 (by have := HSZ.out; omega) hgq HD.out
            have e0 := hd.box.cell0
            have eg := hown8.cellAt j (by omega)
            rw [show (encN (L.take (j + 1)))[j]? = some (.int .u8 d) by simp [encN, HD.out]] at eg
            have ef := hown8.frozenAt j
            have elt := hd.box.lt
            have eltg := (hown8.lt g2 rfl).2
            have HU := Lib.hid (And.intro hb9 hd9')
            clear hb9 hd9' hown8 hb hd
            skip
            go_wp2_with fail
            go_ret
            exact ⟨_, _, _, _, rfl, HU.out.1, HU.out.2, Or.inl ⟨j, d, hjn, HD.out, hd9, fun i h1 h2 => HX.out i (by omega) h2, rfl, rfl⟩⟩
        · go_simp
          refine hK.out _ _ ⟨⟨P.out.1 _, P.out.2.1 _⟩, fun _ => trivial⟩ ?_
          clear hK K
          refine anyS_ready (rs := [0]) (by kernel_rfl) (by simp) ?_
          refine AllS.cons rfl (fun K hK => ?_) AllS.nil
          go_simp
          refine hK.out _ _ ⟨⟨P.out.2.2.1 _ _, P.out.2.2.2 _ _⟩, fun _ => trivial⟩ ?_
          clear hK K
          refine anyS_ready (rs := [8]) (by kernel_rfl) (by simp) ?_
          refine AllS.cons rfl (fun K hK => ?_) AllS.nil
          refine step_append_lies _ (by rfl) _ _ 72 (by rfl) w1.heap.size 5 i5 (.int .u8 0) 1 1 Tryz.underlying72 hi hz0 hz1 hz2 rfl (by decide) (.slice (some ⟨w1.heap.size + 1, 0, none⟩) 0 0) 0 [] (by rfl) (ownEmpty2 w1 _ (Nat.le_refl _)) ⟨g, 0, none⟩ (j + 1) c (encN (L.take (j + 1))) (by rfl) (encN_take (by omega)) (fun j u hj => srcCell2 HCD.out hg hj) (by simp [encN, Value.oneCell']; intro u hu; obtain ⟨_, _, rfl⟩ := List.mem_map.1 (List.mem_of_mem_take hu); rfl) (by omega) (by unfold maxLen; omega) (by omega) (by first | (simp; done) | (simp; omega)) _ rfl ?_
          intro g2 cap w6 hown6 hg6 hat6 hlt6
          simp only [Nat.zero_add, List.nil_append] at hown6 ⊢
          have q0 : w6.cell? ⟨p, 0, none⟩ = some (.slice (some ⟨g, 0, none⟩) m c) := (World.cell?_of_block (hg6.block p (by simp; omega) (fun e => by simp [Value.ownBlock] at e; omega))).trans (P.out.2.2.1 _ _)
          have q1 : w6.cell? ⟨p, 1, none⟩ = some (.int .i64 dp) := (World.cell?_of_block (hg6.block p (by simp; omega) (fun e => by simp [Value.ownBlock] at e; omega))).trans (P.out.2.2.2 _ _)
          have hge2 := (hown6.lt g2 rfl).1
          have h61 := hg6.size
          have hne6 : w1.heap.size ≠ g2 := by simp [Value.ownBlock] at hat6; omega
          have hbq : DBox w6 (w1.heap.size) (.slice none 0 0) 0 := (DBox.of_new1 w1 _).keep hg6 (fun e => by simp [Value.ownBlock] at e)
          have qc0 := hbq.cell0
          have qc1 := hbq.cell1
          have qf0 := hbq.frozen 0
          have qf1 := hbq.frozen 1
          have qlt := hbq.lt
          clear hbq
          have hp6 : p < w6.heap.size := by simp at h61; omega
          have R6 := Lib.hid (And.intro (fun o => (World.cell?_alloc_lt w6 o ⟨p, 0, none⟩ hp6).trans q0) (fun o => (World.cell?_alloc_lt w6 o ⟨p, 1, none⟩ hp6).trans q1))
          have HO6 := Lib.hid (And.intro hown6 (And.intro hg6 hat6))
          clear hown6 hg6 hat6
          change K (Act.put _ (some 37) _) _
          refine hK.out _ _ ⟨⟨q0, q1⟩, fun _ => trivial⟩ ?_
          clear hK K
          refine till_take_R (i := 13) 42 (.agg #[.slice (some ⟨g2, 0, none⟩) (j + 1) cap, .int .i64 dp]) rfl rfl (by kernel_rfl) (by kernel_rfl) (by kernel_rfl) (by decide) (fun _ _ _ h => h) (Or.inl ⟨by rfl, ?_⟩) ⟨⟨q0, q1⟩, fun _ => trivial⟩ ?_
          · intro W hW; obtain ⟨h0, h1⟩ := hW; go_simp
          simp only [Act.put, List.setIfInBounds_toArray, List.set_cons_zero, List.set_cons_succ]
          refine anyS_ready (rs := [15]) (by kernel_rfl) (by simp) ?_
          refine AllS.cons rfl (fun K hK => ?_) AllS.nil
          go_simp
          refine hK.out _ _ ⟨⟨(cell_two_ne (b := w1.heap.size) _ _ hp6 (by omega)).trans q0, (cell_two_ne (b := w1.heap.size) _ _ hp6 (by omega)).trans q1⟩, fun _ => trivial⟩ ?_
          clear hK K
          refine anyS_done (by kernel_rfl) ?_ _
          obtain ⟨hb, hd⟩ := leaf2 (q := w1.heap.size) (e := w1.heap.size + 1) (dp := dp) HBD.out HSZ.out (by omega) HO6.out.1 HO6.out.2.1 (by omega) (Nat.le_refl _) (by omega) hne6 (DBox.of_new1 w1 _)
          have hown8 := HO6.out.1.kept ((grown_cell w6 w1.heap.size 0 (.slice (some ⟨g2, 0, none⟩) (j + 1) cap)).trans (grown_cell _ w1.heap.size 1 (.int .i64 dp))) (Or.inr (by simp [Value.ownBlock]; have := hne6; omega))
          have hgq : g2 ≠ w1.heap.size := by have := HO6.out.1.lt g2 rfl; exact Ne.symm hne6
          obtain ⟨hb9, hd9'⟩ := up_leaf hb hd.box hown8 (by have := HSZ.out; omega) hgq HD.out
          have e0 := hd.box.cell0
          have eg := hown8.cellAt j (by omega)
          rw [show (encN (L.take (j + 1)))[j]? = some (.int .u8 d) by simp [encN, HD.out]] at eg
          have ef := hown8.frozenAt j
          have elt := hd.box.lt
          have eltg := (hown8.lt g2 rfl).2
          have HU := Lib.hid (And.intro hb9 hd9')
          clear hb9 hd9' hown8 hb hd
          skip
          go_wp2_with fail
          go_ret
          exact ⟨_, _, _, _, rfl, HU.out.1, HU.out.2, Or.inl ⟨j, d, hjn, HD.out, hd9, fun i h1 h2 => HX.out i (by omega) h2, rfl, rfl⟩⟩
      · have hwj : IntKind.i64.wrap ((j : Int) - 1) = (j : Int) - 1 := IntWalk.i64_in _ (by omega)
        go_wp2_with fail
        refine ⟨⟨(j : Int) - 1, rfl, by omega, by omega, Lib.hid (fun i h1 h2 => ?_)⟩, by simp [intOf]⟩
        by_cases hij : i = j
        · subst hij; rw [HAT.out]; omega
        · exact HX.out i (by omega) h2
end Go.Proofs.YtpigccnlembfdaaGreatDoor
