/- The walk of laws.control: it says something. Conditions: as the theorem states. -/
import Derived.Test.YtpigccnlembfdaaGreatDoorNulV
namespace Go.Proofs.YtpigccnlembfdaaGreatDoor
open Go.RowKit Go.Deep

/-- A walk that says a bool and leaves what was there. -/
def SaysB (w : World) (e : Ending) (w' : World) : Prop := ∃ b, e = .returned (.bool b) ∧ Below w.heap.size w w'
/-- A row of strings. -/
def StrRow (W : World) (A : Option Addr) (m : Nat) : Prop := ∀ i, i < m → ∃ ad s, A = some ad ∧ W.cell? (ad.add i) = some (.string s) ∧ s.size ≤ 140737488351232
theorem info_strC : (Tryz.prog.info? 9).map (fun i => (i.zero, i.size, i.bytes)) = some (some (.string ⟨#[]⟩), 1, 16) := by kernel_rfl
theorem partsAll_nn : ∀ l : List V, 0 ≤ partsAll l
  | [] => by simp [partsAll]
  | x :: r => by
    have := parts_pos x
    have := partsAll_nn r
    simp only [partsAll]; omega
theorem run_append_zero (w : World) (g : Nat) (aK : Option Addr) (cK : Nat) : (Builtin.append_ #[24, 24] 24 #[.slice (some ⟨g, 0, none⟩) 1 1, .slice aK 0 cK]).run Tryz.prog w = .ok (.slice (some ⟨g, 0, none⟩) 1 1) w := by
  obtain ⟨i9, hi, he⟩ := Option.map_eq_some_iff.1 info_strC
  clear he
  cases aK <;> simp [Builtin.append_, run_underlying Tryz.underlying24, sizeOf, typeInfo, hi, Builtin.lenOf, Builtin.firstCells, storeCells, loadCells, loadCellsFrom]
theorem own_one (w : World) (o : Obj) (u : Value) : ((w.alloc o).alloc (.cells #[u] 9)).ownsRow (w.heap.size + 1) 9 1 (.slice (some ⟨w.heap.size + 1, 0, none⟩) 1 1) 1 [u] := by
  have := World.ownsRow_lit (base := w.heap.size + 1) (e := 9) (size := 1) (w.alloc o) #[u] 1 (by simp) (by decide) rfl
  rw [World.size_alloc] at this
  exact this
set_option maxRecDepth 100000 in
set_option maxHeartbeats 8000000 in
theorem control_any (n0 : Nat) : ∀ (x : V) (w : World) (B : Nat), x.deep ≤ n0 → x.In w B → B ≤ w.heap.size → x.parts ≤ 1000 → x.Good →
    Calls Tryz.prog 24 #[x.val] w (SaysB w) := by
  induction n0 with
  | zero =>
    intro x w B hd
    obtain ⟨k, h, s, aL, cL, l, aK, cK, ks, aV, cV, vs⟩ := x
    simp [V.deep] at hd
  | succ n0 ih =>
    intro x w B hd hin hB hp hgd
    have hQ : ∀ e w', Below w.heap.size w w' → ∀ b, e = .returned (.bool b) → SaysB w e w' := fun e w' h1 b h2 => ⟨b, h2, h1⟩
    obtain ⟨Q, hQQ⟩ : ∃ Q, Q = SaysB w := ⟨_, rfl⟩
    rw [← hQQ] at hQ ⊢
    have HQ := Lib.hid hQ
    clear hQ hQQ
    obtain ⟨k, h, s, aL, cL, l, aK, cK, ks, aV, cV, vs⟩ := x
    unfold V.In at hin
    obtain ⟨hown, hrowL, hkeys, hrowV, hallL, hallV⟩ := hin
    unfold V.Own at hown
    obtain ⟨-, -, hts, -, -, hkc, hkl, -, -, hkss⟩ := hown
    unfold V.Good at hgd
    have HGL := Lib.hid (goodAll_mem hgd.2.2.2.2.1)
    have HGV := Lib.hid (goodAll_mem hgd.2.2.2.2.2)
    have hkv : ks.length = vs.length := by obtain ⟨_, _, _, _, _, _, h⟩ := hgd.1; exact h
    clear hgd
    have hpl := length_parts l
    have hpv := length_parts vs
    simp only [V.parts] at hp
    have hp1 := partsAll_nn l
    have hp2 := partsAll_nn vs
    rw [V.val_mk]
    obtain ⟨nl, hnl⟩ : ∃ nl, nl = l.length := ⟨_, rfl⟩
    obtain ⟨nk, hnk⟩ : ∃ nk, nk = ks.length := ⟨_, rfl⟩
    obtain ⟨nv, hnv⟩ : ∃ nv, nv = vs.length := ⟨_, rfl⟩
    rw [← hnk] at hkc hkl
    have HNN := Lib.hid (And.intro hnl hnv)
    have HPL : Hid (partsAll l ≤ 1000) := Lib.hid (by omega)
    have HPV : Hid (partsAll vs ≤ 1000) := Lib.hid (by omega)
    simp only [V.deep] at hd
    have HDL : Hid (deepAll l ≤ n0) := Lib.hid (by omega)
    have HDV : Hid (deepAll vs ≤ n0) := Lib.hid (by omega)
    have HRL := Lib.hid hrowL
    have HRV := Lib.hid hrowV
    have HAL := Lib.hid hallL
    have HAV := Lib.hid hallV
    have hnl1 : nl ≤ 1000 := by omega
    have hnv1 : nv ≤ 1000 := by omega
    have hnk1 : nk ≤ 1000 := by omega
    clear hkv
    rw [← hnl, ← hnk, ← hnv]
    have HNK := Lib.hid hnk
    have HKEY := Lib.hid (And.intro hkeys hkss)
    clear hrowL hrowV hallL hallV hpl hpv hp1 hp2 hp hd hnl hnv hnk hkeys hkss
    have hbx := box_six w k h s (.slice aL nl cL) (.slice aK nk cK) (.slice aV nv cV)
    have r2 := hbx 2
    have r3 := hbx 3
    have r4 := hbx 4
    have r5 := hbx 5
    simp only [List.getElem?_toArray, List.getElem?_cons_zero, List.getElem?_cons_succ] at r2 r3 r4 r5
    have hb1 := below1 w (.cells #[.int .i64 k, .int .i64 h, .string s, .slice aL nl cL, .slice aK nk cK, .slice aV nv cV] 26)
    have hxl1 : w.heap.size < (w.alloc (.cells #[.int .i64 k, .int .i64 h, .string s, .slice aL nl cL, .slice aK nk cK, .slice aV nv cV] 26)).heap.size := by simp
    obtain ⟨i9, hi, he⟩ := Option.map_eq_some_iff.1 info_strC
    have hz0 : i9.zero = some (.string ⟨#[]⟩) := congrArg (·.1) he
    have hz1 : i9.size = 1 := congrArg (·.2.1) he
    have hz2 : i9.bytes = 16 := congrArg (·.2.2) he
    clear hbx he
    obtain ⟨ob, hob⟩ : ∃ ob, ob = Obj.cells #[.int .i64 k, .int .i64 h, .string s, .slice aL nl cL, .slice aK nk cK, .slice aV nv cV] 26 := ⟨_, rfl⟩
    have HOB := Lib.hid hob
    by_cases hk0 : nk = 0
    · subst hk0
      clear hob
      go_enter Tryz.func24, Tryz.ntmps24
      go_wp2_with (at_builtin; refine wpList_append_ran rfl _ _ 24 24 rfl _ _ _ _ rfl rfl (run_append_zero _ _ _ _) ?_)
      obtain ⟨W, hW⟩ : ∃ W, W = (w.alloc (.cells #[.int .i64 k, .int .i64 h, .string s, .slice aL nl cL, .slice aK 0 cK, .slice aV nv cV] 26)).alloc (.cells #[.string s] 9) := ⟨_, rfl⟩
      have HB1 : Hid (Below w.heap.size w W) := Lib.hid (by rw [hW]; exact below2 _ _ _)
      have Hr3 : Hid (W.cell? ⟨w.heap.size, 3, none⟩ = some (.slice aL nl cL)) := Lib.hid (by rw [hW]; exact (World.cell?_alloc_lt _ _ _ hxl1).trans r3)
      have Hr5 : Hid (W.cell? ⟨w.heap.size, 5, none⟩ = some (.slice aV nv cV)) := Lib.hid (by rw [hW]; exact (World.cell?_alloc_lt _ _ _ hxl1).trans r5)
      have hxl : w.heap.size < W.heap.size := by rw [hW]; simp; omega
      have HSR : Hid (∀ i, i < 1 → ∃ ad st, (⟨w.heap.size + 1, 0, none⟩ : Addr) = ad ∧ W.cell? (ad.add i) = some (.string st) ∧ st.size ≤ 140737488351232) := Lib.hid (fun i hi => by
        obtain rfl : i = 0 := by omega
        have hnew := heap_alloc_new (w.alloc (.cells #[.int .i64 k, .int .i64 h, .string s, .slice aL nl cL, .slice aK 0 cK, .slice aV nv cV] 26)) (Obj.cells #[.string s] 9)
        rw [World.size_alloc, ← hW] at hnew
        refine ⟨_, s, rfl, ?_, hts⟩
        rw [show (⟨w.heap.size + 1, 0, none⟩ : Addr).add 0 = ⟨w.heap.size + 1, 0, none⟩ by unfold Addr.add; simp, cell_of_row _ _ 0 _ _ _ hnew]
        rfl)
      obtain ⟨ad0, had0⟩ : ∃ ad0 : Addr, ad0 = ⟨w.heap.size + 1, 0, none⟩ := ⟨_, rfl⟩
      rw [← had0] at HSR ⊢
      rw [← hW]
      clear hW had0 r2 r3 r4 r5 hb1 hxl1 hi hz0 hz1 hz2 HOB hkc hkl
      go_wp2_with fail
      go_loop [15] (fun iv => ∃ k : Nat, k ≤ 1 ∧ iv = .int .i64 k) (fun iv => 1 - (intOf iv).toNat)
      case atStart => exact ⟨0, Nat.zero_le _, rfl⟩
      case round =>
        obtain ⟨k, hk, rfl⟩ := hrel
        by_cases hkm : k < 1
        · obtain ⟨ad, st, hA, hcs, hss⟩ := HSR.out k hkm
          obtain rfl : ad0 = ad := by simpa using hA
          clear hA
          go_wp2_with fail
          go_loop [5] (fun iv => ∃ q : Nat, q ≤ st.size ∧ iv = .int .i64 q) (fun iv => st.size - (intOf iv).toNat)
          case atStart => exact ⟨0, Nat.zero_le _, rfl⟩
          case round =>
            obtain ⟨q, hq, rfl⟩ := hrel
            by_cases hlt : q < st.size
            · obtain ⟨c, hc, hsq⟩ := byte_at hlt
              clear hc
              go_wp2_with fail
              all_goals first
                | exact HQ.out _ _ HB1.out true rfl
                | exact ⟨⟨q + 1, by omega, by simp⟩, by simp [intOf]; omega⟩
            · have hqs : (q : Int) = (st.size : Int) := by omega
              go_wp2_with fail
              exact ⟨⟨k + 1, by omega, by simp⟩, by simp [intOf]; omega⟩
        · have hkm2 : (k : Int) = (1 : Int) := by omega
          have HSTART := Lib.hid (And.intro HB1.out (Below.refl W.heap.size W))
          go_wp2_with fail
          go_loopw [6] (fun iv wr => ∃ k : Nat, k ≤ nl ∧ iv = .int .i64 k ∧ Below w.heap.size w wr ∧ Below W.heap.size W wr) (fun iv _ => nl - (intOf iv).toNat)
          case atStart => exact ⟨0, Nat.zero_le _, rfl, HSTART.out.1, HSTART.out.2⟩
          case round =>
            obtain ⟨k, hk, rfl, hbw1, hbw2⟩ := hrel
            have r3 := (hbw2.cell (p := ⟨w.heap.size, 3, none⟩) hxl).trans Hr3.out
            have hxr : w.heap.size < wr.heap.size := Nat.lt_of_lt_of_le hxl hbw2.size
            have HBW := Lib.hid (And.intro hbw1 hbw2)
            by_cases hkn : k < nl
            · obtain ⟨y, hy⟩ : ∃ y, l[k]? = some y := ⟨_, List.getElem?_eq_getElem (by have := HNN.out; omega)⟩
              obtain ⟨ad, rfl, had, hc0⟩ := HRL.out (by rintro rfl; simp at hy)
              have hc : ∀ (j : Nat) (u : Value), y.cells[j]? = some u → wr.cell? (ad.add (k * 6 + j)) = some u := fun j u hu => (hbw1.cell (by rw [block_of_add]; omega)).trans (hc0 k y hy j u hu)
              have hmem := List.mem_of_getElem? hy
              have hyIn := (HAL.out.mem y hmem).below hbw1 hB
              have hrecc := ih y wr B (Nat.le_trans (deep_mem hmem) HDL.out) hyIn (by have := hbw1.size; omega) (by have := parts_mem hmem; have := HPL.out; omega) (HGL.out _ hmem)
              obtain ⟨yk, yh, yt, yaL, ycL, yl, yaK, ycK, yks, yaV, ycV, yvs⟩ := y
              obtain ⟨d0, d1, d2, d3, d4, d5⟩ := six hc
              rw [V.val_mk] at hrecc
              have HREC := Lib.hid hrecc
              clear hc hc0 hmem hy hyIn hrecc hbw1 hbw2
              go_wp2_with fail
              refine HREC.out.mono ?_
              rintro e w3 ⟨b, rfl, hb3⟩
              have HB3 := Lib.hid (And.intro (HBW.out.1.trans (hb3.mono HBW.out.1.size)) (HBW.out.2.trans (hb3.mono HBW.out.2.size)))
              clear hb3
              cases b with
              | true =>
                go_wp2_with fail
                exact HQ.out _ _ HB3.out.1 true rfl
              | false =>
                go_wp2_with fail
                go_roundw
                case rel => exact ⟨k + 1, by omega, by go_num, HB3.out.1, HB3.out.2⟩
                case measure => simp [intOf]; omega
            · obtain rfl : k = nl := by omega
              clear hbw1 hbw2
              go_wp2_with fail
              have HSTART2 := HBW
              go_loopw [7] (fun iv wr => ∃ k : Nat, k ≤ nv ∧ iv = .int .i64 k ∧ Below w.heap.size w wr ∧ Below W.heap.size W wr) (fun iv _ => nv - (intOf iv).toNat)
              case atStart => exact ⟨0, Nat.zero_le _, rfl, HSTART2.out.1, HSTART2.out.2⟩
              case round =>
                obtain ⟨k2, hk2, rfl, hbw1, hbw2⟩ := hrel
                have r5 := (hbw2.cell (p := ⟨w.heap.size, 5, none⟩) hxl).trans Hr5.out
                have hxr : w.heap.size < wr.heap.size := Nat.lt_of_lt_of_le hxl hbw2.size
                have HBW := Lib.hid (And.intro hbw1 hbw2)
                by_cases hkn : k2 < nv
                · obtain ⟨y, hy⟩ : ∃ y, vs[k2]? = some y := ⟨_, List.getElem?_eq_getElem (by have := HNN.out; omega)⟩
                  obtain ⟨ad, rfl, had, hc0⟩ := HRV.out (by rintro rfl; simp at hy)
                  have hc : ∀ (j : Nat) (u : Value), y.cells[j]? = some u → wr.cell? (ad.add (k2 * 6 + j)) = some u := fun j u hu => (hbw1.cell (by rw [block_of_add]; omega)).trans (hc0 k2 y hy j u hu)
                  have hmem := List.mem_of_getElem? hy
                  have hyIn := (HAV.out.mem y hmem).below hbw1 hB
                  have hrecc := ih y wr B (Nat.le_trans (deep_mem hmem) HDV.out) hyIn (by have := hbw1.size; omega) (by have := parts_mem hmem; have := HPV.out; omega) (HGV.out _ hmem)
                  obtain ⟨yk, yh, yt, yaL, ycL, yl, yaK, ycK, yks, yaV, ycV, yvs⟩ := y
                  obtain ⟨d0, d1, d2, d3, d4, d5⟩ := six hc
                  rw [V.val_mk] at hrecc
                  have HREC := Lib.hid hrecc
                  clear hc hc0 hmem hy hyIn hrecc hbw1 hbw2
                  go_wp2_with fail
                  refine HREC.out.mono ?_
                  rintro e w3 ⟨b, rfl, hb3⟩
                  have HB3 := Lib.hid (And.intro (HBW.out.1.trans (hb3.mono HBW.out.1.size)) (HBW.out.2.trans (hb3.mono HBW.out.2.size)))
                  clear hb3
                  cases b with
                  | true =>
                    go_wp2_with fail
                    exact HQ.out _ _ HB3.out.1 true rfl
                  | false =>
                    go_wp2_with fail
                    go_roundw
                    case rel => first | exact ⟨k2 + 1, by omega, by go_num, HB3.out.1, HB3.out.2⟩ | exact ⟨_, _, _, _, _, _, _, _, _, _, _, _, _, _, _, ⟨k2 + 1, by omega, by go_num, HB3.out.1, HB3.out.2⟩, rfl⟩
                    case measure => simp [intOf]; omega
                · obtain rfl : k2 = nv := by omega
                  clear hbw1 hbw2
                  go_wp2_with fail
                  exact HQ.out _ _ HBW.out.1 false rfl
    · have hkp : 0 < nk := Nat.pos_of_ne_zero hk0
      obtain ⟨adk, rfl, hadk, hck⟩ := HKEY.out.1 (by intro e; have := congrArg List.length e; simp at this; have := HNK.out; simp_all)
      clear hob
      go_enter Tryz.func24, Tryz.ntmps24
      go_wp2_with (at_builtin; refine wpList_append_lies _ rfl _ _ 24 rfl (w.heap.size + 1) 9 i9 (.string ⟨#[]⟩) 1 16 Tryz.underlying24 hi hz0 hz1 hz2 rfl (by decide) (.slice (some ⟨w.heap.size + 1, 0, none⟩) 1 1) 1 [.string s] rfl (own_one _ _ _) adk nk cK (ks.map .string) rfl (by rw [List.length_map, Nat.mul_one]; exact HNK.out.symm) (fun j u hj => ?_) (fun u hu => by obtain ⟨_, _, rfl⟩ := List.mem_map.1 hu; rfl) hkp (by unfold maxLen; omega) (by omega) (by simp) _ rfl ?_)
      · rw [World.cell?_alloc_lt _ _ _ (by rw [block_of_add]; simp; omega), World.cell?_alloc_lt _ _ _ (by rw [block_of_add]; omega)]
        exact hck j u hj
      intro g cap W hown hg _ _
      have hbW : Below w.heap.size w W := (below2 w _ _).grown hg (by simp; omega) (fun q hq => by simp [Value.ownBlock] at hq; omega)
      have hblk : W.heap[w.heap.size]? = some (.cells #[.int .i64 k, .int .i64 h, .string s, .slice aL nl cL, .slice (some adk) nk cK, .slice aV nv cV] 26 (0, 0)) := by
        rw [hg.block w.heap.size (by simp; omega) (by simp [Value.ownBlock]), Lib.alloc_old _ _ _ (by simp)]
        exact heap_alloc_new w _
      have HB1 := Lib.hid hbW
      have Hr3 : Hid (W.cell? ⟨w.heap.size, 3, none⟩ = some (.slice aL nl cL)) := Lib.hid (by rw [cell_of_row _ _ 3 _ _ _ hblk]; rfl)
      have Hr5 : Hid (W.cell? ⟨w.heap.size, 5, none⟩ = some (.slice aV nv cV)) := Lib.hid (by rw [cell_of_row _ _ 5 _ _ _ hblk]; rfl)
      have hxl : w.heap.size < W.heap.size := (Array.getElem?_eq_some_iff.1 hblk).1
      obtain ⟨m, hm⟩ : ∃ m : Nat, m = 1 + nk := ⟨_, rfl⟩
      have hm1 : m ≤ 1001 := by omega
      have HSR : Hid (∀ i, i < m → ∃ ad st, (⟨g, 0, none⟩ : Addr) = ad ∧ W.cell? (ad.add i) = some (.string st) ∧ st.size ≤ 140737488351232) := Lib.hid (fun i hi => by
        have hc := hown.cellAt i (by omega)
        rw [show (⟨g, i, none⟩ : Addr) = (⟨g, 0, none⟩ : Addr).add i by unfold Addr.add; split <;> simp_all] at hc
        cases i with
        | zero => exact ⟨_, s, rfl, by rw [hc]; rfl, hts⟩
        | succ i =>
          have hl := HNK.out
          have hki : ks[i]? = some ks[i] := List.getElem?_eq_getElem (by omega)
          refine ⟨_, ks[i], rfl, ?_, HKEY.out.2 _ (List.getElem_mem _)⟩
          rw [hc]
          simp [hki])
      rw [← hm]
      obtain ⟨ad0, had0⟩ : ∃ ad0 : Addr, ad0 = ⟨g, 0, none⟩ := ⟨_, rfl⟩
      rw [← had0] at HSR ⊢
      clear hbW hblk hown hg had0 r2 r3 r4 r5 hb1 hxl1 hi hz0 hz1 hz2 HOB hkc hkl hm
      go_wp2_with fail
      go_loop [15] (fun iv => ∃ k : Nat, k ≤ m ∧ iv = .int .i64 k) (fun iv => m - (intOf iv).toNat)
      case atStart => exact ⟨0, Nat.zero_le _, rfl⟩
      case round =>
        obtain ⟨k, hk, rfl⟩ := hrel
        by_cases hkm : k < m
        · obtain ⟨ad, st, hA, hcs, hss⟩ := HSR.out k hkm
          obtain rfl : ad0 = ad := by simpa using hA
          clear hA
          go_wp2_with fail
          go_loop [5] (fun iv => ∃ q : Nat, q ≤ st.size ∧ iv = .int .i64 q) (fun iv => st.size - (intOf iv).toNat)
          case atStart => exact ⟨0, Nat.zero_le _, rfl⟩
          case round =>
            obtain ⟨q, hq, rfl⟩ := hrel
            by_cases hlt : q < st.size
            · obtain ⟨c, hc, hsq⟩ := byte_at hlt
              clear hc
              go_wp2_with fail
              all_goals first
                | exact HQ.out _ _ HB1.out true rfl
                | exact ⟨⟨q + 1, by omega, by simp⟩, by simp [intOf]; omega⟩
            · have hqs : (q : Int) = (st.size : Int) := by omega
              go_wp2_with fail
              exact ⟨⟨k + 1, by omega, by simp⟩, by simp [intOf]; omega⟩
        · have hkm2 : (k : Int) = (m : Int) := by omega
          have HSTART := Lib.hid (And.intro HB1.out (Below.refl W.heap.size W))
          go_wp2_with fail
          go_loopw [6] (fun iv wr => ∃ k : Nat, k ≤ nl ∧ iv = .int .i64 k ∧ Below w.heap.size w wr ∧ Below W.heap.size W wr) (fun iv _ => nl - (intOf iv).toNat)
          case atStart => exact ⟨0, Nat.zero_le _, rfl, HSTART.out.1, HSTART.out.2⟩
          case round =>
            obtain ⟨k, hk, rfl, hbw1, hbw2⟩ := hrel
            have r3 := (hbw2.cell (p := ⟨w.heap.size, 3, none⟩) hxl).trans Hr3.out
            have hxr : w.heap.size < wr.heap.size := Nat.lt_of_lt_of_le hxl hbw2.size
            have HBW := Lib.hid (And.intro hbw1 hbw2)
            by_cases hkn : k < nl
            · obtain ⟨y, hy⟩ : ∃ y, l[k]? = some y := ⟨_, List.getElem?_eq_getElem (by have := HNN.out; omega)⟩
              obtain ⟨ad, rfl, had, hc0⟩ := HRL.out (by rintro rfl; simp at hy)
              have hc : ∀ (j : Nat) (u : Value), y.cells[j]? = some u → wr.cell? (ad.add (k * 6 + j)) = some u := fun j u hu => (hbw1.cell (by rw [block_of_add]; omega)).trans (hc0 k y hy j u hu)
              have hmem := List.mem_of_getElem? hy
              have hyIn := (HAL.out.mem y hmem).below hbw1 hB
              have hrecc := ih y wr B (Nat.le_trans (deep_mem hmem) HDL.out) hyIn (by have := hbw1.size; omega) (by have := parts_mem hmem; have := HPL.out; omega) (HGL.out _ hmem)
              obtain ⟨yk, yh, yt, yaL, ycL, yl, yaK, ycK, yks, yaV, ycV, yvs⟩ := y
              obtain ⟨d0, d1, d2, d3, d4, d5⟩ := six hc
              rw [V.val_mk] at hrecc
              have HREC := Lib.hid hrecc
              clear hc hc0 hmem hy hyIn hrecc hbw1 hbw2
              go_wp2_with fail
              refine HREC.out.mono ?_
              rintro e w3 ⟨b, rfl, hb3⟩
              have HB3 := Lib.hid (And.intro (HBW.out.1.trans (hb3.mono HBW.out.1.size)) (HBW.out.2.trans (hb3.mono HBW.out.2.size)))
              clear hb3
              cases b with
              | true =>
                go_wp2_with fail
                exact HQ.out _ _ HB3.out.1 true rfl
              | false =>
                go_wp2_with fail
                go_roundw
                case rel => exact ⟨k + 1, by omega, by go_num, HB3.out.1, HB3.out.2⟩
                case measure => simp [intOf]; omega
            · obtain rfl : k = nl := by omega
              clear hbw1 hbw2
              go_wp2_with fail
              have HSTART2 := HBW
              go_loopw [7] (fun iv wr => ∃ k : Nat, k ≤ nv ∧ iv = .int .i64 k ∧ Below w.heap.size w wr ∧ Below W.heap.size W wr) (fun iv _ => nv - (intOf iv).toNat)
              case atStart => exact ⟨0, Nat.zero_le _, rfl, HSTART2.out.1, HSTART2.out.2⟩
              case round =>
                obtain ⟨k2, hk2, rfl, hbw1, hbw2⟩ := hrel
                have r5 := (hbw2.cell (p := ⟨w.heap.size, 5, none⟩) hxl).trans Hr5.out
                have hxr : w.heap.size < wr.heap.size := Nat.lt_of_lt_of_le hxl hbw2.size
                have HBW := Lib.hid (And.intro hbw1 hbw2)
                by_cases hkn : k2 < nv
                · obtain ⟨y, hy⟩ : ∃ y, vs[k2]? = some y := ⟨_, List.getElem?_eq_getElem (by have := HNN.out; omega)⟩
                  obtain ⟨ad, rfl, had, hc0⟩ := HRV.out (by rintro rfl; simp at hy)
                  have hc : ∀ (j : Nat) (u : Value), y.cells[j]? = some u → wr.cell? (ad.add (k2 * 6 + j)) = some u := fun j u hu => (hbw1.cell (by rw [block_of_add]; omega)).trans (hc0 k2 y hy j u hu)
                  have hmem := List.mem_of_getElem? hy
                  have hyIn := (HAV.out.mem y hmem).below hbw1 hB
                  have hrecc := ih y wr B (Nat.le_trans (deep_mem hmem) HDV.out) hyIn (by have := hbw1.size; omega) (by have := parts_mem hmem; have := HPV.out; omega) (HGV.out _ hmem)
                  obtain ⟨yk, yh, yt, yaL, ycL, yl, yaK, ycK, yks, yaV, ycV, yvs⟩ := y
                  obtain ⟨d0, d1, d2, d3, d4, d5⟩ := six hc
                  rw [V.val_mk] at hrecc
                  have HREC := Lib.hid hrecc
                  clear hc hc0 hmem hy hyIn hrecc hbw1 hbw2
                  go_wp2_with fail
                  refine HREC.out.mono ?_
                  rintro e w3 ⟨b, rfl, hb3⟩
                  have HB3 := Lib.hid (And.intro (HBW.out.1.trans (hb3.mono HBW.out.1.size)) (HBW.out.2.trans (hb3.mono HBW.out.2.size)))
                  clear hb3
                  cases b with
                  | true =>
                    go_wp2_with fail
                    exact HQ.out _ _ HB3.out.1 true rfl
                  | false =>
                    go_wp2_with fail
                    go_roundw
                    case rel => first | exact ⟨k2 + 1, by omega, by go_num, HB3.out.1, HB3.out.2⟩ | exact ⟨_, _, _, _, _, _, _, _, _, _, _, _, _, _, _, ⟨k2 + 1, by omega, by go_num, HB3.out.1, HB3.out.2⟩, rfl⟩
                    case measure => simp [intOf]; omega
                · obtain rfl : k2 = nv := by omega
                  clear hbw1 hbw2
                  go_wp2_with fail
                  exact HQ.out _ _ HBW.out.1 false rfl

end Go.Proofs.YtpigccnlembfdaaGreatDoor
