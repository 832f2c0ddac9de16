/- The walk of a decimal's text: the decimal of a half, with one digit behind the point. Conditions: as the theorem states. -/
import Derived.Test.YtpigccnlembfdaaGreatDoorDecShort
namespace Go.Proofs.YtpigccnlembfdaaGreatDoor
open Go.RowKit

theorem news_one {w : World} {v u : Value} {t : TypeId} {j : Nat} (hj : [v][j]? = some u) : (w.alloc (.cells #[v] t)).cell? ((⟨w.heap.size, 0, none⟩ : Addr).add j) = some u := by
  obtain rfl : j = 0 := by rcases j with _ | j; rfl; simp at hj
  obtain rfl : v = u := by simpa using hj
  exact cell_of_row _ w.heap.size 0 _ _ _ (heap_alloc_new w _)
/-- A slice of one's own that holds these bytes. -/
def Built (w wr : World) (v : Value) (bs : List UInt8) : Prop := Below w.heap.size w wr ∧ wr.ownsRow w.heap.size 5 1 v bs.length (encBy bs)
theorem Built.step {w wr w5 : World} {v : Value} {bs : List UInt8} {o : Obj} {g cap k : Nat} {x : Int} (h : Built w wr v bs) (b : UInt8) (hx : x = (b.toNat : Int))
    (hown : w5.ownsRow w.heap.size 5 1 (.slice (some ⟨g, 0, none⟩) (k + 1) cap) (k + 1) (encBy bs ++ [Value.int .u8 x])) (hg : (wr.alloc o).grownBy w5 v.ownBlock) (hk : k = bs.length := by simp) :
    Built w w5 (.slice (some ⟨g, 0, none⟩) (k + 1) cap) (bs ++ [b]) := by
  subst hx hk
  refine ⟨(h.1.alloc h.1.size o).grown hg (by have := h.1.size; simp; omega) (fun q hq => (h.2.lt q hq).1), ?_⟩
  have e : encBy (bs ++ [b]) = encBy bs ++ [Value.int .u8 b.toNat] := by simp [encBy]
  rw [e, List.length_append, List.length_singleton]
  exact hown
theorem Built.conv {w wr : World} {g k c : Nat} {bs : List UInt8} (h : Built w wr (.slice (some ⟨g, 0, none⟩) k c) bs) (hk : k = bs.length := by simp) : (convert 72 9 (.slice (some ⟨g, 0, none⟩) k c)).run Tryz.prog wr = .ok (.string (strL bs)) wr := by
  subst hk
  refine run_convert_bytes_back wr _ _ _ _ c bs Tryz.underlying72 Tryz.underlying5 Tryz.underlying9 fun j hj => ?_
  exact h.2.cells rfl j _ (by simp [encBy, List.getElem?_eq_getElem hj])
/-- The digits of a whole number, 0 for none. -/
def wholeD (N : Nat) : List UInt8 := if digN N = [] then [48] else (digN N).map dByte
set_option maxRecDepth 100000 in
set_option maxHeartbeats 4000000 in
theorem decText_any (w : World) (p N : Nat) (v : Value) (h : DecAt w p (digN N ++ [5]) (digN N).length v) (hN : N < 9007199254740992) :
    Calls Tryz.prog 121 #[.pointer (some ⟨p, 0, none⟩), .int .i64 1] w (TextIs (wholeD N ++ [46, 53]) w) := by
  have HA := Lib.hid h
  have hn16 := digN_len hN
  obtain ⟨n, hn⟩ : ∃ n, n = (digN N).length := ⟨_, rfl⟩
  rw [← hn] at HA hn16
  have HM := Lib.hid (show n + 1 = (digN N ++ [5]).length by rw [hn]; simp)
  have HNN := Lib.hid hn
  have HE := Lib.hid (show at0 (digN N ++ [5]) n = 5 by rw [hn]; exact at0_app_r (D := digN N) (X := [5]) 0)
  obtain ⟨i5, hi, he⟩ := Option.map_eq_some_iff.1 info_u8
  have hz0 : i5.zero = some (.int .u8 0) := congrArg (·.1) he
  have hz1 : i5.size = 1 := congrArg (·.2.1) he
  have hz2 : i5.bytes = 1 := congrArg (·.2.2) he
  have HI := Lib.hid (And.intro hi (And.intro hz0 (And.intro hz1 hz2)))
  clear h hn hi he hz0 hz1 hz2
  go_enter Tryz.func121, Tryz.ntmps121
  go_wp2_with fail
  go_loopw [5, 6] (fun vv iv wr => ∃ (k : Nat) (A : Option Addr) (c : Nat), k ≤ n ∧ iv = .int .i64 k ∧ vv = .slice A k c ∧ Hid (Built w wr (.slice A k c) (((digN N).take k).map dByte))) (fun _ iv _ => n - (intOf iv).toNat)
  case atStart => exact ⟨0, none, 0, Nat.zero_le _, rfl, rfl, Lib.hid ⟨Below.refl _ _, World.ownsRow_nil _ _ _ _⟩⟩
  case round =>
    obtain ⟨k, A, c, hk, rfl, rfl, HB⟩ := hrel
    have hbw := HB.out.1
    have ha := HA.out.below hbw
    have c1 := ha.box.cell1
    have HAR := Lib.hid ha
    obtain ⟨hi, hz0, hz1, hz2⟩ := HI.out
    by_cases hlt : k < n
    · obtain ⟨d, hd⟩ : ∃ d, (digN N)[k]? = some d := ⟨_, List.getElem?_eq_getElem (by have := HNN.out; omega)⟩
      have hd10 := digN_ten N d (List.mem_of_getElem? hd)
      have HDG := Lib.hid (digit_any wr p _ _ _ ha k (by rw [← HM.out]; omega))
      rw [show at0 (digN N ++ [5]) k = d by rw [at0_app_l (by have := HNN.out; omega)]; exact at0_of hd] at HDG
      obtain ⟨bt, hbt⟩ : ∃ bt, bt = 48 + d := ⟨_, rfl⟩
      have hcd : 48 + (d : Int) = (bt : Int) := by omega
      have hbt57 : bt ≤ 57 := by omega
      have hlen : (((digN N).take k).map dByte).length = k := by rw [List.length_map, List.length_take]; have := HNN.out; omega
      have hown := HB.out.2
      rw [hlen] at hown
      have HD := Lib.hid (And.intro hd (And.intro hbt hlen))
      obtain ⟨bs, hbs⟩ : ∃ bs, bs = ((digN N).take k).map dByte := ⟨_, rfl⟩
      rw [← hbs] at hown
      have HBS := Lib.hid hbs
      have hszw := hbw.size
      clear hd hbt hlen ha hbw hbs
      go_wp2_with (first | (go_at_call 160; ((with_reducible refine HDG.out.mono ?_); rintro e w3 ⟨rfl, rfl⟩)) | (at_builtin; refine wpList_append_lies _ rfl _ _ 72 rfl w.heap.size 5 i5 (.int .u8 0) 1 1 Tryz.underlying72 hi hz0 hz1 hz2 rfl (by decide) (.slice A k c) k (encBy bs) rfl (hown.alloc _) ⟨wr.heap.size, 0, none⟩ 1 1 [.int .u8 bt] rfl rfl (fun j u hj => news_one hj) (by simp [Value.oneCell']) (by decide) (by unfold maxLen; omega) (by omega) (by simp; omega) (wr.heap.size + 1) (by simp) ?_))
      intro g cap w5 hown5 hg5 _ hlt5
      rw [HBS.out] at hown5
      have hS := Built.step HB.out (dByte d) (show (bt : Int) = ((dByte d).toNat : Int) by rw [dByte_nat hd10, HD.out.2.1]) hown5 hg5 (HD.out.2.2.symm)
      rw [show ((digN N).take k).map dByte ++ [dByte d] = ((digN N).take (k + 1)).map dByte by rw [take_snocD _ k d HD.out.1]; simp] at hS
      have HS := Lib.hid hS
      clear hS hown5 hg5 hlt5
      go_wp2_with fail
      go_roundw
      case rel => exact ⟨k + 1, _, _, by omega, by go_num, rfl, HS⟩
      case measure => simp [intOf]; omega
    · have hkn : k = n := by omega
      have HBn := HB
      rw [hkn, HNN.out, List.take_length, ← HNN.out] at HBn
      subst hkn
      clear ha HB hlt hbw
      by_cases h0 : k = 0
      · have hnil : digN N = [] := List.length_eq_zero_iff.1 (by have := HNN.out; omega)
        have hwd : wholeD N = [48] := by unfold wholeD; rw [if_pos hnil]
        have HWD := Lib.hid hwd
        clear hwd
        rw [hnil] at HBn
        have HBn2 : Hid (Built w wr (.slice A k c) []) := HBn
        clear HBn
        subst h0
        go_wp2_with (at_builtin; refine wpList_append_lies _ rfl _ _ 72 rfl w.heap.size 5 i5 (.int .u8 0) 1 1 Tryz.underlying72 hi hz0 hz1 hz2 rfl (by decide) (.slice A 0 c) 0 (encBy []) rfl (HBn2.out.2.alloc _) ⟨wr.heap.size, 0, none⟩ 1 1 [.int .u8 48] rfl rfl (fun j u hj => news_one hj) (by simp [Value.oneCell']) (by decide) (by unfold maxLen; omega) (by omega) (by have := HBn2.out.1.size; simp; omega) (wr.heap.size + 1) (by simp) ?_)
        intro g1 cap1 w1 hown1 hg1 _ hlt1
        have HBz := Lib.hid (Built.step HBn2.out 48 rfl hown1 hg1)
        clear hown1 hg1 hlt1
        go_wp2_with (at_builtin; refine wpList_append_lies _ rfl _ _ 72 rfl w.heap.size 5 i5 (.int .u8 0) 1 1 Tryz.underlying72 hi hz0 hz1 hz2 rfl (by decide) (.slice (some ⟨g1, 0, none⟩) (0 + 1) cap1) (0 + 1) (encBy ([] ++ [48])) rfl (HBz.out.2.alloc _) ⟨w1.heap.size, 0, none⟩ 1 1 [.int .u8 46] rfl rfl (fun j u hj => news_one hj) (by simp [Value.oneCell']) (by decide) (by unfold maxLen; omega) (by omega) (by have := HBz.out.1.size; simp; omega) (w1.heap.size + 1) (by simp) ?_)
        intro g2 cap2 w2 hown2 hg2 _ hlt2
        have HBy := Lib.hid (Built.step HBz.out 46 rfl hown2 hg2 )
        have hsz2 := HBy.out.1.size
        have hownY := HBy.out.2
        skip
        have a2 := HA.out.below (HBy.out.1)
        have c1 := a2.box.cell1
        have HDG := Lib.hid (digit_any w2 p _ _ _ a2 0 (by rw [← HM.out]; omega))
        clear hown2 hg2 hlt2 a2
        go_wp2_with fail
        refine wp_loop_rounds 2 ?_
        rw [rounds_succ]
        rw [HE.out] at HDG
        simp only [Int.natCast_zero] at HDG
        go_wp2_with (first | (go_at_call 160; ((with_reducible refine HDG.out.mono ?_); rintro e w3 ⟨rfl, rfl⟩)) | (at_builtin; refine wpList_append_lies _ rfl _ _ 72 rfl w.heap.size 5 i5 (.int .u8 0) 1 1 Tryz.underlying72 hi hz0 hz1 hz2 rfl (by decide) (.slice (some ⟨g2, 0, none⟩) ((0 + 1) + 1) cap2) ((0 + 1) + 1) (encBy (([] ++ [48]) ++ [46])) rfl (hownY.alloc _) ⟨w2.heap.size, 0, none⟩ 1 1 [.int .u8 53] rfl rfl (fun j u hj => news_one hj) (by simp [Value.oneCell']) (by decide) (by unfold maxLen; omega) (by omega) (by have := HBy.out.1.size; simp; omega) (w2.heap.size + 1) (by simp) ?_))
        intro g3 cap3 w3 hown3 hg3 _ hlt3
        have HBx := Lib.hid (Built.step HBy.out 53 rfl hown3 hg3 )
        have HCV := Lib.hid (HBx.out.conv )
        clear hown3 hg3 hlt3
        go_wp2_with fail
        rw [rounds_succ]
        have hcv := HCV.out
        simp only [Nat.reduceAdd] at hcv
        go_wp2_with fail
        go_ret
        refine ⟨?_, HBx.out.1⟩
        rw [HWD.out]
        rfl
      · have hne : digN N ≠ [] := by intro e; have := HNN.out; rw [e] at this; simp at this; omega
        have hwd : wholeD N = (digN N).map dByte := by unfold wholeD; rw [if_neg hne]
        have hk0 : ((k : Int) == 0) = false := by rw [beq_eq_false_iff_ne]; omega
        have hlen : ((digN N).map dByte).length = k := by rw [List.length_map, HNN.out]
        obtain ⟨bs, hbs⟩ : ∃ bs, bs = (digN N).map dByte := ⟨_, rfl⟩
        rw [← hbs] at HBn hlen hwd
        have HWD := Lib.hid hwd
        have hown := HBn.out.2
        rw [hlen] at hown
        obtain ⟨g0, cap0, hv0, _, _⟩ := hown.form (by omega)
        injection hv0 with hA _ hc0
        subst hA hc0
        clear hbs hwd
        have HBz := HBn
        go_wp2_with (at_builtin; refine wpList_append_lies _ rfl _ _ 72 rfl w.heap.size 5 i5 (.int .u8 0) 1 1 Tryz.underlying72 hi hz0 hz1 hz2 rfl (by decide) (.slice (some ⟨g0, 0, none⟩) k c) k (encBy bs) rfl (hown.alloc _) ⟨wr.heap.size, 0, none⟩ 1 1 [.int .u8 46] rfl rfl (fun j u hj => news_one hj) (by simp [Value.oneCell']) (by decide) (by unfold maxLen; omega) (by omega) (by have := HBz.out.1.size; simp; omega) (wr.heap.size + 1) (by simp) ?_)
        intro g2 cap2 w2 hown2 hg2 _ hlt2
        have HBy := Lib.hid (Built.step HBz.out 46 rfl hown2 hg2 hlen.symm)
        have hsz2 := HBy.out.1.size
        have hownY := HBy.out.2
        rw [List.length_append, List.length_singleton, hlen] at hownY
        have a2 := HA.out.below (HBy.out.1)
        have c1 := a2.box.cell1
        have HDG := Lib.hid (digit_any w2 p _ _ _ a2 k (by rw [← HM.out]; omega))
        clear hown2 hg2 hlt2 a2
        go_wp2_with fail
        refine wp_loop_rounds 2 ?_
        rw [rounds_succ]
        rw [HE.out] at HDG
        skip
        go_wp2_with (first | (go_at_call 160; ((with_reducible refine HDG.out.mono ?_); rintro e w3 ⟨rfl, rfl⟩)) | (at_builtin; refine wpList_append_lies _ rfl _ _ 72 rfl w.heap.size 5 i5 (.int .u8 0) 1 1 Tryz.underlying72 hi hz0 hz1 hz2 rfl (by decide) (.slice (some ⟨g2, 0, none⟩) (k + 1) cap2) (k + 1) (encBy (bs ++ [46])) rfl (hownY.alloc _) ⟨w2.heap.size, 0, none⟩ 1 1 [.int .u8 53] rfl rfl (fun j u hj => news_one hj) (by simp [Value.oneCell']) (by decide) (by unfold maxLen; omega) (by omega) (by have := HBy.out.1.size; simp; omega) (w2.heap.size + 1) (by simp) ?_))
        intro g3 cap3 w3 hown3 hg3 _ hlt3
        have HBx := Lib.hid (Built.step HBy.out 53 rfl hown3 hg3 (by simp [hlen]))
        have HCV := Lib.hid (HBx.out.conv (by simp [hlen]))
        clear hown3 hg3 hlt3
        go_wp2_with fail
        rw [rounds_succ]
        have hcv := HCV.out
        simp only [Nat.add_assoc, Nat.reduceAdd] at hcv
        go_wp2_with fail
        go_ret
        refine ⟨?_, HBx.out.1⟩
        rw [HWD.out]
        rw [show bs ++ [46, 53] = bs ++ [46] ++ [53] by simp]; rfl
end Go.Proofs.YtpigccnlembfdaaGreatDoor
