/- The walk of FormatFloat at a half. Conditions: as the theorem states. -/
import Derived.Test.YtpigccnlembfdaaGreatDoorDecText
import Derived.Test.YtpigccnlembfdaaGreatDoorFloat
import Derived.Laws.Bits64b
import Derived.Laws.BitsLemmas
import Derived.Laws.Externs
import Derived.Handy
namespace Go.Proofs.YtpigccnlembfdaaGreatDoor
open Go.RowKit

set_option maxRecDepth 100000 in
set_option maxHeartbeats 4000000 in
theorem formOf_any (w : World) : Calls Tryz.prog 114 #[.int .i64 64] w (fun e w' => e = .returned (.agg #[.int .i64 52, .int .i64 11, .int .i64 (-1023)]) ∧ Below w.heap.size w w') := by
  go_enter Tryz.func114, Tryz.ntmps114
  go_wp2_with fail
  go_returns
  exact ⟨rfl, (Below.refl _ _).alloc (Nat.le_refl _) _⟩
theorem run_fbits (b : Nat) (w : World) : (callFunc 99 #[.float .f64 b]).run Tryz.prog w = .ok (.value (.int .u64 b)) w := by
  rw [run_callFunc_extern Tryz.func99 rfl rfl rfl rfl]
  rfl
theorem run_fromBits (b : Nat) (w : World) : (callFunc 98 #[.int .u64 b]).run Tryz.prog w = .ok (.value (.float .f64 b)) w := by
  rw [run_callFunc_extern Tryz.func98 rfl rfl rfl rfl]
  rfl
/-- The bits of a double: sign, place, significand. -/
structure Word64 (b s E mant : Nat) : Prop where
  eq : b = s * 9223372036854775808 + ((E - 1) * 4503599627370496 + mant)
  s1 : s ≤ 1
  e1 : 1 ≤ E
  e2 : E ≤ 2046
  m1 : 4503599627370496 ≤ mant
  m2 : mant < 9007199254740992
theorem Word64.lt {b s E mant : Nat} (h : Word64 b s E mant) : b < 18446744073709551616 := by
  obtain ⟨rfl, h1, h2, h3, h4, h5⟩ := h; omega
theorem Word64.sign {b s E mant : Nat} (h : Word64 b s E mant) : (b : Int) / 9223372036854775808 = s := by
  obtain ⟨rfl, h1, h2, h3, h4, h5⟩ := h; omega
theorem Word64.place {b s E mant : Nat} (h : Word64 b s E mant) : bits .and .i64 ((b : Int) / 4503599627370496) 2047 = (E : Int) := by
  have e : ((b : Int) / 4503599627370496) = (s * 2048 + E : Nat) := by
    obtain ⟨rfl, h1, h2, h3, h4, h5⟩ := h; omega
  have h1 := h.s1
  have h2 := h.e2
  have hm := bits_mask .i64 62 (by decide) (fun n h0 h1 => IntWalk.i64_in n (by omega)) 11 (by decide) ((s * 2048 + E : Nat) : Int) (by omega) (by omega)
  rw [e]
  rw [show (2 : Int) ^ 11 - 1 = 2047 by decide, show (2 : Int) ^ 11 = 2048 by decide] at hm
  rw [hm]; omega
theorem Word64.frac {b s E mant : Nat} (h : Word64 b s E mant) : bits .and .u64 (b : Int) 4503599627370495 = ((mant - 4503599627370496 : Nat) : Int) := by
  have h1 := bits_and_u64_nat b 4503599627370495 h.lt (by decide)
  have h2 : b &&& 4503599627370495 = b % 2 ^ 52 := Nat.and_two_pow_sub_one_eq_mod b 52
  rw [show ((4503599627370495 : Nat) : Int) = 4503599627370495 by rfl] at h1
  rw [h1, h2]
  obtain ⟨rfl, h1, h2, h3, h4, h5⟩ := h
  omega
theorem Word64.join {b s E mant : Nat} (h : Word64 b s E mant) : bits .or .u64 ((mant - 4503599627370496 : Nat) : Int) 4503599627370496 = (mant : Int) := by
  have h4 := h.m1
  have h5 := h.m2
  have h1 := bits_or_u64_nat (mant - 4503599627370496) 4503599627370496 (by omega) (by decide)
  have h2 := Nat.two_pow_add_eq_or_of_lt (i := 52) (b := mant - 4503599627370496) (by omega) 1
  rw [show ((4503599627370496 : Nat) : Int) = 4503599627370496 by rfl, Nat.or_comm, show (4503599627370496 : Nat) = 2 ^ 52 * 1 by decide, ← h2] at h1
  rw [show (4503599627370496 : Nat) = 2 ^ 52 * 1 by decide, h1]
  omega
theorem strL_append (a b : List UInt8) : strL a ++ strL b = strL (a ++ b) := by
  apply ByteArray.ext
  simp [strL, ByteArray.data_append]
theorem whole_len {N : Nat} (h : N < 9007199254740992) : (wholeD N).length ≤ 16 := by
  unfold wholeD
  split
  · decide
  · rw [List.length_map]; exact digN_len h
theorem dm_half {N k mant : Nat} {L : List Nat} {dp : Int} (hk : 1 ≤ k) (hm : mant = (2 * N + 1) * 2 ^ (k - 1)) (h : Dm L dp mant (1 * 2 ^ k)) : L = digN N ++ [5] ∧ dp = (digN N).length := by
  obtain ⟨j, rfl⟩ : ∃ j, k = j + 1 := ⟨k - 1, by omega⟩
  have e : 1 * 2 ^ (j + 1) = 2 * 2 ^ j := by rw [Nat.pow_succ]; omega
  rw [Nat.add_sub_cancel] at hm
  refine Dm.half ⟨h.ten, h.headed, h.lasted, h.ne, DecV.times (2 ^ j) (Nat.pow_pos (by decide)) ?_⟩
  rw [← hm, ← e]
  exact h.dec
set_option maxRecDepth 100000 in
set_option maxHeartbeats 8000000 in
theorem formatFloat_any (w : World) (b N k mant s : Nat) (hN : N < 9007199254740992) (hk1 : 1 ≤ k) (hk : k ≤ 53) (hm : mant = (2 * N + 1) * 2 ^ (k - 1)) (hW : Word64 b s (1075 - k) mant) :
    Calls Tryz.prog 100 #[.float .f64 b, .int .u8 102, .int .i64 (-1), .int .i64 64] w (TextIs ((if s = 0 then [] else [45]) ++ (wholeD N ++ [46, 53])) w) := by
  obtain ⟨S, hS⟩ : ∃ S, S = (if s = 0 then [] else [45]) ++ (wholeD N ++ [46, 53]) := ⟨_, rfl⟩
  rw [← hS]
  have HS := Lib.hid hS
  have hs0 := hW.sign
  have hE0 := hW.place
  have hF := hW.frac
  have hO := hW.join
  have hm1 := hW.m1
  have hm2 := hW.m2
  have hs1 := hW.s1
  obtain ⟨E, hE⟩ : ∃ E, E = 1075 - k := ⟨_, rfl⟩
  rw [← hE] at hE0
  have hE1 : ((E : Int) == 2047) = false := by rw [beq_eq_false_iff_ne]; omega
  have hE2 : ((E : Int) == 0) = false := by rw [beq_eq_false_iff_ne]; omega
  obtain ⟨F, hFF⟩ : ∃ F, F = mant - 4503599627370496 := ⟨_, rfl⟩
  rw [← hFF] at hF hO
  obtain ⟨x, hx⟩ : ∃ x : Int, x = 52 - (k : Int) := ⟨_, rfl⟩
  have hEx : (E : Int) + -1023 = x := by omega
  have hE3 : E ≤ 2046 := by omega
  have hx0 : -1 ≤ x := by omega
  have hx1 : x ≤ 51 := by omega
  have HX := Lib.hid (show x - 52 = -(k : Int) by omega)
  have HK := Lib.hid (And.intro hk1 (And.intro hk (And.intro hm (And.intro hm1 (And.intro hm2 hx)))))
  have HND := Lib.hid (fun w' => newDecimal_any w' mant (by omega) (by omega))
  have hfb := fun w' => run_fbits b w'
  clear hS hW hE hFF hm hk1 hk hx
  go_enter Tryz.func100, Tryz.ntmps100
  rcases (show s = 0 ∨ s = 1 by omega) with rfl | rfl
  · simp only [Int.natCast_zero] at hs0
    go_wp2_with fail
    refine (formOf_any _).mono ?_
    rintro e w2 ⟨rfl, hb2⟩
    clear hfb
    go_wp2_with fail
    go_quiet (fail)
    go_wp2_with fail
    have hB4 := hb2.alloc hb2.size (.cells #[.int .i64 52, .int .i64 11, .int .i64 (-1023)] 177)
    have hI4 : ((w2.alloc (.cells #[.int .i64 52, .int .i64 11, .int .i64 (-1023)] 177)).drewN nq).heap[w2.heap.size]? = some (.cells #[.int .i64 52, .int .i64 11, .int .i64 (-1023)] 177 (0, 0)) := heap_alloc_new w2 _
    have B4 := Lib.hid (hB4.trans ((below_drewN _ nq).mono hB4.size))
    have I4 := Lib.hid hI4
    clear hB4 hI4 hb2
    generalize (w2.alloc (.cells #[.int .i64 52, .int .i64 11, .int .i64 (-1023)] 177)).drewN nq = w4 at *
    refine (HND.out _).mono ?_
    rintro e w5 ⟨p, L0, dp0, v0, rfl, hm⟩
    have HSH := Lib.hid (shift_any w5 p L0 dp0 v0 mant 1 k hm.2.2.1 hm.2.2.2.1 hm.2.2.2.2.1 hm.2.2.2.2.2.1 hm.2.2.2.2.2.2.1 (by have := HK.out.2.1; omega) HK.out.1 (by omega))
    have I5 := Lib.hid ((hm.1.block _ (Array.getElem?_eq_some_iff.1 I4.out).1).trans I4.out)
    have HM := Lib.hid hm
    have i0 := cell_of_row w5 w2.heap.size 0 _ _ _ I5.out
    simp only [List.getElem?_toArray, List.getElem?_cons_zero] at i0
    have il : w2.heap.size < w5.heap.size := (Array.getElem?_eq_some_iff.1 I5.out).1
    clear hm
    go_wp2_with fail
    rw [HX.out]
    refine HSH.out.mono ?_
    rintro e w6 ⟨rfl, hg, L, dp, v, hd, hdm, hl, h2, h3, _⟩
    have hB6 := HM.out.1.grown hg HM.out.1.size (fun b hb => by injection hb; have := HM.out.2.1; omega)
    obtain ⟨rfl, rfl⟩ := dm_half HK.out.1 HK.out.2.2.1 hdm
    have I6 := Lib.hid ((hB6.block _ (Array.getElem?_eq_some_iff.1 I4.out).1).trans I4.out)
    have B6 := Lib.hid (B4.out.trans (hB6.mono B4.out.size))
    have HST := Lib.hid (short_any w6 p N k mant v hd hN HK.out.1 HK.out.2.1 HK.out.2.2.1 HK.out.2.2.2.1 HK.out.2.2.2.2.1 x HK.out.2.2.2.2.2)
    have HD6 := Lib.hid hd
    clear i0 il hg hd hdm hl h2 h3 hB6
    have i0 := cell_of_row w6 w2.heap.size 0 _ _ _ I6.out
    have i1 := cell_of_row w6 w2.heap.size 1 _ _ _ I6.out
    have i2 := cell_of_row w6 w2.heap.size 2 _ _ _ I6.out
    simp only [List.getElem?_toArray, List.getElem?_cons_zero, List.getElem?_cons_succ] at i0 i1 i2
    have il : w2.heap.size < w6.heap.size := (Array.getElem?_eq_some_iff.1 I6.out).1
    go_wp2_with fail
    refine HST.out.mono ?_
    rintro e w7 ⟨rfl, hB7⟩
    have hd7 := HD6.out.below hB7
    obtain ⟨A, c, hv⟩ := hd7.dig.shape
    subst hv
    have hlen : (digN N ++ [5]).length = (digN N).length + 1 := by simp
    have c0 := hd7.box.cell0
    have c1 := hd7.box.cell1
    rw [hlen] at c0
    have HD7 := Lib.hid hd7
    have B7 := Lib.hid (B6.out.trans (hB7.mono B6.out.size))
    have hn16 := digN_len hN
    obtain ⟨n, hn⟩ : ∃ n, n = (digN N).length := ⟨_, rfl⟩
    rw [← hn] at c0 c1 hn16
    have hn1 : ((n + 1 : Nat) : Int) - (n : Int) = 1 := by omega
    clear i0 i1 i2 il hlen hB7 hd7 hn
    go_wp2_with fail
    go_quiet (fail)
    go_wp2_with fail
    rw [show (n : Int) + 1 - (n : Int) = 1 by omega]
    have hT9 := decText_any (w7.drewN nq) p N _ (HD7.out.below (below_drewN _ nq)) hN
    have B8 := Lib.hid (B7.out.trans ((below_drewN w7 nq).mono B7.out.size))
    refine hT9.mono ?_
    rintro e w9 ⟨rfl, hb9⟩
    have B9 := Lib.hid (B8.out.trans (hb9.mono B8.out.size))
    have hTl : (strL (wholeD N ++ [46, 53])).size ≤ 100 := by
      rw [strL_size, List.length_append]
      have := whole_len hN
      simp
      omega
    obtain ⟨T, hT⟩ : ∃ T, T = strL (wholeD N ++ [46, 53]) := ⟨_, rfl⟩
    rw [← hT] at hTl ⊢
    have HT := Lib.hid hT
    clear hT hT9 hb9
    go_wp2_with fail
    go_ret
    refine ⟨?_, B9.out⟩
    rw [HS.out, HT.out]
    exact congrArg (fun x => Ending.returned (.string x)) (strL_append [] (wholeD N ++ [46, 53]))
  · simp only [Int.natCast_one] at hs0
    go_wp2_with fail
    refine (formOf_any _).mono ?_
    rintro e w2 ⟨rfl, hb2⟩
    clear hfb
    go_wp2_with fail
    go_quiet (fail)
    go_wp2_with fail
    have hB4 := hb2.alloc hb2.size (.cells #[.int .i64 52, .int .i64 11, .int .i64 (-1023)] 177)
    have hI4 : ((w2.alloc (.cells #[.int .i64 52, .int .i64 11, .int .i64 (-1023)] 177)).drewN nq).heap[w2.heap.size]? = some (.cells #[.int .i64 52, .int .i64 11, .int .i64 (-1023)] 177 (0, 0)) := heap_alloc_new w2 _
    have B4 := Lib.hid (hB4.trans ((below_drewN _ nq).mono hB4.size))
    have I4 := Lib.hid hI4
    clear hB4 hI4 hb2
    generalize (w2.alloc (.cells #[.int .i64 52, .int .i64 11, .int .i64 (-1023)] 177)).drewN nq = w4 at *
    refine (HND.out _).mono ?_
    rintro e w5 ⟨p, L0, dp0, v0, rfl, hm⟩
    have HSH := Lib.hid (shift_any w5 p L0 dp0 v0 mant 1 k hm.2.2.1 hm.2.2.2.1 hm.2.2.2.2.1 hm.2.2.2.2.2.1 hm.2.2.2.2.2.2.1 (by have := HK.out.2.1; omega) HK.out.1 (by omega))
    have I5 := Lib.hid ((hm.1.block _ (Array.getElem?_eq_some_iff.1 I4.out).1).trans I4.out)
    have HM := Lib.hid hm
    have i0 := cell_of_row w5 w2.heap.size 0 _ _ _ I5.out
    simp only [List.getElem?_toArray, List.getElem?_cons_zero] at i0
    have il : w2.heap.size < w5.heap.size := (Array.getElem?_eq_some_iff.1 I5.out).1
    clear hm
    go_wp2_with fail
    rw [HX.out]
    refine HSH.out.mono ?_
    rintro e w6 ⟨rfl, hg, L, dp, v, hd, hdm, hl, h2, h3, _⟩
    have hB6 := HM.out.1.grown hg HM.out.1.size (fun b hb => by injection hb; have := HM.out.2.1; omega)
    obtain ⟨rfl, rfl⟩ := dm_half HK.out.1 HK.out.2.2.1 hdm
    have I6 := Lib.hid ((hB6.block _ (Array.getElem?_eq_some_iff.1 I4.out).1).trans I4.out)
    have B6 := Lib.hid (B4.out.trans (hB6.mono B4.out.size))
    have HST := Lib.hid (short_any w6 p N k mant v hd hN HK.out.1 HK.out.2.1 HK.out.2.2.1 HK.out.2.2.2.1 HK.out.2.2.2.2.1 x HK.out.2.2.2.2.2)
    have HD6 := Lib.hid hd
    clear i0 il hg hd hdm hl h2 h3 hB6
    have i0 := cell_of_row w6 w2.heap.size 0 _ _ _ I6.out
    have i1 := cell_of_row w6 w2.heap.size 1 _ _ _ I6.out
    have i2 := cell_of_row w6 w2.heap.size 2 _ _ _ I6.out
    simp only [List.getElem?_toArray, List.getElem?_cons_zero, List.getElem?_cons_succ] at i0 i1 i2
    have il : w2.heap.size < w6.heap.size := (Array.getElem?_eq_some_iff.1 I6.out).1
    go_wp2_with fail
    refine HST.out.mono ?_
    rintro e w7 ⟨rfl, hB7⟩
    have hd7 := HD6.out.below hB7
    obtain ⟨A, c, hv⟩ := hd7.dig.shape
    subst hv
    have hlen : (digN N ++ [5]).length = (digN N).length + 1 := by simp
    have c0 := hd7.box.cell0
    have c1 := hd7.box.cell1
    rw [hlen] at c0
    have HD7 := Lib.hid hd7
    have B7 := Lib.hid (B6.out.trans (hB7.mono B6.out.size))
    have hn16 := digN_len hN
    obtain ⟨n, hn⟩ : ∃ n, n = (digN N).length := ⟨_, rfl⟩
    rw [← hn] at c0 c1 hn16
    have hn1 : ((n + 1 : Nat) : Int) - (n : Int) = 1 := by omega
    clear i0 i1 i2 il hlen hB7 hd7 hn
    go_wp2_with fail
    go_quiet (fail)
    go_wp2_with fail
    rw [show (n : Int) + 1 - (n : Int) = 1 by omega]
    have hT9 := decText_any (w7.drewN nq) p N _ (HD7.out.below (below_drewN _ nq)) hN
    have B8 := Lib.hid (B7.out.trans ((below_drewN w7 nq).mono B7.out.size))
    refine hT9.mono ?_
    rintro e w9 ⟨rfl, hb9⟩
    have B9 := Lib.hid (B8.out.trans (hb9.mono B8.out.size))
    have hTl : (strL (wholeD N ++ [46, 53])).size ≤ 100 := by
      rw [strL_size, List.length_append]
      have := whole_len hN
      simp
      omega
    obtain ⟨T, hT⟩ : ∃ T, T = strL (wholeD N ++ [46, 53]) := ⟨_, rfl⟩
    rw [← hT] at hTl ⊢
    have HT := Lib.hid hT
    clear hT hT9 hb9
    go_wp2_with fail
    go_ret
    refine ⟨?_, B9.out⟩
    rw [HS.out, HT.out]
    exact congrArg (fun x => Ending.returned (.string x)) (strL_append [45] (wholeD N ++ [46, 53]))
end Go.Proofs.YtpigccnlembfdaaGreatDoor
